/-
  Range trees: a step, a run.
-/
import Derived.Test.YtfokodpnoiilbaaRB
namespace Go.Proofs.Ytfokodpnoiilbaa.E
open Go
set_option linter.unusedSimpArgs false
set_option linter.unusedVariables false
set_option maxRecDepth 100000
set_option maxHeartbeats 8000000

/-! ## Plain: by values -/
section
variable {α β : Type}
def mapON : (n : Nat) → (α → β) → ON α n → ON β n
  | 0, f, e => f e
  | n + 1, f, L => ((L : List (Int × ON α n)).map fun p => (p.1, mapON n f p.2) : List (Int × ON β n))
theorem mapON_new (f : α → β) : ∀ (n : Nat) (k : List Int) (e : α), mapON n f (newON n k e) = newON n k (f e)
  | 0, _, _ => rfl
  | n + 1, [], _ => rfl
  | n + 1, v :: vs, e => by
    show [(v, mapON n f (newON n vs e))] = [(v, newON n vs (f e))]
    rw [mapON_new f n]
theorem map_ins {γ δ : Type} {h : γ → δ} {f : γ → γ} {g : δ → δ} {v : Int} {x0 : γ} : ∀ {L : List (Int × γ)}, (∀ p ∈ L, h (f p.2) = g (h p.2)) → (insL v f x0 L).map (fun p => (p.1, h p.2)) = insL v g (h x0) (L.map fun p => (p.1, h p.2))
  | [], _ => rfl
  | p :: L, hh => by
    have ih := map_ins (h := h) (f := f) (g := g) (v := v) (x0 := x0) (L := L) fun q hq => hh q (List.mem_cons_of_mem _ hq)
    show List.map (fun p => (p.1, h p.2)) (if p.1 < v then p :: insL v f x0 L else if p.1 = v then (v, f p.2) :: L else (v, x0) :: p :: L) = (if p.1 < v then (p.1, h p.2) :: insL v g (h x0) (L.map fun p => (p.1, h p.2)) else if p.1 = v then (v, g (h p.2)) :: L.map (fun p => (p.1, h p.2)) else (v, h x0) :: (p.1, h p.2) :: L.map fun p => (p.1, h p.2))
    split
    · rw [List.map_cons, ih]
    · split
      · rw [List.map_cons, hh p List.mem_cons_self]
      · rfl
theorem mapON_add (f : α → β) : ∀ (n : Nat) (L : ON α n) (k : List Int) (e : α), mapON n f (addON n L k e) = addON n (mapON n f L) k (f e)
  | 0, _, _, _ => rfl
  | n + 1, L, [], e => rfl
  | n + 1, L, v :: vs, e => by
    show (insL v (fun x => addON n x vs e) (newON n vs e) (L : List (Int × ON α n))).map (fun p => (p.1, mapON n f p.2)) = insL v (fun x => addON n x vs (f e)) (newON n vs (f e)) ((L : List (Int × ON α n)).map fun p => (p.1, mapON n f p.2))
    rw [map_ins (g := fun x => addON n x vs (f e)) fun p _ => mapON_add f n p.2 vs e, mapON_new]
theorem lkp_map {γ δ : Type} {h : γ → δ} {v : Int} : ∀ L : List (Int × γ), lkp v (L.map fun p => (p.1, h p.2)) = (lkp v L).map h
  | [] => rfl
  | p :: L => by
    show (if p.1 = v then some (h p.2) else lkp v (L.map fun p => (p.1, h p.2))) = Option.map h (if p.1 = v then some p.2 else lkp v L)
    split
    · rfl
    · exact lkp_map L
theorem getON_map (f : α → β) : ∀ (n : Nat) (L : ON α n) (k : List Int), getON n (mapON n f L) k = (getON n L k).map f
  | 0, _, _ => rfl
  | n + 1, L, [] => rfl
  | n + 1, L, v :: vs => by
    show (lkp v ((L : List (Int × ON α n)).map fun p => (p.1, mapON n f p.2))).bind _ = ((lkp v (L : List (Int × ON α n))).bind _).map f
    rw [lkp_map]
    cases lkp v (L : List (Int × ON α n)) with
    | none => rfl
    | some x => exact getON_map f n x vs
theorem fltK_map (f : α → β) : ∀ (n : Nat) (L : ON α n), fltK n (mapON n f L) = (fltK n L).map fun q => (q.1, f q.2)
  | 0, _ => rfl
  | n + 1, L => by
    show ((L : List (Int × ON α n)).map fun p => (p.1, mapON n f p.2)).flatMap (fun p => (fltK n p.2).map fun q => (p.1 :: q.1, q.2)) = ((L : List (Int × ON α n)).flatMap fun p => (fltK n p.2).map fun q => (p.1 :: q.1, q.2)).map _
    rw [List.flatMap_map, List.map_flatMap]
    congr 1
    funext p
    show (fltK n (mapON n f p.2)).map _ = _
    rw [fltK_map f n, List.map_map, List.map_map]; rfl
theorem szN_map (f : α → β) (n : Nat) (L : ON α n) : szN n (mapON n f L) = szN n L := by unfold szN; rw [fltK_map, List.length_map]
theorem vis_map (lo hi : Nat → Int) (f : α → β) : ∀ (n i : Nat) (L : ON α n), vis lo hi n i (mapON n f L) = (vis lo hi n i L).map f
  | 0, _, _ => rfl
  | n + 1, i, L => by
    show (((((L : List (Int × ON α n)).map fun p => (p.1, mapON n f p.2)).drop (lbd (lo i) (((L : List (Int × ON α n)).map fun p => (p.1, mapON n f p.2)).map Prod.fst))).takeWhile fun p => decide (p.1 ≤ hi i)).flatMap fun p => vis lo hi n (i + 1) p.2) = List.map f (List.flatMap _ _)
    have e : ((L : List (Int × ON α n)).map fun p => (p.1, mapON n f p.2)).map Prod.fst = (L : List (Int × ON α n)).map Prod.fst := by rw [List.map_map]; rfl
    rw [e, ← List.map_drop, List.takeWhile_map, List.flatMap_map, List.map_flatMap]
    congr 1
    funext p
    exact vis_map lo hi f n (i + 1) p.2
theorem srt_map (f : α → β) : ∀ (n : Nat) (L : ON α n), SrtN n L → SrtN n (mapON n f L)
  | 0, _, _ => trivial
  | n + 1, L, ⟨h1, h2⟩ => by
    refine ⟨List.pairwise_map.2 h1, fun p hp => ?_⟩
    obtain ⟨q, hq, rfl⟩ := List.mem_map.1 hp
    exact srt_map f n q.2 (h2 q hq)
end
def kyP (l : List Int) : Nat → Nat → List Int
  | 0, _ => []
  | m + 1, i => plI l i :: kyP l m (i + 1)
theorem kyD_kyP (e : Dtn) : ∀ m i, kyD e m i = kyP e.pos m i
  | 0, _ => rfl
  | m + 1, i => by unfold kyD kyP; rw [kyD_kyP e m]
theorem kyP_len (l : List Int) : ∀ m i, (kyP l m i).length = m
  | 0, _ => rfl
  | m + 1, i => by unfold kyP; rw [List.length_cons, kyP_len l m]
@[reducible] def OP (dm : Nat) := ON (Option PD) dm
def addP (dm : Nat) (M : OP dm) (x : PD) : OP dm := addON dm M (kyP x.1 dm 1) (some x)
def oldP (dm : Nat) (M : OP dm) (x : PD) : Option PD := (getON dm M (kyP x.1 dm 1)).getD none
def addsP (dm : Nat) (M : OP dm) (xs : List PD) : OP dm := xs.foldl (addP dm) M
def oldsP (dm : Nat) : OP dm → List PD → List (Option PD)
  | _, [] => []
  | M, x :: xs => oldP dm M x :: oldsP dm (addP dm M x) xs
def mapE (dm : Nat) (L : ON (Option Dtn) dm) : OP dm := mapON dm (Option.map Dtn.pl) L
theorem mapE_add (dm : Nat) (L : ON (Option Dtn) dm) (e : Dtn) : mapE dm (addE dm L e) = addP dm (mapE dm L) e.pl := by
  unfold mapE addE addP
  rw [mapON_add, kyD_kyP]; rfl
theorem mapE_old (dm : Nat) (L : ON (Option Dtn) dm) (e : Dtn) : (oldE dm L e).map Dtn.pl = oldP dm (mapE dm L) e.pl := by
  unfold mapE oldE oldP
  rw [getON_map, kyD_kyP]
  show _ = ((getON dm L (kyP e.pos dm 1)).map _).getD none
  cases getON dm L (kyP e.pos dm 1) <;> rfl
theorem mapE_adds (dm : Nat) : ∀ (ys : List Dtn) (L : ON (Option Dtn) dm), mapE dm (addsE dm L ys) = addsP dm (mapE dm L) (ys.map Dtn.pl)
  | [], L => rfl
  | y :: ys, L => by
    show mapE dm (addsE dm (addE dm L y) ys) = addsP dm (addP dm (mapE dm L) y.pl) (ys.map Dtn.pl)
    rw [mapE_adds dm ys, mapE_add]
theorem mapE_olds (dm : Nat) : ∀ (ys : List Dtn) (L : ON (Option Dtn) dm), (oldsE dm L ys).map (Option.map Dtn.pl) = oldsP dm (mapE dm L) (ys.map Dtn.pl)
  | [], L => rfl
  | y :: ys, L => by
    show (oldE dm L y).map Dtn.pl :: (oldsE dm (addE dm L y) ys).map _ = oldP dm (mapE dm L) y.pl :: oldsP dm (addP dm (mapE dm L) y.pl) (ys.map Dtn.pl)
    rw [mapE_olds dm ys, mapE_add, mapE_old]
structure DStp where
  op : Int
  dots : List PD
  low : List Int
  high : List Int
  most : Nat
structure DAns where
  dots : List PD
  is : List Bool
  n : Nat
def ansD (os : List (Option PD)) : DAns := ⟨os.map pdO, os.map Option.isSome, 0⟩
def stepM (dm : Nat) (M : OP dm) (s : DStp) : OP dm := if s.op = 1 then addsP dm M s.dots else M
def stepAn (dm : Nat) (M : OP dm) (s : DStp) : DAns :=
  if s.op = 1 then ansD (oldsP dm M s.dots) else if s.op = 4 then ansD (vis (plI s.low) (plI s.high) dm 1 M) else if s.op = 5 then ansD ((vis (plI s.low) (plI s.high) dm 1 M).take (s.most + 1)) else ⟨[], [], szN dm M⟩
def runM (dm : Nat) (M : OP dm) (ss : List DStp) : OP dm := ss.foldl (stepM dm) M
def runAn (dm : Nat) : OP dm → List DStp → List DAns
  | _, [] => []
  | M, s :: ss => stepAn dm M s :: runAn dm (stepM dm M s) ss
theorem runM_snoc (dm : Nat) (M : OP dm) (ss : List DStp) (s : DStp) : runM dm M (ss ++ [s]) = stepM dm (runM dm M ss) s := by unfold runM; rw [List.foldl_append]; rfl
theorem runAn_snoc (dm : Nat) : ∀ (ss : List DStp) (M : OP dm) (s : DStp), runAn dm M (ss ++ [s]) = runAn dm M ss ++ [stepAn dm (runM dm M ss) s]
  | [], M, s => rfl
  | t :: ss, M, s => by
    show stepAn dm M t :: runAn dm (stepM dm M t) (ss ++ [s]) = stepAn dm M t :: runAn dm (stepM dm M t) ss ++ [stepAn dm (runM dm (stepM dm M t) ss) s]
    rw [runAn_snoc dm ss]; rfl
theorem runAn_length (dm : Nat) : ∀ (ss : List DStp) (M : OP dm), (runAn dm M ss).length = ss.length
  | [], _ => rfl
  | s :: ss, M => by show (runAn dm _ ss).length + 1 = _; rw [runAn_length dm ss]; rfl
def totD (ss : List DStp) : Nat := (ss.map fun s => s.dots.length).sum
theorem totD_snoc (ss : List DStp) (s : DStp) : totD (ss ++ [s]) = totD ss + s.dots.length := by unfold totD; simp
theorem totD_take (ss : List DStp) (n : Nat) : totD (ss.take n) ≤ totD ss := by
  conv => rhs; rw [← List.take_append_drop n ss]
  unfold totD
  rw [List.map_append, List.sum_append]
  omega
/-- What a step asks. -/
def okD (s : DStp) : Prop := (∀ x ∈ s.dots, x.1.length < 1000) ∧ s.low.length < 1000 ∧ s.high.length < 1000 ∧ s.most < 4294967296 ∧ (s.op = 1 ∨ s.op = 4 ∨ s.op = 5 ∨ s.op = 6)
/-! ## In memory -/
def TrB (w : World) (base tb dm B : Nat) (M : OP dm) : Prop := ∃ L, TrR w base tb dm B L ∧ mapE dm L = M
theorem FX.trB {base' : Nat} {ts : List TypeId} {w w' : World} {base tb dm B : Nat} {M : OP dm} (h : TrB w base tb dm B M) (f : FX base' ts w w') (ht : ∀ u ∈ ts, u ≠ 224 ∧ u ≠ 188 ∧ u ≠ 221 ∧ u ≠ 2) : TrB w' base tb dm B M := by
  obtain ⟨L, h1, h2⟩ := h
  exact ⟨L, f.tr h1 ht, h2⟩
theorem TrB.fr0 {w w' : World} {base tb dm B : Nat} {M : OP dm} (h : TrB w base tb dm B M) (f : Fr (fun _ => False) w w') : TrB w' base tb dm B M := FX.trB (ts := []) (base' := 0) h (.of0 f) fun u hu => by cases hu
theorem TrR.le {w : World} {base tb dm B B' : Nat} {L : ON (Option Dtn) dm} (h : TrR w base tb dm B L) (hb : B ≤ B') : TrR w base tb dm B' L := by
  obtain ⟨D, s, pp, pl, pc, h1, h2, h3, h4⟩ := h
  exact ⟨D, s, pp, pl, pc, h1, ⟨h2.hx, h2.nd, h2.sr, fun b hb' => by have := h2.b1 b hb'; omega, fun b hb' => by have := h2.b2 b hb'; omega⟩, h3, by omega⟩
theorem TrB.le {w : World} {base tb dm B B' : Nat} {M : OP dm} (h : TrB w base tb dm B M) (hb : B ≤ B') : TrB w base tb dm B' M := by
  obtain ⟨L, h1, h2⟩ := h
  exact ⟨L, h1.le hb, h2⟩
def DStK : Rk DStp := ⟨49, 9, fun w g s => ∃ on p c pl cl ph ch dim idx num, g 0 = some (.int .i64 s.op) ∧ g 1 = some (.int .i64 on) ∧ g 2 = some (.slice p s.dots.length c) ∧ g 3 = some (.slice pl s.low.length cl) ∧ g 4 = some (.slice ph s.high.length ch) ∧ g 5 = some (.int .u64 dim) ∧ g 6 = some (.int .i64 idx) ∧ g 7 = some (.int .i64 num) ∧ g 8 = some (.int .i64 ((s.most : Nat) : Int)) ∧ Sl (DoK 87) w p s.dots ∧ Sl In64K w pl s.low ∧ Sl In64K w ph s.high, [87, 2],
  fun h ⟨on, p, c, pl, cl, ph, ch, dim, idx, num, h0, h1, h2, h3, h4, h5, h6, h7, h8, h9⟩ => ⟨on, p, c, pl, cl, ph, ch, dim, idx, num, by rw [← h 0 (by decide)]; exact h0, by rw [← h 1 (by decide)]; exact h1, by rw [← h 2 (by decide)]; exact h2, by rw [← h 3 (by decide)]; exact h3, by rw [← h 4 (by decide)]; exact h4, by rw [← h 5 (by decide)]; exact h5, by rw [← h 6 (by decide)]; exact h6, by rw [← h 7 (by decide)]; exact h7, by rw [← h 8 (by decide)]; exact h8, h9⟩,
  fun f hd ⟨on, p, c, pl, cl, ph, ch, dim, idx, num, h0, h1, h2, h3, h4, h5, h6, h7, h8, h9, h10, h11⟩ => ⟨on, p, c, pl, cl, ph, ch, dim, idx, num, h0, h1, h2, h3, h4, h5, h6, h7, h8, sl_dp h9 f hd (by simp [DoK]) (fun u hu => by simp [DoK] at hu; simp [hu]), sl_dp h10 f hd (by simp [In64K]) (fun u hu => by cases hu), sl_dp h11 f hd (by simp [In64K]) (fun u hu => by cases hu)⟩⟩
def DAnK : Rk DAns := ⟨59, 4, fun w g s => ∃ p c q d, g 0 = some (.slice p s.dots.length c) ∧ g 1 = some (.slice q s.is.length d) ∧ g 2 = some (.slice none 0 0) ∧ g 3 = some (.int .u64 ((s.n : Nat) : Int)) ∧ Sl (DoK 87) w p s.dots ∧ Sl BoK w q s.is, [87, 2, 4],
  fun h ⟨p, c, q, d, h0, h1, h2, h3, h4⟩ => ⟨p, c, q, d, by rw [← h 0 (by decide)]; exact h0, by rw [← h 1 (by decide)]; exact h1, by rw [← h 2 (by decide)]; exact h2, by rw [← h 3 (by decide)]; exact h3, h4⟩,
  fun f hd ⟨p, c, q, d, h0, h1, h2, h3, h4, h5⟩ => ⟨p, c, q, d, h0, h1, h2, h3, sl_dp h4 f hd (by simp [DoK]) (fun u hu => by simp [DoK] at hu; simp [hu]), sl_dp h5 f hd (by simp [BoK]) (fun u hu => by simp [BoK] at hu)⟩⟩
def z59 : Value := .agg #[.slice none 0 0, .slice none 0 0, .slice none 0 0, .int .u64 0]
theorem und55 : Try.prog.underlying 55 = some (.slice 59) := by kernel_rfl
theorem inf59 : ∃ i, Try.prog.info? 59 = some i ∧ i.zero = some z59 ∧ i.size = 4 ∧ i.bytes ≤ 4096 := ⟨_, rfl, by kernel_rfl, by kernel_rfl, Nat.le_of_ble_eq_true (by kernel_rfl)⟩
theorem fill59 (p : Option Addr) (l c : Nat) (q : Option Addr) (m d : Nat) (r : Option Addr) (a b : Nat) (i : Int) : ∀ i' : TypeInfo, i'.size = 4 → Instr.fill (fun j => some (j * i'.size, i'.size)) ((Array.range (1 * i'.size)).map (z59.cells[· % z59.cells.size]!)) [(0, .agg #[.slice p l c, .slice q m d, .slice r a b, .int .u64 i])] = some [.slice p l c, .slice q m d, .slice r a b, .int .u64 i].toArray := by
  intro i' h; rw [h]; kernel_rfl
theorem m_radd (p a : Option Addr) (l c : Nat) (w : World) : (callMethod (.iface 140 (.pointer p)) "Add" [.slice a l c].toArray).run Try.prog w = .ok (.enter 110 #[.pointer p, .slice a l c]) w := by kernel_rfl
theorem m_rlen (p : Option Addr) (w : World) : (callMethod (.iface 140 (.pointer p)) "Len" [].toArray).run Try.prog w = .ok (.enter 115 #[.pointer p]) w := by kernel_rfl
theorem m_rque (p : Option Addr) (v : Value) (w : World) : (callMethod (.iface 140 (.pointer p)) "Query" [v].toArray).run Try.prog w = .ok (.enter 116 #[.pointer p, v]) w := by kernel_rfl
theorem m_rapp (p : Option Addr) (v f : Value) (w : World) : (callMethod (.iface 140 (.pointer p)) "Apply" [v, f].toArray).run Try.prog w = .ok (.enter 111 #[.pointer p, v, f]) w := by kernel_rfl
section
variable {w : World} {k : Value → W}
theorem mo_radd {p : Option Addr} {x : W} (h : x w) : MethOk Try.prog (.func (.method "Add") #[.iface 140 (.pointer p)] #[]) x w := ⟨fun w' => by kernel_rfl, h⟩
theorem mo_rque {p : Option Addr} {x : W} (h : x w) : MethOk Try.prog (.func (.method "Query") #[.iface 140 (.pointer p)] #[]) x w := ⟨fun w' => by kernel_rfl, h⟩
theorem mo_rapp {p : Option Addr} {x : W} (h : x w) : MethOk Try.prog (.func (.method "Apply") #[.iface 140 (.pointer p)] #[]) x w := ⟨fun w' => by kernel_rfl, h⟩
theorem back_da {f : Option Addr → Nat → Nat → Option Addr → Nat → Nat → Option Addr → Nat → Nat → Int → W} {p q r : Option Addr} {l c m d a b : Nat} {n : Int} (h : f p l c q m d r a b n w) : Back (.s (.agg [.slice, .slice, .slice, (.int .u64)])) f (.returned (.agg #[.slice p l c, .slice q m d, .slice r a b, .int .u64 n])) w := ⟨((p, l, c), (q, m, d), (r, a, b), n, ()), rfl, h⟩
/-- The answer is written, and read. -/
theorem fin33 {n : Nat} {vs : List Value} {p q r : Option Addr} {l c m d a b : Nat} {x : Int} (hB : Blk w n 59 vs) (hv : vs.length = 4) (hk : ∀ w', Fr (fun b => b = n) w w' → k (.agg #[.slice p l c, .slice q m d, .slice r a b, .int .u64 x]) w') :
    (Store1 ⟨n, 0, none⟩ (.slice p l c) <|
     Store1 ⟨n, 1, none⟩ (.slice q m d) <|
     Store1 ⟨n, 2, none⟩ (.slice r a b) <|
     Store1 ⟨n, 3, none⟩ (.int .u64 x) <|
     LoadT .slice ⟨n, 0, none⟩ fun s1p s1l s1c =>
     LoadT .slice ⟨n, 1, none⟩ fun s2p s2l s2c =>
     LoadT .slice ⟨n, 2, none⟩ fun s3p s3l s3c =>
     LoadT (.int .u64) ⟨n, 3, none⟩ fun x4 =>
     k (.agg #[.slice s1p s1l s1c, .slice s2p s2l s2c, .slice s3p s3l s3c, .int .u64 x4])) w := by
  obtain ⟨v0, v1, v2, v3, rfl⟩ : ∃ v0 v1 v2 v3, vs = [v0, v1, v2, v3] := by
    match vs, hv with
    | [v0, v1, v2, v3], _ => exact ⟨v0, v1, v2, v3, rfl⟩
  refine store_intro (i := 0) hB (by simp) rfl fun w1 b1 f1 z1 => ?_
  refine store_intro (i := 1) b1 (by simp) rfl fun w2 b2 f2 z2 => ?_
  refine store_intro (i := 2) b2 (by simp) rfl fun w3 b3 f3 z3 => ?_
  refine store_intro (i := 3) b3 (by simp) rfl fun w4 b4 f4 z4 => ?_
  have b4 : Blk w4 n 59 [.slice p l c, .slice q m d, .slice r a b, .int .u64 x] := b4
  refine load_slice (i := 0) b4 rfl (load_slice (i := 1) b4 rfl (load_slice (i := 2) b4 rfl (load_int (i := 3) b4 rfl ?_)))
  exact hk w4 (((f1.trans f2 fun _ h => .inl h).trans f3 fun _ h => .inl h).trans f4 fun _ h => .inl h)
/-- between. -/
theorem F68_spec {bx : Bx} {x1 x2 : Int} {s3p : Option Addr} {s3l s3c : Nat} {x6 x7 x8 x9 : Int} (hk : ∀ w', Fr (fun _ => False) w w' → k bx.v w') : F68 k x1 x2 s3p s3l s3c bx.p bx.lo.length bx.c bx.q bx.hi.length bx.d x6 x7 x8 x9 w := by
  unfold F68
  refine new_intro fun n w1 e1 b1 f1 z1 => load_slice (i := 3) b1 rfl (load_slice (i := 4) b1 rfl (hk w1 f1))
end
end Go.Proofs.Ytfokodpnoiilbaa.E
