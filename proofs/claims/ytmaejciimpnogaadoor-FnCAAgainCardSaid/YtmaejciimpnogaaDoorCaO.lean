/-
  Caches: items got; several keys taken out; a new cache; keys as strings.
-/
import Derived.Test.YtmaejciimpnogaaDoorCaN
namespace Go.Proofs.YtmaejciimpnogaaDoor.E
open Go
set_option linter.unusedSimpArgs false
set_option linter.unusedVariables false
set_option maxRecDepth 100000
set_option maxHeartbeats 8000000

/-! ## Plain -/
def look (k : ByteArray) (L : List Cit) : Option Cit := L.find? fun i => decide (i.k = k)
def touch (lru : Bool) (L : List Cit) (k : ByteArray) : List Cit := if lru then match look k L with | some i => i :: rem k L | none => L else L
def touches (lru : Bool) (ks : List ByteArray) (L : List Cit) : List Cit := ks.foldl (touch lru) L
def gets (lru : Bool) : List ByteArray → List Cit → List (Option Cit)
  | [], _ => []
  | k :: ks, L => look k L :: gets lru ks (touch lru L k)
theorem touches_snoc (lru : Bool) (ks : List ByteArray) (k : ByteArray) (L : List Cit) : touches lru (ks ++ [k]) L = touch lru (touches lru ks L) k := by unfold touches; rw [List.foldl_append]; rfl
theorem gets_snoc (lru : Bool) : ∀ (ks : List ByteArray) (k : ByteArray) (L : List Cit), gets lru (ks ++ [k]) L = gets lru ks L ++ [look k (touches lru ks L)]
  | [], k, L => rfl
  | a :: ks, k, L => by show _ :: gets lru (ks ++ [k]) _ = _ :: _; rw [gets_snoc lru ks]; rfl
theorem gets_len (lru : Bool) : ∀ (ks : List ByteArray) (L : List Cit), (gets lru ks L).length = ks.length
  | [], _ => rfl
  | a :: ks, L => by show (gets lru ks _).length + 1 = _; rw [gets_len lru ks]; rfl
def oV : Option Cit → Value
  | none => .nilIface
  | some i => itV i
theorem look_find (k : ByteArray) (T : List Tri) : look k (its T) = (find k T).map (·.1) := by
  unfold look find its
  rw [List.find?_map]; rfl
theorem touch_tot {lru : Bool} {L : List Cit} {k : ByteArray} (C : Nat) (h : OkT C L) (hn : (L.map Cit.k).Nodup) : OkT C (touch lru L k) ∧ ((touch lru L k).map Cit.k).Nodup := by
  unfold touch
  cases lru with
  | false => exact ⟨h, hn⟩
  | true =>
    simp only [if_true]
    cases hl : look k L with
    | none => exact ⟨h, hn⟩
    | some i =>
      unfold look at hl
      rw [List.find?_eq_some_iff_append] at hl
      obtain ⟨h1, xs, ys, rfl, h2⟩ := hl
      have h1 : i.k = k := by simpa using h1
      have hx : ∀ x ∈ xs, x.k ≠ k := fun x hx => by simpa using h2 x hx
      rw [List.map_append, List.map_cons] at hn
      obtain ⟨n1, n2, n3⟩ := List.nodup_append.1 hn
      obtain ⟨n4, n5⟩ := List.nodup_cons.1 n2
      have hy : ∀ y ∈ ys, y.k ≠ k := fun y hy e => n4 (by rw [h1, ← e]; exact List.mem_map_of_mem hy)
      have hr : rem k (xs ++ i :: ys) = xs ++ ys := by
        unfold rem
        rw [List.filter_append, List.filter_cons_of_neg (by simpa using h1), List.filter_eq_self.2 (fun x h => by simpa using hx x h), List.filter_eq_self.2 (fun x h => by simpa using hy x h)]
      show OkT C (i :: rem k (xs ++ i :: ys)) ∧ ((i :: rem k (xs ++ i :: ys)).map Cit.k).Nodup
      rw [hr]
      refine ⟨⟨h.c, fun j hj => h.s j ?_, ?_⟩, ?_⟩
      · simp only [List.mem_cons, List.mem_append] at hj ⊢
        rcases hj with h | h | h
        · exact .inr (.inl h)
        · exact .inl h
        · exact .inr (.inr h)
      · have := h.t
        simp at this ⊢; omega
      · rw [List.map_cons, List.map_append]
        refine List.nodup_cons.2 ⟨fun hm => ?_, List.nodup_append.2 ⟨n1, n5, fun a ha b hb => n3 a ha b (List.mem_cons_of_mem _ hb)⟩⟩
        rcases List.mem_append.1 hm with hm | hm
        · exact n3 _ hm _ (List.mem_cons_self ..) rfl
        · exact n4 hm
def kst (z : Int) : ByteArray := (⟨#[48, 49, 50, 51, 52, 53, 54, 55, 56, 57, 97, 98, 99, 100, 101, 102, 103, 104, 105, 106, 107, 108, 109, 110, 111, 112, 113, 114, 115, 116, 117, 118, 119, 120, 121, 122]⟩ : ByteArray).extract z.toNat (addI .i64 z 1).toNat
theorem und56 : Tryd.prog.underlying 56 = some (.slice 9) := by kernel_rfl
theorem inf9 : ∃ i, Tryd.prog.info? 9 = some i ∧ i.zero = some (.string ByteArray.empty) ∧ i.size = 1 ∧ i.bytes ≤ 4096 := ⟨_, rfl, by kernel_rfl, by kernel_rfl, Nat.le_of_ble_eq_true (by kernel_rfl)⟩
theorem und54 : Tryd.prog.underlying 54 = some (.slice 59) := by kernel_rfl
theorem inf59 : ∃ i, Tryd.prog.info? 59 = some i ∧ i.zero = some .nilIface ∧ i.size = 1 ∧ i.bytes ≤ 65536 := ⟨_, rfl, by kernel_rfl, by kernel_rfl, Nat.le_of_ble_eq_true (by kernel_rfl)⟩
theorem und41 : Tryd.prog.underlying 41 = some (.slice 43) := by kernel_rfl
theorem inf43 : ∃ i, Tryd.prog.info? 43 = some i ∧ i.zero = some .nilFunc ∧ i.size = 1 ∧ i.bytes ≤ 4096 := ⟨_, rfl, by kernel_rfl, by kernel_rfl, Nat.le_of_ble_eq_true (by kernel_rfl)⟩
theorem ent20 : ∀ args w, (callFunc 20 args).run Tryd.prog w = .ok (.enter 20 args) w := enters_of Tryd.func20 (by kernel_rfl) rfl
theorem callV_enter {P : Program} {f : FuncId} {args caps : Array Value} {w : World} (h : ∀ args w, (callFunc f args).run P w = .ok (.enter f args) w) :
    (callV (.func (.func f) #[] caps) args).run P w = .ok (.enter f (args ++ caps)) w := by
  have e := h (args ++ caps) w
  simp [callV, Deferred.ofValue, invoke, e]
section
variable {w : World} {k : Value → W} {cb mb lb C : Nat} {lru : Bool} {T : List Tri} {kb : ByteArray}
theorem back_str {f : ByteArray → W} {n : ByteArray} (h : f n w) : Back (.s (.one .str)) f (.returned (.string n)) w := ⟨(n, ()), rfl, h⟩
theorem F13_spec {z : Int} (h : 0 ≤ z ∧ z < 10) (hk : k (.string (kst z)) w) : F13 k z w := by
  unfold F13
  refine F24_call ?_
  unfold F24
  refine F28_call ?_
  unfold F28
  rw [show ((10 : Int) == 10) = true from rfl, BIf_true, decide_eq_true h.1, BIf_true]
  unfold F28_J1
  rw [decide_eq_true (show z < 100 by omega), BIf_true]
  refine F32_call ?_
  unfold F32
  rw [decide_eq_true h.2, BIf_true]
  have e : addI .i64 z 1 = z + 1 := addI_i64 (by omega) (by omega)
  refine Req_iff.2 ⟨⟨by omega, ?_⟩, Req_iff.2 ⟨⟨by omega, by omega⟩, back_str (back_str (back_str hk))⟩⟩
  rw [e]
  show z + 1 ≤ ((36 : Nat) : Int)
  omega
/-- Keys as strings. -/
theorem F14_spec {p : Option Addr} {c : Nat} {zs : List Int} (hz : Ints w p zs) (hb : ∀ z ∈ zs, 0 ≤ z ∧ z < 10) (hl : zs.length < 1000) (hk : ∀ w' p' c', Own w' 9 p' zs.length c' ((zs.map kst).map Value.string) → Fr (fun _ => False) w w' → k (.slice p' zs.length c') w') :
    F14 k p zs.length c w := by
  unfold F14
  refine F14_L1_rule (I := fun op ol oc p' l c' m i w' => p' = p ∧ l = zs.length ∧ m = ((zs.length : Nat) : Int) ∧ ∃ t : Nat, i = ((t : Nat) : Int) ∧ t ≤ zs.length ∧ ol = t ∧ Own w' 9 op ol oc (((zs.take t).map kst).map Value.string) ∧ (∀ b, bl op b → w.heap.size ≤ b) ∧ Fr (fun _ => False) w w')
    (μ := fun op ol oc p' l c' m i w' => zs.length - i.toNat) ?_ ⟨rfl, rfl, rfl, 0, rfl, Nat.zero_le _, rfl, Own.nil _ _, (fun b ⟨_, h, _⟩ => by cases h), Fr.refl _ _⟩
  rintro op ol oc p' l c' m i w1 ⟨e0, e1, rfl, t, rfl, ht, rfl, hO, hop, f1⟩
  obtain rfl := e0.symm
  unfold F14_L1
  rw [e1]
  by_cases hlt : ol < zs.length
  · rw [decide_eq_true (show ((ol : Nat) : Int) < ((zs.length : Nat) : Int) by omega), BIf_true]
    have hx : zs[ol]? = some zs[ol] := List.getElem?_eq_getElem hlt
    generalize zs[ol] = x at hx
    obtain ⟨a, rfl, ha⟩ := (hz.fr0 f1) _ x hx
    rw [NN_mk, Req_iff, Int.toNat_natCast]
    refine ⟨by omega, LoadT_int.2 ⟨_, ha, F13_call (F13_spec (hb x (List.mem_of_getElem? hx)) (back_str ?_))⟩⟩
    obtain ⟨i9, g1, g2, g3, g4⟩ := inf9
    refine append1 (P := Tryd.prog) und56 g1 g2 g3 rfl g4 hO (v := .string (kst x)) rfl rfl (by omega) fun p2 c2 w2 f2 o2 hp2 z2 => ?_
    rw [addI_i64 (by omega) (by omega)]
    refine ⟨⟨by trivial, by trivial, by trivial, ol + 1, by omega, hlt, by trivial, ?_, fun b hb' => ?_, f1.trans f2 fun b hb' => .inr (hop b hb')⟩, ?_⟩
    · rw [take_snoc hx, List.map_append, List.map_append]; exact o2
    · have := f1.size
      rcases hp2 b hb' with h | h
      · exact hop b h
      · omega
    · show zs.length - (((ol : Nat) : Int) + 1).toNat < zs.length - ((ol : Nat) : Int).toNat
      omega
  · rw [decide_eq_false (show ¬ ((ol : Nat) : Int) < ((zs.length : Nat) : Int) by omega), BIf_false]
    have : ol = zs.length := by omega
    subst this
    rw [List.take_length] at hO
    exact hk w1 op oc hO f1
/-- A key is reported: the element is moved to the front. -/
theorem F22_spec {t : Tri} (h : CM w cb mb lb lru C T) (hf : find kb T = some t) (hk : ∀ w' T' v, CM w' cb mb lb lru C T' → its T' = t.1 :: rem kb (its T) → (∀ t, t ∈ T' ↔ t ∈ T) → Fr (fun b => b ∈ lb :: els T) w w' → k (.pointer v) w') :
    F22 k (some ⟨cb, 0, none⟩) kb w := by
  obtain ⟨l, hm, hnd, hg⟩ := h.m
  obtain ⟨key, hq, hkey⟩ := h.q
  obtain ⟨htk, xs, ys, rfl, hx, hy⟩ := find_split hf h.n
  have htm : t ∈ xs ++ t :: ys := by simp
  unfold F22
  simp only [NN_mk, add_mk, Nat.zero_add]
  refine load_map (i := 2) h.b rfl (look_pb hm (hg kb) ?_)
  rw [hf, show (some t).isSome = true from rfl, BIf_true]
  refine drw_intro fun w1 f1 z1 => ?_
  have h1 := h.fr0 f1
  refine load_ptr (i := 3) h1.b rfl ?_
  show NN (some ⟨t.2.2, 0, none⟩) _ w1
  simp only [NN_mk, add_mk, Nat.zero_add]
  refine load_ptr (i := 1) (h1.d t htm) rfl ?_
  have q1 := hq.fr f1 fun x _ => id
  have eels : els (xs ++ t :: ys) = els xs ++ t.2.1 :: els ys := by simp [els]
  have q1' := q1
  rw [eels] at q1'
  refine F25_call (F25_spec q1' fun w2 q2 f2 z2 => back0 ?_)
  rw [← eels] at f2
  have q1ty := q1.ty
  have nb : ∀ {b t' us}, Blk w1 b t' us → t' ∉ [83, 85] → ¬ (b ∈ lb :: els (xs ++ t :: ys)) := fun hb ht hm => ht (q1ty _ _ _ hm hb)
  have d2 : ∀ x ∈ xs ++ t :: ys, Blk w2 x.2.2 80 [itV x.1, pb x.2.1] := fun x hx => (h1.d x hx).fr f2 (nb (h1.d x hx) (by decide))
  show NN (some ⟨t.2.2, 0, none⟩) _ w2
  simp only [NN_mk, add_mk, Nat.zero_add]
  refine load_ptr (i := 1) (d2 t htm) rfl ?_
  have hmem : ∀ x, x ∈ t :: (xs ++ ys) ↔ x ∈ xs ++ t :: ys := fun x => by simp only [List.mem_cons, List.mem_append]; exact ⟨fun h => by rcases h with h | h | h <;> simp [h], fun h => by rcases h with h | h | h <;> simp [h]⟩
  refine hk w2 (t :: (xs ++ ys)) _ ⟨?_, ⟨l, (hm.fr f1 id).fr f2 fun hx => ?_, hnd, fun k' => ?_⟩, ⟨key, ?_, fun x hx' => hkey x ((hmem x).1 hx')⟩, fun x hx' => d2 x ((hmem x).1 hx'), ?_⟩ ?_ hmem ((f1.mono fun _ h => h.elim).trans f2 fun b hb => .inl hb)
  · have e1 : tot (its (t :: (xs ++ ys))) = tot (its (xs ++ t :: ys)) := by simp [its]; omega
    rw [e1]
    exact h1.b.fr f2 (nb h1.b (by decide))
  · obtain ⟨nx, pv, hN, _⟩ := q1
    obtain ⟨u, us, hb, _⟩ := (hN mb hx).blk
    exact (hm.fr f1 id).not_blk hb rfl
  · rw [hg]
    congr 1
    by_cases e : t.1.k = k'
    · rw [find_at (fun x hx' e' => hx x hx' (by rw [e', ← e, htk])) e]
      exact (find_at (xs := []) (ys := xs ++ ys) (fun x hx' => by cases hx') e).symm
    · unfold find
      rw [List.find?_append, List.find?_cons_of_neg (by simpa using e), List.find?_cons_of_neg (by simpa using e), List.find?_append]
  · have : els (t :: (xs ++ ys)) = t.2.1 :: (els xs ++ els ys) := by simp [els]
    rw [this]; exact q2
  · have hn := h.n
    rw [List.map_append, List.map_cons] at hn
    obtain ⟨n1, n2, n3⟩ := List.nodup_append.1 hn
    obtain ⟨n4, n5⟩ := List.nodup_cons.1 n2
    rw [List.map_cons, List.map_append]
    refine List.nodup_cons.2 ⟨fun hm => ?_, List.nodup_append.2 ⟨n1, n5, fun a ha b hb => n3 a ha b (List.mem_cons_of_mem _ hb)⟩⟩
    rcases List.mem_append.1 hm with hm | hm
    · exact n3 _ hm _ (List.mem_cons_self ..) rfl
    · exact n4 hm
  · rw [rem_at hx hy htk]; rfl
theorem replicate_snoc {α : Type} (A : List α) (a b : α) (n : Nat) : (A ++ List.replicate (n + 1) a).set A.length b = (A ++ [b]) ++ List.replicate n a := by
  rw [List.set_append_right _ _ (Nat.le_refl _), Nat.sub_self, List.replicate_succ, List.set_cons_zero]; simp
theorem CM.nk (h : CM w cb mb lb lru C T) : ((its T).map Cit.k).Nodup := by
  have := h.n
  unfold its
  rw [List.map_map]; exact this
/-- Get. -/
theorem F61_spec {kp : Option Addr} {kc : Nat} {ks : List ByteArray} (h : CM w cb mb lb lru C T) (hK : Own w 9 kp ks.length kc (ks.map Value.string)) (hl : ks.length < 1000)
    (hk : ∀ w' T' q, CM w' cb mb lb lru C T' → its T' = touches lru ks (its T) → (∀ t, t ∈ T' ↔ t ∈ T) → w.heap.size ≤ q → Blk w' q 59 ((gets lru ks (its T)).map oV) → Fr (fun b => b ∈ lb :: els T) w w' → k (.slice (some ⟨q, 0, none⟩) ks.length ks.length) w') :
    F61 k (some ⟨cb, 0, none⟩) kp ks.length kc w := by
  unfold F61
  obtain ⟨i59, g1, g2, g3, g4⟩ := inf59
  refine make_intro ks.length ks.length und54 g1 g2 g3 rfl g4 (by omega) (Nat.le_refl _) fun w1 f1 _ b1 z1 => ?_
  refine F61_L1_rule (I := fun c ip il ic p l c' m i w' => c = some ⟨cb, 0, none⟩ ∧ ip = some ⟨w.heap.size, 0, none⟩ ∧ il = ks.length ∧ ic = ks.length ∧ p = kp ∧ l = ks.length ∧ m = ((ks.length : Nat) : Int) ∧ ∃ (t : Nat) (U : List Tri), i = ((t : Nat) : Int) ∧ t ≤ ks.length ∧ CM w' cb mb lb lru C U ∧ its U = touches lru (ks.take t) (its T) ∧ (∀ t, t ∈ U ↔ t ∈ T) ∧
      Blk w' w.heap.size 59 ((gets lru (ks.take t) (its T)).map oV ++ List.replicate (ks.length - t) .nilIface) ∧ Fr (fun b => b ∈ lb :: els T ∨ b = w.heap.size) w1 w')
    (μ := fun c ip il ic p l c' m i w' => ks.length - i.toNat) ?_ ⟨rfl, rfl, rfl, rfl, rfl, rfl, rfl, 0, T, rfl, Nat.zero_le _, h.fr0 f1, rfl, fun _ => Iff.rfl, by simpa [gets] using b1, Fr.refl _ _⟩
  rintro _ _ il ic p l c' m i w2 ⟨rfl, rfl, e1, e2, e3, e4, rfl, t, U, rfl, ht, hU, hit, hmem, bI, f2⟩
  obtain rfl := e3.symm
  have hGl : ∀ b, b ∈ lb :: els T → b < w.heap.size := fun b hb => h.lt (.inr (.inr hb))
  have helU : ∀ b, b ∈ lb :: els U → b ∈ lb :: els T := fun b hb => by
    rcases List.mem_cons.1 hb with hb | hb
    · simp [hb]
    · obtain ⟨t, ht, rfl⟩ := List.mem_map.1 hb
      exact List.mem_cons_of_mem _ (List.mem_map_of_mem ((hmem t).1 ht))
  have hKb : ∀ b, bl kp b → ¬ (b ∈ lb :: els T ∨ b = w.heap.size) := fun b hb hx => by
    obtain ⟨us, hu⟩ := hK.blk hb
    rcases hx with hx | hx
    · have := h.ty b _ _ (.inr (.inr hx)) hu; simp at this
    · have := hu.lt; omega
  have hK2 := (hK.fr f1 fun _ _ => id).fr f2 hKb
  unfold F61_L1
  rw [e1, e2, e4]
  by_cases hlt : t < ks.length
  · rw [decide_eq_true (show ((t : Nat) : Int) < ((ks.length : Nat) : Int) by omega), BIf_true]
    have hx : ks[t]? = some ks[t] := List.getElem?_eq_getElem hlt
    generalize ks[t] = kb at hx
    obtain ⟨q, rest, rfl, _⟩ := hK2.get (by omega)
    rw [NN_mk, Req_iff, Int.toNat_natCast]
    refine ⟨by omega, ?_⟩
    simp only [add_mk, Nat.zero_add]
    refine ⟨kb, by rw [hK2.cell hlt, List.getElem?_map, hx]; rfl, ?_⟩
    simp only [NN_mk, add_mk, Nat.zero_add]
    obtain ⟨l', hm, hnd, hg⟩ := hU.m
    refine load_map (i := 2) hU.b rfl (look_p hm (hg kb) ?_)
    have hlk : look kb (its U) = (find kb U).map (·.1) := look_find kb U
    have hgl := gets_len lru (ks.take t) (its T)
    have hAl : ((gets lru (ks.take t) (its T)).map oV).length = t := by rw [List.length_map, hgl, List.length_take]; omega
    have hset : ∀ v, ((gets lru (ks.take t) (its T)).map oV ++ List.replicate (ks.length - t) Value.nilIface).set t v = ((gets lru (ks.take t) (its T)).map oV ++ [v]) ++ List.replicate (ks.length - (t + 1)) .nilIface := fun v => by
      have := replicate_snoc ((gets lru (ks.take t) (its T)).map oV) Value.nilIface v (ks.length - (t + 1))
      rw [hAl, show ks.length - (t + 1) + 1 = ks.length - t by omega] at this
      exact this
    have hgs : (gets lru (ks.take (t + 1)) (its T)).map oV = (gets lru (ks.take t) (its T)).map oV ++ [oV ((find kb U).map (·.1))] := by
      rw [take_snoc hx, gets_snoc, List.map_append, ← hit, hlk]; rfl
    have hts : touches lru (ks.take (t + 1)) (its T) = touch lru (its U) kb := by rw [take_snoc hx, touches_snoc, ← hit]
    have hil : t < ((gets lru (ks.take t) (its T)).map oV ++ List.replicate (ks.length - t) Value.nilIface).length := by rw [List.length_append, hAl, List.length_replicate]; omega
    have keepI : ∀ {w3 w4 : World}, CM w3 cb mb lb lru C U → True := fun _ => trivial
    have store : ∀ {w3 : World} {V : List Tri} {v : Value} {kk : W}, oneC v = true → Blk w3 w.heap.size 59 ((gets lru (ks.take t) (its T)).map oV ++ List.replicate (ks.length - t) Value.nilIface) → CM w3 cb mb lb lru C V →
        (∀ w4, Blk w4 w.heap.size 59 (((gets lru (ks.take t) (its T)).map oV ++ [v]) ++ List.replicate (ks.length - (t + 1)) .nilIface) → CM w4 cb mb lb lru C V → Fr (fun b => b = w.heap.size) w3 w4 → kk w4) → Store1 ⟨w.heap.size, t, none⟩ v kk w3 := fun {w3 V v kk} hv hb hc hkk => by
      refine store_intro (i := t) hb hil hv fun w4 b4 f4 z4 => ?_
      rw [hset] at b4
      exact hkk w4 b4 (hc.fr f4 fun b hb' => by have hb' : b = w.heap.size := hb'; subst hb'; exact ⟨_, _, hb, by decide⟩) f4
    cases hf : find kb U with
    | none =>
      show BIf true _ _ w2
      rw [BIf_true]
      refine ⟨by omega, store rfl bI hU fun w4 b4 c4 f4 => ?_⟩
      rw [addI_i64 (by omega) (by omega)]
      refine ⟨⟨by trivial, by trivial, by trivial, by trivial, by trivial, by trivial, by trivial, t + 1, U, by omega, hlt, c4, ?_, hmem, ?_, f2.trans f4 fun b hb => .inl (.inr hb)⟩, ?_⟩
      · rw [hts]; unfold touch
        rw [hlk, hf]
        cases lru <;> rfl
      · rw [hgs, hf]; exact b4
      · show ks.length - (((t : Nat) : Int) + 1).toNat < ks.length - ((t : Nat) : Int).toNat
        omega
    | some x =>
      show BIf false _ _ w2
      rw [BIf_false]
      have hxm : x ∈ U := List.mem_of_find?_eq_some hf
      refine load_any (i := 5) hU.b rfl ?_
      have fin : ∀ (w3 : World) (V : List Tri), CM w3 cb mb lb lru C V → Fr (fun b => b ∈ lb :: els T) w2 w3 → ∀ kk : W, (∀ w4, CM w4 cb mb lb lru C V → Blk w4 w.heap.size 59 ((gets lru (ks.take (t + 1)) (its T)).map oV ++ List.replicate (ks.length - (t + 1)) .nilIface) → Fr (fun b => b ∈ lb :: els T ∨ b = w.heap.size) w1 w4 → kk w4) →
          Store1 ⟨w.heap.size, t, none⟩ (itV x.1) kk w3 := fun w3 V cV f3 kk hkk => by
        have bI3 := bI.fr f3 fun hb => by have := hGl _ hb; omega
        refine store rfl bI3 cV fun w4 b4 c4 f4 => hkk w4 c4 (by rw [hgs, hf]; exact b4) ((f2.trans f3 fun b hb => .inl (.inl hb)).trans f4 fun b hb => .inl (.inr hb))
      rw [addI_i64 (by omega) (by omega)]
      have hmu : ks.length - (((t : Nat) : Int) + 1).toNat < ks.length - ((t : Nat) : Int).toNat := by omega
      cases lru with
      | false =>
        refine NextT_enter (callB_enter ent21) (F21_calls ?_)
        unfold F21
        refine back_ptr ?_
        show NN (some ⟨x.2.2, 0, none⟩) _ w2
        simp only [NN_mk, add_mk, Nat.zero_add]
        refine load_any (i := 0) (hU.d x hxm) rfl ⟨by omega, Req_iff.2 ⟨rfl, fin w2 U hU (Fr.refl _ _) _ fun w4 c4 b4 f4 => ?_⟩⟩
        exact ⟨⟨by trivial, by trivial, by trivial, by trivial, by trivial, by trivial, by trivial, t + 1, U, by omega, hlt, c4, by rw [hts]; rfl, hmem, b4, f4⟩, hmu⟩
      | true =>
        refine NextT_enter (callB_enter ent22) (F22_calls (F22_spec hU hf fun w3 V v cV eV mV f3 => back_ptr ?_))
        show NN (some ⟨x.2.2, 0, none⟩) _ w3
        simp only [NN_mk, add_mk, Nat.zero_add]
        refine load_any (i := 0) (cV.d x ((mV x).2 hxm)) rfl ⟨by omega, Req_iff.2 ⟨rfl, fin w3 V cV (f3.mono fun b hb => .inl (helU b hb)) _ fun w4 c4 b4 f4 => ?_⟩⟩
        exact ⟨⟨by trivial, by trivial, by trivial, by trivial, by trivial, by trivial, by trivial, t + 1, V, by omega, hlt, c4, by rw [hts, eV]; unfold touch; rw [hlk, hf]; rfl, fun y => (mV y).trans (hmem y), b4, f4⟩, hmu⟩
  · rw [decide_eq_false (show ¬ ((t : Nat) : Int) < ((ks.length : Nat) : Int) by omega), BIf_false]
    have : t = ks.length := by omega
    subst this
    rw [List.take_length] at hit bI
    rw [Nat.sub_self, List.replicate_zero, List.append_nil] at bI
    exact hk w2 U w.heap.size hU hit hmem (Nat.le_refl _) bI ((f1.mono fun _ h => h.elim).trans f2 fun b hb => by
      rcases hb with h | h
      · exact .inl h
      · exact .inr (by omega))
/-- Remove. -/
def rems (ks : List ByteArray) (L : List Cit) : List Cit := ks.foldl (fun L k => rem k L) L
theorem F63_spec {kp : Option Addr} {kc : Nat} {ks : List ByteArray} (h : CM w cb mb lb lru C T) (ok : OkT C (its T)) (hK : Own w 9 kp ks.length kc (ks.map Value.string)) (hl : ks.length < 1000)
    (hk : ∀ w' T', CM w' cb mb lb lru C T' → its T' = rems ks (its T) → OkT C (its T') → (∀ t, t ∈ T' → t ∈ T) → Fr (G cb mb lb T) w w' → k (.tuple #[]) w') :
    F63 k (some ⟨cb, 0, none⟩) kp ks.length kc w := by
  unfold F63
  refine F63_L1_rule (I := fun c p l c' m i w' => c = some ⟨cb, 0, none⟩ ∧ p = kp ∧ l = ks.length ∧ m = ((ks.length : Nat) : Int) ∧ ∃ (t : Nat) (U : List Tri), i = ((t : Nat) : Int) ∧ t ≤ ks.length ∧ CM w' cb mb lb lru C U ∧ its U = rems (ks.take t) (its T) ∧ OkT C (its U) ∧ (∀ t, t ∈ U → t ∈ T) ∧ Fr (G cb mb lb T) w w')
    (μ := fun c p l c' m i w' => ks.length - i.toNat) ?_ ⟨rfl, rfl, rfl, rfl, 0, T, rfl, Nat.zero_le _, h, rfl, ok, fun _ h => h, Fr.refl _ _⟩
  rintro _ p l c' m i w2 ⟨rfl, e3, e4, rfl, t, U, rfl, ht, hU, hit, okU, hmem, f2⟩
  obtain rfl := e3.symm
  have hKb : ∀ b, bl kp b → ¬ G cb mb lb T b := fun b hb hx => by
    obtain ⟨us, hu⟩ := hK.blk hb
    have := h.ty b _ _ hx hu; simp at this
  have hK2 := hK.fr f2 hKb
  unfold F63_L1
  rw [e4]
  by_cases hlt : t < ks.length
  · rw [decide_eq_true (show ((t : Nat) : Int) < ((ks.length : Nat) : Int) by omega), BIf_true]
    have hx : ks[t]? = some ks[t] := List.getElem?_eq_getElem hlt
    generalize ks[t] = kb at hx
    obtain ⟨q, rest, rfl, _⟩ := hK2.get (by omega)
    rw [NN_mk, Req_iff, Int.toNat_natCast]
    refine ⟨by omega, ?_⟩
    simp only [add_mk, Nat.zero_add]
    refine ⟨kb, by rw [hK2.cell hlt, List.getElem?_map, hx]; rfl, ?_⟩
    refine F65_call (rm_spec hU okU fun w3 V cV eV okV sV nV f3 => back0 ?_)
    rw [addI_i64 (by omega) (by omega)]
    refine ⟨⟨by trivial, by trivial, by trivial, by trivial, t + 1, V, by omega, hlt, cV, ?_, okV, fun y hy => hmem y (sV y hy), f2.trans f3 fun b hb => .inl (G_sub hmem hb)⟩, ?_⟩
    · rw [eV, hit, take_snoc hx]; unfold rems; rw [List.foldl_append]; rfl
    · show ks.length - (((t : Nat) : Int) + 1).toNat < ks.length - ((t : Nat) : Int).toNat
      omega
  · rw [decide_eq_false (show ¬ ((t : Nat) : Int) < ((ks.length : Nat) : Int) by omega), BIf_false]
    have : t = ks.length := by omega
    subst this
    rw [List.take_length] at hit
    exact hk w2 U hU hit okU hmem f2
/-! ## A new cache -/
def optV (n : Nat) : Value := .func (.func 20) #[] #[pb n]
theorem F11_spec {x : Int} (hk : ∀ w' n, w.heap.size ≤ n → Blk w' n 45 [.int .u8 x] → Fr (fun _ => False) w w' → k (optV n) w') : F11 k x w := by
  unfold F11
  exact new_intro fun n2 w1 e1 b1 f1 z1 => hk w1 n2 (by omega) b1 f1
theorem F20_spec {n : Nat} {x : Int} {a b : Value} (hx : x = 0 ∨ x = 1) (hn : Blk w n 45 [.int .u8 x]) (hb : Blk w cb 73 [.int .u64 ((C : Nat) : Int), .int .u64 0, .map (some mb), pb lb, a, b])
    (hk : ∀ w', Blk w' cb 73 [.int .u64 ((C : Nat) : Int), .int .u64 0, .map (some mb), pb lb, fAdd cb (decide (x = 1)), fAcc cb (decide (x = 1))] → Fr (fun b => b = cb) w w' → k (.tuple #[]) w') : F20 k (some ⟨cb, 0, none⟩) ⟨n, 0, none⟩ w := by
  unfold F20
  refine load_int (i := 0) hn rfl ?_
  simp only [NN_mk, add_mk, Nat.zero_add]
  rcases hx with rfl | rfl
  · rw [show ((0 : Int) == 0) = true from rfl, BIf_true]
    exact store_intro (i := 5) hb (by simp) rfl fun w1 b1 f1 z1 => store_intro (i := 4) b1 (by simp) rfl fun w2 b2 f2 z2 => hk w2 b2 (f1.trans f2 fun _ h => .inl h)
  · rw [show ((1 : Int) == 0) = false from rfl, BIf_false, show ((1 : Int) == 1) = true from rfl, BIf_true]
    exact store_intro (i := 5) hb (by simp) rfl fun w1 b1 f1 z1 => store_intro (i := 4) b1 (by simp) rfl fun w2 b2 f2 z2 => hk w2 b2 (f1.trans f2 fun _ h => .inl h)
/-- cache.New. -/
theorem F12_spec {op : Option Addr} {ol oc : Nat} {o : Option (Nat × Int)} (hO : Own w 43 op ol oc ((o.toList).map fun x => optV x.1)) (ho : ∀ x, o = some x → (x.2 = 0 ∨ x.2 = 1) ∧ Blk w x.1 45 [.int .u8 x.2])
    (hk : ∀ w' cb mb lb, CM w' cb mb lb (decide ((o.map (·.2)).getD 1 = 1)) C [] → w.heap.size ≤ cb → w.heap.size ≤ mb → w.heap.size ≤ lb → Fr (fun _ => False) w w' → k (.iface 68 (.pointer (some ⟨cb, 0, none⟩))) w') :
    F12 k ((C : Nat) : Int) op ol oc w := by
  have hol := hO.1
  rw [List.length_map] at hol
  unfold F12
  refine F23_call (F23_spec (key := fun _ => ByteArray.empty) fun w1 lb e1 hl1 f1 => back_ptr ?_)
  refine makeMap_intro (fun s : ByteArray => Value.string s) fun mb w2 e2 hm2 f2 z2 => ?_
  refine new_intro fun cb w3 e3 b3 f3 z3 => ?_
  refine F11_call (F11_spec fun w4 n hn bn f4 => back_any ?_)
  have hcn : ∀ {w' : World} {n : Nat} {x : Int}, Blk w' cb 73 [.int .u64 ((C : Nat) : Int), .int .u64 0, .map (some mb), pb lb, .nilFunc, .nilFunc] → True := fun _ => trivial
  have s1 := f1.size
  have s2 := f2.size
  have s3 := f3.size
  have s4 := f4.size
  refine NextT_enter (callV_enter ent20) (F20_calls (F20_spec (.inr rfl) bn (b3.fr f4 id) fun w5 b5 f5 => back0 ?_))
  have f15 : Fr (fun b => b = cb) w1 w5 := (((f2.trans f3 fun _ h => h.elim).trans f4 fun _ h => h.elim).mono fun _ h => h.elim).trans f5 fun b hb => .inl hb
  have f05 : Fr (fun _ => False) w w5 := f1.trans f15 fun b hb => .inr (by have hb : b = cb := hb; omega)
  have hl5 := hl1.fr f15 fun x hx hb => by have hb : x = cb := hb; have := hl1.lt hx; omega
  have hmc : mb ≠ cb := by omega
  have hm5 : MapB w5 mb Value.string [] := ((hm2.fr f3 id).fr f4 id).fr f5 hmc
  have hlcb : ∀ x ∈ lb :: els [], x ≠ cb := fun x hx => by
    have := hl1.lt hx; omega
  have mk : ∀ {w' : World} {lru : Bool}, Blk w' cb 73 [.int .u64 ((C : Nat) : Int), .int .u64 0, .map (some mb), pb lb, fAdd cb lru, fAcc cb lru] → LM w' lb (fun _ => ByteArray.empty) [] → MapB w' mb Value.string [] → CM w' cb mb lb lru C [] := fun hb hl hm =>
    ⟨hb, ⟨[], hm, List.nodup_nil, fun _ => rfl⟩, ⟨_, hl, fun t ht => (by cases ht)⟩, fun t ht => (by cases ht), List.nodup_nil⟩
  cases o with
  | none =>
    have hol : 0 = ol := hol
    subst hol
    refine F12_L1_rule (I := fun c p l c' m i w' => c = ⟨cb, 0, none⟩ ∧ m = 0 ∧ i = 0 ∧ w' = w5) (μ := fun c p l c' m i w' => 0) ?_ ⟨rfl, rfl, rfl, rfl⟩
    rintro _ p l c' _ _ _ ⟨rfl, rfl, rfl, rfl⟩
    unfold F12_L1
    rw [show decide ((0 : Int) < 0) = false from rfl, BIf_false]
    exact hk _ cb mb lb (mk b5 hl5 hm5) (by omega) (by omega) (by omega) f05
  | some x =>
    have hol : 1 = ol := hol
    subst hol
    obtain ⟨hx, hbx⟩ := ho x rfl
    obtain ⟨q, rest, rfl, hB, _⟩ := hO.get (by omega)
    refine F12_L1_rule (I := fun c p l c' m i w' => c = ⟨cb, 0, none⟩ ∧ p = some ⟨q, 0, none⟩ ∧ l = 1 ∧ m = 1 ∧ ((i = 0 ∧ w' = w5) ∨ (i = 1 ∧ CM w' cb mb lb (decide (x.2 = 1)) C [] ∧ Fr (fun _ => False) w w')))
      (μ := fun c p l c' m i w' => 1 - i.toNat) ?_ ⟨rfl, rfl, rfl, rfl, .inl ⟨rfl, rfl⟩⟩
    rintro _ _ _ c' _ i w6 ⟨rfl, rfl, rfl, rfl, h⟩
    unfold F12_L1
    rcases h with ⟨rfl, rfl⟩ | ⟨rfl, hC, f6⟩
    · rw [show decide ((0 : Int) < 1) = true from rfl, BIf_true, NN_mk]
      refine ⟨by omega, ?_⟩
      have hB5 := hB.fr f05 id
      have hB5 : Blk w6 q 43 (optV x.1 :: rest) := hB5
      rw [add_mk]
      refine load_any (i := 0) hB5 rfl ?_
      refine NextT_enter (callV_enter ent20) (F20_calls (F20_spec hx (hbx.fr f05 id) b5 fun w7 b7 f7 => back0 ?_))
      rw [addI_i64 (by omega) (by omega)]
      refine ⟨⟨rfl, rfl, rfl, rfl, .inr ⟨rfl, mk b7 (hl5.fr f7 hlcb) (hm5.fr f7 hmc), f05.trans f7 fun b hb => .inr (by have hb : b = cb := hb; omega)⟩⟩, by decide⟩
    · rw [show decide ((1 : Int) < 1) = false from rfl, BIf_false]
      exact hk w6 cb mb lb hC (by omega) (by omega) (by omega) f6
end
end Go.Proofs.YtmaejciimpnogaaDoor.E
