/-
  The thin package's functions on bitsets, told by lists of places. The straight parts were printed by this session's own program walk.py.
-/
import Derived.Test.YtopdlfecfgimpaaDoorBits2
import Derived.Test.YtopdlfecfgimpaaDoorRow
namespace Go.Proofs.YtopdlfecfgimpaaDoor.E
open Go
set_option linter.unusedSimpArgs false
set_option linter.unusedVariables false
set_option maxRecDepth 100000

theorem mem_L_eq {n : Nat} {f : Nat → Bool} (hf : ∀ j, f j = true → j < n) : (fun j => decide (j ∈ L n f)) = f := by
  funext j
  cases h : f j with
  | true => exact decide_eq_true (mem_L.2 ⟨hf j h, h⟩)
  | false => exact decide_eq_false fun hm => by rw [(mem_L.1 hm).2] at h; cases h
theorem F29_rep {n c : Nat} {p : Option Addr} {f : Nat → Bool} {k : Value → W} {w : World} (hn : n < 1048576) (hs : Sees w p (L n f)) (hf : ∀ j, f j = true → j < n)
    (hk : ∀ b q w', BSet w' b q n f → Fr (fun _ => False) w w' → w.heap.size ≤ b → w.heap.size ≤ q → k (.pointer (some ⟨b, 0, none⟩)) w') : F29 k n p (L n f).length c w := by
  refine F29_spec hn hs (fun x hx => (mem_L.1 hx).1) (by have := L_length_le n f; omega) fun b q w' h => ?_
  rw [mem_L_eq hf] at h
  exact hk b q w' h
theorem back_bits {f : Int → Option Addr → Nat → Nat → W} {n : Int} {p : Option Addr} {l c : Nat} {w : World} (h : f n p l c w) :
    Back (.s (.agg [(.int .u64), .slice])) f (.returned (.agg #[.int .u64 n, .slice p l c])) w := ⟨(n, (p, l, c), ()), rfl, h⟩

/-- BSTest. -/
theorem F16_spec {n i c : Nat} {p : Option Addr} {f : Nat → Bool} {k : Value → W} {w : World} (hn : n < 1048576) (hi : i < 1048576) (hs : Sees w p (L n f)) (hf : ∀ j, f j = true → j < n)
    (hk : ∀ w', Fr (fun _ => False) w w' → k (.bool (f i)) w') : F16 k n p (L n f).length c i w := by
  unfold F16
  refine new_intro fun n4 w1 e1 bn4 f1 z1 => ?_
  have fr := f1
  replace hs := hs.fr0 f1
  refine load_int bn4 rfl ?_
  refine load_slice bn4 rfl ?_
  refine F29_call (F29_rep hn hs hf fun b q w2 hB f2 hBb hBq => back_ptr ?_)
  replace fr := fr.trans f2 fun _ h => h.elim
  have z2 := f2.size
  replace hs := hs.fr0 f2
  replace bn4 := bn4.fr f2 id
  refine F39_call (Test_spec hB (by omega) fun w3 f3 => back_bool ?_)
  replace fr := fr.trans f3 fun _ h => h.elim
  have z3 := f3.size
  replace hs := hs.fr0 f3
  replace bn4 := bn4.fr f3 id
  replace hB := hB.fr f3 id id
  -- k (.bool b8)
  exact hk _ fr


/-- BSList: two lists read are compared. -/
theorem F11_spec {p q : Option Addr} {c d : Nat} {ns ms : List Nat} {k : Value → W} {w : World} (h1 : Sees w p ns) (h2 : Sees w q ms) (hl : ns.length < 4294967296)
    (hk : ∀ w', Fr (fun _ => False) w w' → k (.bool (decide (ns = ms))) w') : F11 k p ns.length c q ms.length d w := by
  unfold F11
  refine BIf_intro (fun hc => ?_) (fun hc => ?_)
  · have hne : ns ≠ ms := fun e => by subst e; simp at hc
    have := hk w (Fr.refl _ _)
    rwa [decide_eq_false hne] at this
  · have hlen : ns.length = ms.length := by
      have : ((ns.length : Nat) : Int) = ((ms.length : Nat) : Int) := by simpa using hc
      exact Int.ofNat.inj this
    refine F11_L1_rule (fun p' l' c' q' m' d' i' w' => p' = p ∧ l' = ns.length ∧ q' = q ∧ m' = ms.length ∧ ∃ i : Nat, i' = i ∧ i ≤ ns.length ∧ Fr (fun _ => False) w w' ∧ ns.take i = ms.take i)
      (fun _ _ _ _ _ _ i' _ => ns.length - i'.toNat) ?_ ⟨rfl, rfl, rfl, rfl, 0, rfl, Nat.zero_le _, Fr.refl _ _, by simp⟩
    rintro p' l' c' q' m' d' i' w1 ⟨rfl, rfl, rfl, rfl, i, rfl, hi, fr, he⟩
    unfold F11_L1
    refine BIf_intro (fun hc2 => ?_) (fun hc2 => ?_)
    · have hc2 := of_decide_eq_true hc2
      have hi' : i < ns.length := by omega
      have hi2 : i < ms.length := by omega
      refine drw_intro fun w2 f2 z2 => ?_
      replace fr := fr.trans f2 fun _ h => h.elim
      have s1 := h1.fr0 fr
      have s2 := h2.fr0 fr
      rcases s1 with e | ⟨a, rfl, ha, hca⟩
      · subst e; simp at hi'
      rcases s2 with e | ⟨b, rfl, hb, hcb⟩
      · subst e; simp at hi2
      refine ⟨⟨by omega, by omega⟩, ?_⟩
      refine LoadT_int.2 ⟨_, by rw [Int.toNat_natCast]; exact hca i hi', ?_⟩
      refine ⟨⟨by omega, by omega⟩, ?_⟩
      refine LoadT_int.2 ⟨_, by rw [Int.toNat_natCast]; exact hcb i hi2, ?_⟩
      have g1 : ns.getD i 0 = ns[i] := by simp [hi']
      have g2 : ms.getD i 0 = ms[i] := by simp [hi2]
      rw [g1, g2]
      refine BIf_intro (fun hc3 => ?_) (fun hc3 => ?_)
      · have hne : ns ≠ ms := fun e => by subst e; simp at hc3
        have := hk w2 fr
        rwa [decide_eq_false hne] at this
      · have hx : ns[i] = ms[i] := by
          have : ((ns[i] : Nat) : Int) = ((ms[i] : Nat) : Int) := by simpa using hc3
          exact Int.ofNat.inj this
        have ei : addI .i64 (i : Int) 1 = ((i + 1 : Nat) : Int) := by rw [addI_i64 (by omega) (by omega)]; omega
        refine ⟨⟨rfl, rfl, rfl, rfl, i + 1, ei, by omega, fr, ?_⟩, ?_⟩
        · rw [List.take_add_one, List.take_add_one, he, List.getElem?_eq_getElem hi', List.getElem?_eq_getElem hi2, hx]
        · rw [ei, Int.toNat_natCast, Int.toNat_natCast]; omega
    · have hc2 := of_decide_eq_false hc2
      have : i = ns.length := by omega
      subst this
      have hns : ns = ms := by
        rw [List.take_length, hlen, List.take_length] at he; exact he
      have := hk w1 fr
      rwa [decide_eq_true hns] at this

/-- zzFits3. -/
theorem F7_spec {x : Int} {p : Option Addr} {l c : Nat} {k : Value → W} {w : World}
    (hk : ∀ b w', Fr (fun _ => False) w w' → (b = true → l ≤ 2147483647) → k (.bool b) w') : F7 k x p l c w := by
  unfold F7
  refine new_intro fun n3 w1 e1 bn3 f1 z1 => ?_
  have fr := f1
  refine load_slice bn3 rfl ?_
  refine BIf_intro (fun hc => hk _ _ fr fun h => by cases h) (fun hc => ?_)
  -- k (.bool true)
  exact hk _ _ fr fun _ => by have := of_decide_eq_false hc; omega


def bsv (l : List Bool) : List Value := l.map fun b => .bool b
@[simp] theorem bsv_length (l : List Bool) : (bsv l).length = l.length := by simp [bsv]
@[simp] theorem bsv_set (l : List Bool) (i : Nat) (b : Bool) : bsv (l.set i b) = (bsv l).set i (.bool b) := by simp [bsv, List.map_set]
theorem bsv_get (l : List Bool) (i : Nat) (h : i < l.length) : (bsv l)[i]? = some (.bool (l.getD i false)) := by simp [bsv, h]
theorem und62 : Go.Proofs.Tryd.prog.underlying 48 = some (.slice 4) := by kernel_rfl
theorem inf4 : ∃ i, Go.Proofs.Tryd.prog.info? 4 = some i ∧ i.zero = some (.bool false) ∧ i.size = 1 ∧ i.bytes = 1 := inf_of (by kernel_rfl)

/-- BSMake. -/
theorem F32_spec {bs : List Bool} {p : Option Addr} {c : Nat} {k : Value → W} {w : World} (hn : bs.length < 1048576) (h : Own w 4 p bs.length c (bsv bs))
    (hk : ∀ p' c' w', Own w' 22 p' (L bs.length (fun i => bs.getD i false)).length c' (us (L bs.length (fun i => bs.getD i false))) → (∀ x, bl p' x → w.heap.size ≤ x) → Fr (fun _ => False) w w' → k (.agg #[.int .u64 bs.length, .slice p' (L bs.length (fun i => bs.getD i false)).length c']) w') :
    F32 k p bs.length c w := by
  generalize hf : (fun i => bs.getD i false) = f at hk
  unfold F32

  refine new_intro fun n2 w1 e1 bn2 f1 z1 => ?_
  have fr := f1
  refine new_intro fun n3 w2 e2 bn3 f2 z2 => ?_
  replace fr := fr.trans f2 fun _ h => h.elim
  replace bn2 := bn2.fr f2 id
  refine store_intro bn3 (by simp) rfl fun w3 bn3 f3 z3 => ?_
  replace fr := fr.trans f3 fun x (e : x = n3) => .inr (by omega)
  replace bn2 := bn2.fr f3 (show ¬ n2 = n3 by omega)
  refine store_intro bn3 (by simp) rfl fun w4 bn3 f4 z4 => ?_
  replace fr := fr.trans f4 fun x (e : x = n3) => .inr (by omega)
  replace bn2 := bn2.fr f4 (show ¬ n2 = n3 by omega)
  -- Loop [.slice, .addr, .addr, (.int .i64)] (F32_L1 k) b_1p b_1l b_1c ⟨n2, 0, none⟩ ⟨n3, 0, none⟩ 0
  have ew : IntKind.wrap .u64 ((bs.length : Nat) : Int) = ((bs.length : Nat) : Int) := wrap_u64 (by omega) (by omega)
  rw [ew] at bn3
  refine F32_L1_rule (fun p' l' c' a o i' w9 => p' = p ∧ l' = bs.length ∧ a = ⟨n2, 0, none⟩ ∧ o = ⟨n3, 0, none⟩ ∧
      ∃ (i d : Nat) (q : Option Addr), i' = i ∧ i ≤ bs.length ∧ Fr (fun _ => False) w w9 ∧ w4.heap.size ≤ w9.heap.size ∧ Blk w9 n2 25 [.int .u64 0, .slice none 0 0] ∧
        Blk w9 n3 25 [.int .u64 bs.length, .slice q (L i f).length d] ∧ Own w9 22 q (L i f).length d (us (L i f)) ∧ (∀ x, bl q x → w4.heap.size ≤ x))
    (fun _ _ _ _ _ i' _ => bs.length - i'.toNat) ?_ ⟨rfl, rfl, rfl, rfl, 0, 0, none, rfl, Nat.zero_le _, fr, Nat.le_refl _, bn2, bn3, Own.nil _ _, fun x ⟨a, e, _⟩ => by cases e⟩
  clear bn2 bn3 fr
  rintro p' l' c' a o i' w9 ⟨rfl, rfl, rfl, rfl, i, d, q, rfl, hi, fr, hs9, bn2, bn3, own, hq⟩
  unfold F32_L1
  refine BIf_intro (fun hc => ?_) (fun hc => ?_)
  · have hc := of_decide_eq_true hc
    have hi' : i < bs.length := by omega
    have h9 := h.fr fr fun _ _ h => h
    obtain ⟨b, rest, rfl, hb, hb2, _⟩ := h9.get (by omega)
    refine ⟨⟨by omega, by omega⟩, ?_⟩
    rw [Int.toNat_natCast, add_mk, Nat.zero_add]
    refine load_bool hb (by rw [List.getElem?_append_left (by simpa using hi'), bsv_get _ _ hi']) ?_
    have hg : bs.getD i false = f i := by rw [← hf]
    rw [hg]
    have ei : addI .i64 (i : Int) 1 = ((i + 1 : Nat) : Int) := by rw [addI_i64 (by omega) (by omega)]; omega
    refine BIf_intro (fun hb => ?_) (fun hb => ?_)
    · rw [add_mk, Nat.zero_add]
      refine load_slice bn3 rfl ?_
      obtain ⟨ii, hi1, hi2, hi3, hi4⟩ := inf22
      have hll := L_length_le i f
      have ew2 : IntKind.wrap .u64 (i : Int) = (i : Int) := wrap_u64 (by omega) (by omega)
      rw [ew2]
      refine append1 (P := Go.Proofs.Tryd.prog) und23 hi1 hi2 hi3 rfl (by omega) own rfl rfl (by omega) fun q' d' w6 f6 own6 hp6 hs6 => ?_
      have hp' : ∀ x, bl q' x → w4.heap.size ≤ x := fun x hx => by
        rcases hp6 x hx with h | h
        · exact hq x h
        · omega
      have bn2' := bn2.fr f6 (fun e => by have := hq _ e; omega)
      have bn3' := bn3.fr f6 (fun e => by have := hq _ e; omega)
      refine store_intro bn3' (by simp) rfl fun w7 bn37 f7 z7 => ?_
      have eL : L (i + 1) f = L i f ++ [i] := by rw [L_succ, hb]; rfl
      refine ⟨⟨rfl, rfl, rfl, rfl, i + 1, d', q', ei, by omega, ?_, by omega, bn2'.fr f7 (show ¬ n2 = n3 by omega), ?_, ?_, hp'⟩, ?_⟩
      · exact (fr.trans f6 fun x e => .inr (by have := hq _ e; omega)).trans f7 fun x (e : x = n3) => .inr (by omega)
      · rw [eL, List.length_append]; exact bn37
      · rw [eL, List.length_append, us_append]
        exact own6.fr f7 fun x hx (e : x = n3) => by have := hp' x hx; omega
      · rw [ei]; omega
    · have eL : L (i + 1) f = L i f := by rw [L_succ, hb]; simp
      refine ⟨⟨rfl, rfl, rfl, rfl, i + 1, d, q, ei, by omega, fr, hs9, bn2, by rw [eL]; exact bn3, by rw [eL]; exact own, hq⟩, ?_⟩
      rw [ei]; omega
  · have hc := of_decide_eq_false hc
    have : i = bs.length := by omega
    subst this
    simp only [add_mk, Nat.add_zero, Nat.zero_add]
    refine load_int bn3 rfl ?_
    refine load_slice bn3 rfl ?_
    refine store_intro bn2 (by simp) rfl fun w10 bn2 f10 z10 => ?_
    refine store_intro bn2 (by simp) rfl fun w11 bn2 f11 z11 => ?_
    refine load_int bn2 rfl ?_
    refine load_slice bn2 rfl ?_
    refine hk q d w11 ((own.fr f10 fun x hx (e : x = n2) => by have := hq x hx; omega).fr f11 fun x hx (e : x = n2) => by have := hq x hx; omega) (fun x hx => by have := hq x hx; omega) ((fr.trans f10 fun x (e : x = n2) => .inr (by omega)).trans f11 fun x (e : x = n2) => .inr (by omega))

/-- What came in as a list of numbers is read as such. -/
def Reads (w : World) (p : Option Addr) (l : Nat) : Prop := l = 0 ∨ ∃ a, p = some a ∧ a.block < w.heap.size ∧ ∀ i, i < l → ∃ v : Int, 0 ≤ v ∧ w.cell? (a.add i) = some (.int .u64 v)
theorem Reads.fr0 {w w' : World} {p : Option Addr} {l : Nat} (h : Reads w p l) (f : Fr (fun _ => False) w w') : Reads w' p l := by
  refine h.imp id ?_
  rintro ⟨a, rfl, hb, hc⟩
  exact ⟨a, rfl, Nat.lt_of_lt_of_le hb f.size, fun i hi => by rw [f.cell (by rw [add_block]; exact hb) id]; exact hc i hi⟩

theorem reads_of {w : World} {a : Option Addr} {len cap : Nat} {zs : List Int} (h : IsRow .u64 w a len cap zs) : Reads w a len := by
  rcases h with ⟨rfl, rfl, rfl, rfl⟩ | ⟨x, rfl, hl, hm, hz, hcell, hwz⟩
  · exact .inl rfl
  · rcases Nat.eq_zero_or_pos len with h0 | h0
    · exact .inl h0
    · refine .inr ⟨x, rfl, ?_, fun i hi => ⟨_, ?_, hcell i (by omega)⟩⟩
      · have := World.block_lt_of_cell? w _ (hcell 0 (by omega))
        rwa [add_block] at this
      · have hm : zs.getD i 0 ∈ zs := by
          rw [List.getD_eq_getElem?_getD, List.getElem?_eq_getElem (by omega : i < zs.length)]; exact List.getElem_mem (by omega)
        exact (wf_u64 (hwz _ hm)).1
theorem F9_tail {bs : List Bool} {p : Option Addr} {c n4 : Nat} {vs : List Value} {k : Value → W} {w0 w : World} (hn : bs.length ≤ 400) (h : Own w 4 p bs.length c (bsv bs))
    (bn4 : Blk w n4 25 vs) (hvs : vs.length = 2) (fr : Fr (fun _ => False) w0 w) (hge : w0.heap.size ≤ n4)
    (hk : ∀ f p c w', (∀ j, f j = true → j < bs.length) → Sees w' p (L bs.length f) → (∀ x, bl p x → w0.heap.size ≤ x ∧ x < w'.heap.size) → Fr (fun _ => False) w0 w' → k (.agg #[.int .u64 bs.length, .slice p (L bs.length f).length c]) w') :
    CallT Go.Proofs.Tryd.prog 32 [.slice p bs.length c] (.s (.agg [(.int .u64), .slice])) (fun x17 s18p s18l s18c =>
    Store1 ((⟨n4, 0, none⟩ : Addr).add 0) (.int .u64 x17) <|
    Store1 ((⟨n4, 0, none⟩ : Addr).add 1) (.slice s18p s18l s18c) <|
    LoadT (.int .u64) ((⟨n4, 0, none⟩ : Addr).add 0) fun x19 =>
    LoadT .slice ((⟨n4, 0, none⟩ : Addr).add 1) fun s20p s20l s20c =>
    k (.agg #[.int .u64 x19, .slice s20p s20l s20c])) w := by
  refine F32_call (F32_spec (by omega) h fun p' c' w1 own hq f1 => back_bits ?_)
  have hlt := bn4.lt
  replace bn4 := bn4.fr f1 id
  obtain ⟨v0, v1, rfl⟩ : ∃ a b, vs = [a, b] := by
    match vs, hvs with
    | [a, b], _ => exact ⟨a, b, rfl⟩
  simp only [add_mk, Nat.add_zero, Nat.zero_add]
  refine store_intro bn4 (by simp) rfl fun w10 bn4 f10 z10 => ?_
  refine store_intro bn4 (by simp) rfl fun w11 bn4 f11 z11 => ?_
  refine load_int bn4 rfl ?_
  refine load_slice bn4 rfl ?_
  refine hk _ p' c' w11 (fun j hj => ?_) (Own.sees ((own.fr f10 fun x hx (e : x = n4) => by have := hq x hx; omega).fr f11 fun x hx (e : x = n4) => by have := hq x hx; omega)) (fun x hx => by have h1 := hq x hx; have h2 := own.lt hx; have h3 := fr.size; omega) (((fr.trans f1 fun _ h => h.elim).trans f10 fun x (e : x = n4) => .inr (by omega)).trans f11 fun x (e : x = n4) => .inr (by omega))
  rcases Nat.lt_or_ge j bs.length with h | h
  · exact h
  · rw [List.getD_eq_getElem?_getD, List.getElem?_eq_none h] at hj; cases hj

/-- bsBits: some bitset of x % 401 places. -/
theorem F9_bd {x l c : Nat} {p : Option Addr} {k : Value → W} {w : World} (hx : x < 18446744073709551616) (hr : Reads w p l) (hl : l ≤ 2147483647)
    (hk : ∀ f p c w', (∀ j, f j = true → j < x % 401) → Sees w' p (L (x % 401) f) → (∀ y, bl p y → w.heap.size ≤ y ∧ y < w'.heap.size) → Fr (fun _ => False) w w' → k (.agg #[.int .u64 (x % 401 : Nat), .slice p (L (x % 401) f).length c]) w') : F9 k x p l c w := by
  unfold F9

  refine new_intro fun n3 w1 e1 bn3 f1 z1 => ?_
  have fr := f1
  refine new_intro fun n4 w2 e2 bn4 f2 z2 => ?_
  replace fr := fr.trans f2 fun _ h => h.elim
  replace bn3 := bn3.fr f2 id
  refine load_int bn3 rfl ?_
  refine ⟨by decide, ?_⟩
  have ex : remI (x : Int) 401 = ((x % 401 : Nat) : Int) := by rw [remI_eq (by omega)]; omega
  rw [ex]
  obtain ⟨ii, hi1, hi2, hi3, hi4⟩ := inf4
  have hm : x % 401 ≤ 400 := by omega
  generalize x % 401 = m at *
  refine make_intro (P := Go.Proofs.Tryd.prog) m m und62 hi1 hi2 hi3 rfl (by omega) (by omega) (Nat.le_refl _) fun w3 f3 o3 bq z3 => ?_
  replace fr := fr.trans f3 fun _ h => h.elim
  replace bn3 := bn3.fr f3 id
  replace bn4 := bn4.fr f3 id
  clear f1 f2 f3 o3
  generalize hq : w2.heap.size = q at bq z3
  have hrep : (List.replicate m (Value.bool false)) = bsv (List.replicate m false) := by simp [bsv]
  rw [hrep] at bq
  refine F9_L1_rule (fun x7 a8 bp bl' bc i' w9 => x7 = ⟨n3, 0, none⟩ ∧ a8 = ⟨n4, 0, none⟩ ∧ bp = some ⟨q, 0, none⟩ ∧ bl' = m ∧ bc = m ∧
      ∃ (i : Nat) (bs : List Bool), i' = i ∧ i ≤ l ∧ bs.length = m ∧ Fr (fun _ => False) w w9 ∧ Blk w9 n3 25 [.int .u64 x, .slice p l c] ∧ Blk w9 n4 25 [.int .u64 0, .slice none 0 0] ∧ Blk w9 q 4 (bsv bs))
    (fun _ _ _ _ _ i' _ => l - i'.toNat) ?_ ⟨rfl, rfl, rfl, rfl, rfl, 0, _, rfl, Nat.zero_le _, by simp, fr, bn3, bn4, bq⟩
  clear bn3 bn4 bq fr
  rintro x7 a8 bp bl' bc i' w9 ⟨rfl, rfl, rfl, rfl, rfl, i, bs, rfl, hi, rfl, fr, bn3, bn4, bq⟩
  unfold F9_L1
  have own : Own w9 4 (some ⟨q, 0, none⟩) bs.length bs.length (bsv bs) := ⟨by simp, .inr ⟨q, [], rfl, by rw [List.append_nil]; exact bq, by simp, by simp only [maxLen]; omega⟩⟩
  have tail := F9_tail hm own bn4 rfl fr (by omega) hk
  rw [add_mk, Nat.zero_add]
  refine load_slice bn3 rfl ?_
  refine BIf_intro (fun hc1 => ?_) (fun hc1 => tail)
  refine BIf_intro (fun hc2 => ?_) (fun hc2 => tail)
  refine BIf_intro (fun hc3 => ?_) (fun hc3 => tail)
  have hc1 := of_decide_eq_true hc1
  have hc3 := of_decide_eq_true hc3
  clear tail
  refine load_slice bn3 rfl ?_
  have hr9 := hr.fr0 fr
  have hi' : i < l := by omega
  rcases hr9 with e | ⟨a, rfl, ha, hca⟩
  · omega
  obtain ⟨v, hv0, hv⟩ := hca i hi'
  refine ⟨⟨by omega, by omega⟩, ?_⟩
  refine LoadT_int.2 ⟨v, by rw [Int.toNat_natCast]; exact hv, ?_⟩
  have ew : IntKind.wrap .u64 ((bs.length : Nat) : Int) = ((bs.length : Nat) : Int) := wrap_u64 (by omega) (by omega)
  rw [ew]
  have er : remI v ((bs.length : Nat) : Int) = v % ((bs.length : Nat) : Int) := remI_eq hv0
  have hr0 : 0 ≤ v % ((bs.length : Nat) : Int) := Int.emod_nonneg _ (by omega)
  have hr1 : v % ((bs.length : Nat) : Int) < ((bs.length : Nat) : Int) := Int.emod_lt_of_pos _ (by omega)
  rw [er]
  generalize v % ((bs.length : Nat) : Int) = r at hr0 hr1
  obtain ⟨j, rfl⟩ := Int.eq_ofNat_of_zero_le hr0
  refine ⟨by omega, ⟨⟨hr0, hr1⟩, ?_⟩⟩
  rw [Int.toNat_natCast, add_mk, Nat.zero_add]
  have hj : j < bs.length := by omega
  refine store_intro bq (by simpa using hj) rfl fun w10 bq10 f10 z10 => ?_
  have ei : addI .i64 (i : Int) 1 = ((i + 1 : Nat) : Int) := by rw [addI_i64 (by omega) (by omega)]; omega
  have hqn : n3 ≠ q := by omega
  have hqn4 : n4 ≠ q := by omega
  refine ⟨⟨rfl, rfl, rfl, rfl, rfl, i + 1, bs.set j true, ei, by omega, by simp, fr.trans f10 fun x (e : x = q) => .inr (by omega), bn3.fr f10 hqn, bn4.fr f10 hqn4, by rw [bsv_set]; exact bq10⟩, ?_⟩
  rw [ei]; omega
theorem F9_eqn {x l c : Nat} {p : Option Addr} {k : Value → W} {w : World} (hx : x < 18446744073709551616) (hr : Reads w p l) (hl : l ≤ 2147483647)
    (hk : ∀ f p c w', (∀ j, f j = true → j < x % 401) → Sees w' p (L (x % 401) f) → Fr (fun _ => False) w w' → k (.agg #[.int .u64 (x % 401 : Nat), .slice p (L (x % 401) f).length c]) w') : F9 k x p l c w :=
  F9_bd hx hr hl fun f p c w' h1 h2 _ h4 => hk f p c w' h1 h2 h4
theorem F9_spec {x l c : Nat} {p : Option Addr} {k : Value → W} {w : World} (hx : x < 18446744073709551616) (hr : Reads w p l) (hl : l ≤ 2147483647)
    (hk : ∀ n f p c w', n ≤ 400 → (∀ j, f j = true → j < n) → Sees w' p (L n f) → Fr (fun _ => False) w w' → k (.agg #[.int .u64 n, .slice p (L n f).length c]) w') : F9 k x p l c w :=
  F9_eqn hx hr hl fun f p c w' => hk (x % 401) f p c w' (by omega)

end Go.Proofs.YtopdlfecfgimpaaDoor.E
