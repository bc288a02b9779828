/-
  The thin package's functions on filters. The straight parts were printed by this session's own program aw.py.
-/
import Derived.Test.YtopdlfecfgimpaaBloom2
namespace Go.Proofs.Ytopdlfecfgimpaa.E
open Go
set_option linter.unusedSimpArgs false
set_option linter.unusedVariables false
set_option maxRecDepth 100000

theorem C44 {M K c lo hi : Nat} {p : Option Addr} {ws : List Nat} {g : Nat → Bool} {l dc : Nat} {bs : Nat → Int} {dp : Option Addr} {k : Value → W} {w : World} (hM : 0 < M) (hMl : M ≤ 64 * ws.length) (h0 : 0 < ws.length) (hwl : ws.length ≤ 1000) (hK : K < 1000) (hs : WV w lo hi p ws) (hg : ∀ j, wbit ws j = g j) (hdl : l < 2147483648) (hd : TB w dp l bs) (hdc : l ≤ dc)
    (hk : ∀ ws' p' c' w', ws'.length = ws.length → (∀ j, wbit ws' j = plus g M K (hashOf l bs) j) → WV w' w.heap.size w'.heap.size p' ws' → Fr (fun _ => False) w w' → k (.agg #[.int .u64 M, .int .u64 K, .slice p' ws'.length c']) w') : F44 k M K p ws.length c dp l dc w := by
  unfold F44
  refine new_intro fun n5 w1 e1 bn5 f1 z1 => ?_
  have fr := f1
  replace hs := hs.fr0 f1
  replace hd := hd.fr0 f1
  refine new_intro fun n6 w2 e2 bn6 f2 z2 => ?_
  replace fr := fr.trans f2 fun _ h => h.elim
  replace hs := hs.fr0 f2
  replace hd := hd.fr0 f2
  replace bn5 := bn5.fr f2 id
  refine load_int bn5 rfl ?_
  refine load_int bn5 rfl ?_
  refine load_slice bn5 rfl ?_
  refine F75_call (F75_spec hs h0 (by omega) g hg fun f2 b3 q4 w3 hF1 f3 zf2 zb3 zq4 => back_ptr ?_)
  replace fr := fr.trans f3 fun _ h => h.elim
  have z3 := f3.size
  replace hs := hs.fr0 f3
  replace hd := hd.fr0 f3
  replace bn5 := bn5.fr f3 id
  replace bn6 := bn6.fr f3 id
  have thF1 := And.intro hF1.head.lt hF1.set.lt
  refine F81_call (F81_spec hF1 hM (by omega) (by omega) (by omega) hdl hd hdc fun q5 w4 hF1 f4 zq5 => back_ptr ?_)
  replace fr := fr.trans f4 fun x e => by rcases e with rfl | rfl <;> exact .inr (by omega)
  have z4 := f4.size
  replace bn5 := bn5.fr f4 (by rintro (e | e) <;> omega)
  replace bn6 := bn6.fr f4 (by rintro (e | e) <;> omega)
  refine F79_call (F79_spec hF1 (by omega) (by omega) fun ws6 p7 c8 w5 lws6 gws6 hs9 f5 => ⟨(_, _, (_, _, _), ()), rfl, ?_⟩)
  replace fr := fr.trans f5 fun _ h => h.elim
  have z5 := f5.size
  replace hF1 := hF1.fr0 f5
  replace bn5 := bn5.fr f5 id
  replace bn6 := bn6.fr f5 id
  refine store_intro bn6 (by simp) rfl fun w6 bn6 f6 z6 => ?_
  replace fr := fr.trans f6 fun x (e : x = n6) => .inr (by omega)
  replace hs9 := hs9.st f6 (by omega)
  replace bn5 := bn5.fr f6 (show ¬ n5 = n6 by omega)
  refine store_intro bn6 (by simp) rfl fun w7 bn6 f7 z7 => ?_
  replace fr := fr.trans f7 fun x (e : x = n6) => .inr (by omega)
  replace hs9 := hs9.st f7 (by omega)
  replace bn5 := bn5.fr f7 (show ¬ n5 = n6 by omega)
  refine store_intro bn6 (by simp) rfl fun w8 bn6 f8 z8 => ?_
  replace fr := fr.trans f8 fun x (e : x = n6) => .inr (by omega)
  replace hs9 := hs9.st f8 (by omega)
  replace bn5 := bn5.fr f8 (show ¬ n5 = n6 by omega)
  refine load_int bn6 rfl ?_
  refine load_int bn6 rfl ?_
  refine load_slice bn6 rfl ?_
  exact hk _ _ _ _ lws6 gws6 (hs9.widen (by omega) (by omega)) fr
theorem C43 {M K c lo hi : Nat} {p : Option Addr} {ws : List Nat} {g : Nat → Bool} {l : Nat} {bs : Nat → Int} {s : ByteArray} {k : Value → W} {w : World} (hM : 0 < M) (hMl : M ≤ 64 * ws.length) (h0 : 0 < ws.length) (hwl : ws.length ≤ 1000) (hK : K < 1000) (hs : WV w lo hi p ws) (hg : ∀ j, wbit ws j = g j) (hdl : l < 2147483648) (hstr : IsStr s l bs)
    (hk : ∀ ws' p' c' w', ws'.length = ws.length → (∀ j, wbit ws' j = plus g M K (hashOf l bs) j) → WV w' w.heap.size w'.heap.size p' ws' → Fr (fun _ => False) w w' → k (.agg #[.int .u64 M, .int .u64 K, .slice p' ws'.length c']) w') : F43 k M K p ws.length c s w := by
  unfold F43
  refine new_intro fun n5 w1 e1 bn5 f1 z1 => ?_
  have fr := f1
  replace hs := hs.fr0 f1
  refine new_intro fun n6 w2 e2 bn6 f2 z2 => ?_
  replace fr := fr.trans f2 fun _ h => h.elim
  replace hs := hs.fr0 f2
  replace bn5 := bn5.fr f2 id
  refine load_int bn5 rfl ?_
  refine load_int bn5 rfl ?_
  refine load_slice bn5 rfl ?_
  refine F75_call (F75_spec hs h0 (by omega) g hg fun f2 b3 q4 w3 hF1 f3 zf2 zb3 zq4 => back_ptr ?_)
  replace fr := fr.trans f3 fun _ h => h.elim
  have z3 := f3.size
  replace hs := hs.fr0 f3
  replace bn5 := bn5.fr f3 id
  replace bn6 := bn6.fr f3 id
  have thF1 := And.intro hF1.head.lt hF1.set.lt
  refine F80_call (F80_spec hF1 hM (by omega) (by omega) (by omega) hdl hstr fun q5 w4 hF1 f4 zq5 => back_ptr ?_)
  replace fr := fr.trans f4 fun x e => by rcases e with rfl | rfl <;> exact .inr (by omega)
  have z4 := f4.size
  replace bn5 := bn5.fr f4 (by rintro (e | e) <;> omega)
  replace bn6 := bn6.fr f4 (by rintro (e | e) <;> omega)
  refine F79_call (F79_spec hF1 (by omega) (by omega) fun ws6 p7 c8 w5 lws6 gws6 hs9 f5 => ⟨(_, _, (_, _, _), ()), rfl, ?_⟩)
  replace fr := fr.trans f5 fun _ h => h.elim
  have z5 := f5.size
  replace hF1 := hF1.fr0 f5
  replace bn5 := bn5.fr f5 id
  replace bn6 := bn6.fr f5 id
  refine store_intro bn6 (by simp) rfl fun w6 bn6 f6 z6 => ?_
  replace fr := fr.trans f6 fun x (e : x = n6) => .inr (by omega)
  replace hs9 := hs9.st f6 (by omega)
  replace bn5 := bn5.fr f6 (show ¬ n5 = n6 by omega)
  refine store_intro bn6 (by simp) rfl fun w7 bn6 f7 z7 => ?_
  replace fr := fr.trans f7 fun x (e : x = n6) => .inr (by omega)
  replace hs9 := hs9.st f7 (by omega)
  replace bn5 := bn5.fr f7 (show ¬ n5 = n6 by omega)
  refine store_intro bn6 (by simp) rfl fun w8 bn6 f8 z8 => ?_
  replace fr := fr.trans f8 fun x (e : x = n6) => .inr (by omega)
  replace hs9 := hs9.st f8 (by omega)
  replace bn5 := bn5.fr f8 (show ¬ n5 = n6 by omega)
  refine load_int bn6 rfl ?_
  refine load_int bn6 rfl ?_
  refine load_slice bn6 rfl ?_
  exact hk _ _ _ _ lws6 gws6 (hs9.widen (by omega) (by omega)) fr
theorem C40 {M K c lo hi : Nat} {p : Option Addr} {ws : List Nat} {g : Nat → Bool} {l dc : Nat} {bs : Nat → Int} {dp : Option Addr} {k : Value → W} {w : World} (hM : 0 < M) (hMl : M ≤ 64 * ws.length) (h0 : 0 < ws.length) (hwl : ws.length ≤ 1000) (hK : K < 1000) (hs : WV w lo hi p ws) (hg : ∀ j, wbit ws j = g j) (hdl : l < 2147483648) (hd : TB w dp l bs) (hdc : l ≤ dc)
    (hk : ∀ w', Fr (fun _ => False) w w' → k (.bool (hit g M K (hashOf l bs))) w') : F40 k M K p ws.length c dp l dc w := by
  unfold F40
  refine new_intro fun n5 w1 e1 bn5 f1 z1 => ?_
  have fr := f1
  replace hs := hs.fr0 f1
  replace hd := hd.fr0 f1
  refine load_int bn5 rfl ?_
  refine load_int bn5 rfl ?_
  refine load_slice bn5 rfl ?_
  refine F75_call (F75_spec hs h0 (by omega) g hg fun f2 b3 q4 w2 hF1 f2 zf2 zb3 zq4 => back_ptr ?_)
  replace fr := fr.trans f2 fun _ h => h.elim
  have z2 := f2.size
  replace hs := hs.fr0 f2
  replace hd := hd.fr0 f2
  replace bn5 := bn5.fr f2 id
  have thF1 := And.intro hF1.head.lt hF1.set.lt
  refine F76_call (F76_spec hF1 hM (by omega) (by omega) hdl hd hdc fun w3 f3 => back_bool ?_)
  replace fr := fr.trans f3 fun _ h => h.elim
  have z3 := f3.size
  replace hd := hd.fr0 f3
  replace hF1 := hF1.fr0 f3
  replace bn5 := bn5.fr f3 id
  exact hk _ fr
theorem C42 {M K c lo hi : Nat} {p : Option Addr} {ws : List Nat} {g : Nat → Bool} {l : Nat} {bs : Nat → Int} {s : ByteArray} {k : Value → W} {w : World} (hM : 0 < M) (hMl : M ≤ 64 * ws.length) (h0 : 0 < ws.length) (hwl : ws.length ≤ 1000) (hK : K < 1000) (hs : WV w lo hi p ws) (hg : ∀ j, wbit ws j = g j) (hdl : l < 2147483648) (hstr : IsStr s l bs)
    (hk : ∀ w', Fr (fun _ => False) w w' → k (.bool (hit g M K (hashOf l bs))) w') : F42 k M K p ws.length c s w := by
  unfold F42
  refine new_intro fun n5 w1 e1 bn5 f1 z1 => ?_
  have fr := f1
  replace hs := hs.fr0 f1
  refine load_int bn5 rfl ?_
  refine load_int bn5 rfl ?_
  refine load_slice bn5 rfl ?_
  refine F75_call (F75_spec hs h0 (by omega) g hg fun f2 b3 q4 w2 hF1 f2 zf2 zb3 zq4 => back_ptr ?_)
  replace fr := fr.trans f2 fun _ h => h.elim
  have z2 := f2.size
  replace hs := hs.fr0 f2
  replace bn5 := bn5.fr f2 id
  have thF1 := And.intro hF1.head.lt hF1.set.lt
  refine F78_call (F78_spec hF1 hM (by omega) (by omega) hdl hstr fun w3 f3 => back_bool ?_)
  replace fr := fr.trans f3 fun _ h => h.elim
  have z3 := f3.size
  replace hF1 := hF1.fr0 f3
  replace bn5 := bn5.fr f3 id
  exact hk _ fr
theorem C41 {M K c lo hi : Nat} {p : Option Addr} {ws : List Nat} {g : Nat → Bool} {ls : List Nat} {lc : Nat} {lp : Option Addr} {k : Value → W} {w : World} (hM : 0 < M) (hMl : M ≤ 64 * ws.length) (h0 : 0 < ws.length) (hwl : ws.length ≤ 1000) (hK : K < 1000) (hs : WV w lo hi p ws) (hg : ∀ j, wbit ws j = g j) (hls : Sees w lp ls) (hll : ls.length < 1000)
    (hk : ∀ w', Fr (fun _ => False) w w' → k (.bool (decide (∀ i, i < ls.length → g (ls.getD i 0 % M) = true))) w') : F41 k M K p ws.length c lp ls.length lc w := by
  unfold F41
  refine new_intro fun n5 w1 e1 bn5 f1 z1 => ?_
  have fr := f1
  replace hs := hs.fr0 f1
  replace hls := hls.fr0 f1
  refine load_int bn5 rfl ?_
  refine load_int bn5 rfl ?_
  refine load_slice bn5 rfl ?_
  refine F75_call (F75_spec hs h0 (by omega) g hg fun f2 b3 q4 w2 hF1 f2 zf2 zb3 zq4 => back_ptr ?_)
  replace fr := fr.trans f2 fun _ h => h.elim
  have z2 := f2.size
  replace hs := hs.fr0 f2
  replace hls := hls.fr0 f2
  replace bn5 := bn5.fr f2 id
  have thF1 := And.intro hF1.head.lt hF1.set.lt
  refine F77_call (F77_spec hF1 hM (by omega) hls (by omega) fun w3 f3 => back_bool ?_)
  replace fr := fr.trans f3 fun _ h => h.elim
  have z3 := f3.size
  replace hls := hls.fr0 f3
  replace hF1 := hF1.fr0 f3
  replace bn5 := bn5.fr f3 id
  exact hk _ fr
theorem C45 {M K c lo hi : Nat} {p : Option Addr} {ws : List Nat} {g : Nat → Bool} {c2 lo2 hi2 : Nat} {p2 : Option Addr} {vs : List Nat} {g2 : Nat → Bool} {k : Value → W} {w : World} (hM : 0 < M) (hMl : M ≤ 64 * ws.length) (h0 : 0 < ws.length) (hwl : ws.length ≤ 1000) (hK : K < 1000) (hs : WV w lo hi p ws) (hg : ∀ j, wbit ws j = g j) (hs2 : WV w lo2 hi2 p2 vs) (hg2 : ∀ j, wbit vs j = g2 j) (hll : ws.length = vs.length) (hgg : ∀ j, g j = g2 j)
    (hk : ∀ w', Fr (fun _ => False) w w' → k (.bool true) w') : F45 k M K p ws.length c M K p2 vs.length c2 w := by
  unfold F45
  refine new_intro fun n7 w1 e1 bn7 f1 z1 => ?_
  have fr := f1
  replace hs := hs.fr0 f1
  replace hs2 := hs2.fr0 f1
  refine new_intro fun n8 w2 e2 bn8 f2 z2 => ?_
  replace fr := fr.trans f2 fun _ h => h.elim
  replace hs := hs.fr0 f2
  replace hs2 := hs2.fr0 f2
  replace bn7 := bn7.fr f2 id
  refine drw_intro fun w3 f3 z3 => ?_
  replace fr := fr.trans f3 fun _ h => h.elim
  replace hs := hs.fr0 f3
  replace hs2 := hs2.fr0 f3
  replace bn7 := bn7.fr f3 id
  replace bn8 := bn8.fr f3 id
  refine load_int bn7 rfl ?_
  refine load_int bn7 rfl ?_
  refine load_slice bn7 rfl ?_
  refine load_int bn8 rfl ?_
  refine load_int bn8 rfl ?_
  refine load_slice bn8 rfl ?_
  refine F75_call (F75_spec hs h0 (by omega) g hg fun f2 b3 q4 w4 hF1 f4 zf2 zb3 zq4 => back_ptr ?_)
  replace fr := fr.trans f4 fun _ h => h.elim
  have z4 := f4.size
  replace hs := hs.fr0 f4
  replace hs2 := hs2.fr0 f4
  replace bn7 := bn7.fr f4 id
  replace bn8 := bn8.fr f4 id
  have thF1 := And.intro hF1.head.lt hF1.set.lt
  refine Chk1_iff.2 ⟨by rw [bn8.cell]; rfl, ?_⟩
  refine Chk1_iff.2 ⟨by rw [bn8.cell]; rfl, ?_⟩
  refine Chk1_iff.2 ⟨by rw [bn8.cell]; rfl, ?_⟩
  refine F75_call (F75_spec hs2 (by omega) (by omega) g2 hg2 fun f6 b7 q8 w5 hF5 f5 zf6 zb7 zq8 => back_ptr ?_)
  replace fr := fr.trans f5 fun _ h => h.elim
  have z5 := f5.size
  replace hs2 := hs2.fr0 f5
  replace hF1 := hF1.fr0 f5
  replace bn7 := bn7.fr f5 id
  replace bn8 := bn8.fr f5 id
  have thF5 := And.intro hF5.head.lt hF5.set.lt
  refine Chk1_iff.2 ⟨by rw [bn7.cell]; rfl, ?_⟩
  refine Chk1_iff.2 ⟨by rw [bn7.cell]; rfl, ?_⟩
  refine Chk1_iff.2 ⟨by rw [bn7.cell]; rfl, ?_⟩
  refine F82_call (F82_spec hF1 (by rw [hll]; exact hF5) hgg (by omega) fun w6 f6 => back_bool ?_)
  replace fr := fr.trans f6 fun _ h => h.elim
  have z6 := f6.size
  replace hF1 := hF1.fr0 f6
  replace hF5 := hF5.fr0 f6
  replace bn7 := bn7.fr f6 id
  replace bn8 := bn8.fr f6 id
  refine Chk1_iff.2 ⟨by rw [bn8.cell]; rfl, ?_⟩
  refine Chk1_iff.2 ⟨by rw [bn8.cell]; rfl, ?_⟩
  refine Chk1_iff.2 ⟨by rw [bn8.cell]; rfl, ?_⟩
  refine Chk1_iff.2 ⟨by rw [bn7.cell]; rfl, ?_⟩
  refine Chk1_iff.2 ⟨by rw [bn7.cell]; rfl, ?_⟩
  refine Chk1_iff.2 ⟨by rw [bn7.cell]; rfl, ?_⟩
  exact hk _ fr
theorem C46 {M K c lo hi : Nat} {p : Option Addr} {ws : List Nat} {g : Nat → Bool} {c2 lo2 hi2 : Nat} {p2 : Option Addr} {vs : List Nat} {g2 : Nat → Bool} {k : Value → W} {w : World} (hM : 0 < M) (hMl : M ≤ 64 * ws.length) (h0 : 0 < ws.length) (hwl : ws.length ≤ 1000) (hK : K < 1000) (hs : WV w lo hi p ws) (hg : ∀ j, wbit ws j = g j) (hs2 : WV w lo2 hi2 p2 vs) (hg2 : ∀ j, wbit vs j = g2 j) (hll : ws.length = vs.length)
    (hk : ∀ ws' p' c' w', ws'.length = ws.length → (∀ j, wbit ws' j = (fun j => g j || g2 j) j) → WV w' w.heap.size w'.heap.size p' ws' → Fr (fun _ => False) w w' → k (.tuple #[.agg #[.int .u64 M, .int .u64 K, .slice p' ws'.length c'], .bool true]) w') : F46 k M K p ws.length c M K p2 vs.length c2 w := by
  unfold F46
  refine new_intro fun n7 w1 e1 bn7 f1 z1 => ?_
  have fr := f1
  replace hs := hs.fr0 f1
  replace hs2 := hs2.fr0 f1
  refine new_intro fun n8 w2 e2 bn8 f2 z2 => ?_
  replace fr := fr.trans f2 fun _ h => h.elim
  replace hs := hs.fr0 f2
  replace hs2 := hs2.fr0 f2
  replace bn7 := bn7.fr f2 id
  refine new_intro fun n9 w3 e3 bn9 f3 z3 => ?_
  replace fr := fr.trans f3 fun _ h => h.elim
  replace hs := hs.fr0 f3
  replace hs2 := hs2.fr0 f3
  replace bn7 := bn7.fr f3 id
  replace bn8 := bn8.fr f3 id
  refine load_int bn7 rfl ?_
  refine load_int bn7 rfl ?_
  refine load_slice bn7 rfl ?_
  refine F75_call (F75_spec hs h0 (by omega) g hg fun f2 b3 q4 w4 hF1 f4 zf2 zb3 zq4 => back_ptr ?_)
  replace fr := fr.trans f4 fun _ h => h.elim
  have z4 := f4.size
  replace hs := hs.fr0 f4
  replace hs2 := hs2.fr0 f4
  replace bn7 := bn7.fr f4 id
  replace bn8 := bn8.fr f4 id
  replace bn9 := bn9.fr f4 id
  have thF1 := And.intro hF1.head.lt hF1.set.lt
  refine load_int bn8 rfl ?_
  refine load_int bn8 rfl ?_
  refine load_slice bn8 rfl ?_
  refine F75_call (F75_spec hs2 (by omega) (by omega) g2 hg2 fun f6 b7 q8 w5 hF5 f5 zf6 zb7 zq8 => back_ptr ?_)
  replace fr := fr.trans f5 fun _ h => h.elim
  have z5 := f5.size
  replace hs2 := hs2.fr0 f5
  replace hF1 := hF1.fr0 f5
  replace bn7 := bn7.fr f5 id
  replace bn8 := bn8.fr f5 id
  replace bn9 := bn9.fr f5 id
  have thF5 := And.intro hF5.head.lt hF5.set.lt
  refine F83_call (F83_spec hF1 (by rw [hll]; exact hF5) (by omega) (by omega) ⟨by omega, by omega, by omega, by omega, by omega, by omega⟩ fun w6 hF1 f6 => back_any ?_)
  replace fr := fr.trans f6 fun x e => by rcases e with rfl | rfl <;> exact .inr (by omega)
  have z6 := f6.size
  replace bn7 := bn7.fr f6 (by rintro (e | e) <;> omega)
  replace bn8 := bn8.fr f6 (by rintro (e | e) <;> omega)
  replace bn9 := bn9.fr f6 (by rintro (e | e) <;> omega)
  refine drw_intro fun w7 f7 z7 => ?_
  replace fr := fr.trans f7 fun _ h => h.elim
  replace hF1 := hF1.fr0 f7
  replace bn7 := bn7.fr f7 id
  replace bn8 := bn8.fr f7 id
  replace bn9 := bn9.fr f7 id
  show CallT Go.Proofs.Try.prog 79 _ _ _ _
  refine F79_call (F79_spec hF1 (by omega) (by omega) fun ws9 p10 c11 w8 lws9 gws9 hs12 f8 => ⟨(_, _, (_, _, _), ()), rfl, ?_⟩)
  replace fr := fr.trans f8 fun _ h => h.elim
  have z8 := f8.size
  replace hF1 := hF1.fr0 f8
  replace bn7 := bn7.fr f8 id
  replace bn8 := bn8.fr f8 id
  replace bn9 := bn9.fr f8 id
  refine store_intro bn9 (by simp) rfl fun w9 bn9 f9 z9 => ?_
  replace fr := fr.trans f9 fun x (e : x = n9) => .inr (by omega)
  replace hs12 := hs12.st f9 (by omega)
  replace bn7 := bn7.fr f9 (show ¬ n7 = n9 by omega)
  replace bn8 := bn8.fr f9 (show ¬ n8 = n9 by omega)
  refine store_intro bn9 (by simp) rfl fun w10 bn9 f10 z10 => ?_
  replace fr := fr.trans f10 fun x (e : x = n9) => .inr (by omega)
  replace hs12 := hs12.st f10 (by omega)
  replace bn7 := bn7.fr f10 (show ¬ n7 = n9 by omega)
  replace bn8 := bn8.fr f10 (show ¬ n8 = n9 by omega)
  refine store_intro bn9 (by simp) rfl fun w11 bn9 f11 z11 => ?_
  replace fr := fr.trans f11 fun x (e : x = n9) => .inr (by omega)
  replace hs12 := hs12.st f11 (by omega)
  replace bn7 := bn7.fr f11 (show ¬ n7 = n9 by omega)
  replace bn8 := bn8.fr f11 (show ¬ n8 = n9 by omega)
  refine load_int bn9 rfl ?_
  refine load_int bn9 rfl ?_
  refine load_slice bn9 rfl ?_
  exact hk _ _ _ _ lws9 gws9 (hs12.widen (by omega) (by omega)) fr

theorem C39 {K l dc : Nat} {bs : Nat → Int} {dp : Option Addr} {k : Value → W} {w : World} (hK : K < 1000) (hdl : l < 2147483648) (hd : TB w dp l bs) (hdc : l ≤ dc)
    (hk : ∀ q c' w', Sees w' (some ⟨q, 0, none⟩) (locs (hashOf l bs) K) → w.heap.size ≤ q → q < w'.heap.size → Fr (fun _ => False) w w' → k (.slice (some ⟨q, 0, none⟩) (locs (hashOf l bs) K).length c') w') : F39 k dp l dc K w := by
  unfold F39
  exact F74_call (F74_spec hK hdl hd hdc fun q c' w' h1 h2 h3 h4 => back_slice (hk q c' w' h1 h2 h3 h4))
/-- BSFrom. -/
theorem C47 {c lo hi : Nat} {p : Option Addr} {ws : List Nat} {g : Nat → Bool} {k : Value → W} {w : World} (h0 : 0 < ws.length) (hwl : ws.length ≤ 1000) (hs : WV w lo hi p ws) (hg : ∀ j, wbit ws j = g j)
    (hk : ∀ p' c' w', BV w' w.heap.size w'.heap.size (64 * ws.length) p' g → Fr (fun _ => False) w w' → k (.agg #[.int .u64 (64 * ws.length : Nat), .slice p' (L (64 * ws.length) g).length c']) w') : F47 k p ws.length c w := by
  unfold F47
  refine new_intro fun n2 w1 e1 b2 f1 z1 => ?_
  refine F85_call (F85_spec (hs.fr0 f1).sees hs.small h0 (by omega) fun q rest w3 hq hqs hqc f3 zq zq2 => back_slice ?_)
  replace b2 := b2.fr f3 id
  have z3 := f3.size
  refine F84_call (F84_spec hq hqs hqc (by omega) fun b w4 hb f4 zb => back_ptr ?_)
  replace b2 := b2.fr f4 id
  have z4 := f4.size
  have hB : BSet w4 b q (64 * ws.length) g := ⟨⟨ws, rest, hb, hg⟩, fun i hi => by
    rcases Nat.lt_or_ge i (64 * ws.length) with h | h
    · exact h
    · rw [← hg i, wbit_ge (by omega)] at hi; cases hi⟩
  refine F51_call (F51_bv (by omega) hB fun p2 c2 w5 hs5 f5 => back_bits ?_)
  replace b2 := b2.fr f5 id
  have z5 := f5.size
  refine store_intro b2 (by simp) rfl fun w6 b2 f6 z6 => ?_
  refine store_intro b2 (by simp) rfl fun w7 b2 f7 z7 => ?_
  refine load_int b2 rfl ?_
  refine load_slice b2 rfl ?_
  refine hk p2 c2 w7 (((hs5.st f6 (by omega)).st f7 (by omega)).widen (by omega) (by omega)) (((((f1.trans f3 fun _ h => h.elim).trans f4 fun _ h => h.elim).trans f5 fun _ h => h.elim).trans f6 ?_).trans f7 ?_)
  all_goals (rintro x rfl; exact .inr (by omega))
/-- What came in as a list of words is read as such. -/
def ReadsW (w : World) (p : Option Addr) (l : Nat) : Prop := l = 0 ∨ ∃ a, p = some a ∧ a.block < w.heap.size ∧ ∀ i, i < l → ∃ v : Nat, v < 18446744073709551616 ∧ w.cell? (a.add i) = some (.int .u64 (v : Int))
theorem ReadsW.fr0 {w w' : World} {p : Option Addr} {l : Nat} (h : ReadsW w p l) (f : Fr (fun _ => False) w w') : ReadsW w' p l := by
  refine h.imp id ?_
  rintro ⟨a, rfl, hb, hc⟩
  exact ⟨a, rfl, Nat.lt_of_lt_of_le hb f.size, fun i hi => by rw [f.cell (by rw [add_block]; exact hb) id]; exact hc i hi⟩
theorem ReadsW.st {S : Nat → Prop} {w w' : World} {p : Option Addr} {l : Nat} (h : ReadsW w p l) (f : Fr S w w') (hS : ∀ x, bl p x → x < w.heap.size → ¬ S x) : ReadsW w' p l := by
  refine h.imp id ?_
  rintro ⟨a, rfl, hb, hc⟩
  exact ⟨a, rfl, Nat.lt_of_lt_of_le hb f.size, fun i hi => by rw [f.cell (by rw [add_block]; exact hb) (by rw [add_block]; exact hS _ ⟨_, rfl, rfl⟩ hb)]; exact hc i hi⟩
theorem readsW_of {w : World} {a : Option Addr} {len cap : Nat} {zs : List Int} (h : IsRow .u64 w a len cap zs) : ReadsW w a len := by
  rcases h with ⟨rfl, rfl, rfl, rfl⟩ | ⟨x, rfl, hl, hm, hz, hcell, hwz⟩
  · exact .inl rfl
  · rcases Nat.eq_zero_or_pos len with h0 | h0
    · exact .inl h0
    · refine .inr ⟨x, rfl, ?_, fun i hi => ?_⟩
      · have := World.block_lt_of_cell? w _ (hcell 0 (by omega))
        rwa [add_block] at this
      · have hm : zs.getD i 0 ∈ zs := by
          rw [List.getD_eq_getElem?_getD, List.getElem?_eq_getElem (by omega : i < zs.length)]; exact List.getElem_mem (by omega)
        have hb := wf_u64 (hwz _ hm)
        obtain ⟨v, hv⟩ := Int.eq_ofNat_of_zero_le hb.1
        exact ⟨v, by omega, by rw [hcell i (by omega), hv]⟩
theorem tb_of {w : World} {a : Option Addr} {len cap : Nat} {zs : List Int} (h : IsRow .u8 w a len cap zs) : TB w a len (fun i => zs.getD i 0) ∧ (∀ i, i < len → 0 ≤ zs.getD i 0 ∧ zs.getD i 0 < 256) ∧ len ≤ cap := by
  rcases h with ⟨rfl, rfl, rfl, rfl⟩ | ⟨x, rfl, hl, hm, hz, hcell, hwz⟩
  · exact ⟨.inl rfl, fun i hi => by omega, Nat.le_refl _⟩
  · refine ⟨?_, fun i hi => ?_, hl⟩
    · rcases Nat.eq_zero_or_pos len with h0 | h0
      · exact .inl h0
      · refine .inr ⟨x, rfl, ?_, fun i hi => hcell i (by omega)⟩
        have := World.block_lt_of_cell? w _ (hcell 0 (by omega))
        rwa [add_block] at this
    · have hm : zs.getD i 0 ∈ zs := by
        rw [List.getD_eq_getElem?_getD, List.getElem?_eq_getElem (by omega : i < zs.length)]; exact List.getElem_mem (by omega)
      exact wf_u8 (hwz _ hm)
/-- blFilter. -/
theorem C37 {m kk l c : Nat} {p : Option Addr} {k : Value → W} {w : World} (hm : m < 65536) (hkk : kk < 256) (hr : ReadsW w p l) (hl : l ≤ 2147483647)
    (hk : ∀ M K ws p' c' w', 0 < M → M ≤ 700 → K ≤ 8 → ws.length = (M + 63) / 64 → M = 1 + m % 700 → K = 1 + kk % 8 → WV w' w.heap.size w'.heap.size p' ws → Fr (fun _ => False) w w' → k (.agg #[.int .u64 (M : Nat), .int .u64 (K : Nat), .slice p' ws.length c']) w') : F37 k m kk p l c w := by
  unfold F37
  refine new_intro fun n4 w1 e1 b4 f1 z1 => ?_
  refine ⟨by decide, by decide, ?_⟩
  refine new_intro fun n5 w2 e2 b5 f2 z2 => ?_
  replace b4 := b4.fr f2 id
  have eM : addI .u64 1 (remI (IntKind.wrap .u64 (m : Int)) 700) = ((1 + m % 700 : Nat) : Int) := by
    rw [wrap_u64 (by omega) (by omega), remI_eq (by omega)]
    exact addI_nat (x := 1) (y := m % 700) (by omega)
  have eK : addI .u64 1 (remI (IntKind.wrap .u64 (kk : Int)) 8) = ((1 + kk % 8 : Nat) : Int) := by
    rw [wrap_u64 (by omega) (by omega), remI_eq (by omega)]
    exact addI_nat (x := 1) (y := kk % 8) (by omega)
  rw [eM, eK]
  have hM : 0 < 1 + m % 700 ∧ 1 + m % 700 ≤ 700 := by omega
  have hK : 1 + kk % 8 ≤ 8 := by omega
  replace hk := hk (1 + m % 700) (1 + kk % 8)
  generalize hMM : 1 + m % 700 = M at *
  generalize hKK : 1 + kk % 8 = K at *
  refine store_intro b5 (by simp) rfl fun w3 b5 f3 z3 => ?_
  refine store_intro b5 (by simp) rfl fun w4 b5 f4 z4 => ?_
  refine store_intro b5 (by simp) rfl fun w5 b5 f5 z5 => ?_
  replace b4 := ((b4.fr f3 (show ¬ n4 = n5 by omega)).fr f4 (show ¬ n4 = n5 by omega)).fr f5 (show ¬ n4 = n5 by omega)
  have fr : Fr (fun _ => False) w w5 := (((f1.trans f2 fun _ h => h.elim).trans f3 ?_).trans f4 ?_).trans f5 ?_
  rotate_left
  all_goals try (rintro x rfl; exact .inr (by omega))
  refine F37_L1_rule (fun p' l' c' a7 a8 i' w' => p' = p ∧ l' = l ∧ a7 = ⟨n4, 0, none⟩ ∧ a8 = ⟨n5, 0, none⟩ ∧ ∃ (i : Nat) (ws : List Nat) (sp : Option Addr) (sc : Nat), i' = i ∧ i ≤ (M + 63) / 64 ∧ ws.length = i ∧ (∀ x ∈ ws, x < 18446744073709551616) ∧
      Own w' 77 sp i sc (us ws) ∧ (∀ x, bl sp x → n5 < x) ∧ Blk w' n5 46 [.int .u64 M, .int .u64 K, .slice sp i sc] ∧ Blk w' n4 46 [.int .u64 0, .int .u64 0, .slice none 0 0] ∧ Fr (fun _ => False) w w')
    (fun _ _ _ _ _ i' _ => (M + 63) / 64 - i'.toNat) ?_ ⟨rfl, rfl, rfl, rfl, 0, [], none, 0, rfl, Nat.zero_le _, rfl, (fun x hx => by cases hx), Own.nil _ _, (fun x h => by obtain ⟨a, h, _⟩ := h; cases h), b5, b4, fr⟩
  have h45 : w.heap.size ≤ n4 ∧ n4 < n5 := by omega
  clear b4 b5 fr f1 f2 f3 f4 f5 e1 e2 z1 z2 z3 z4 z5 eM eK
  rintro p' l' c' a7 a8 i' w' ⟨rfl, rfl, rfl, rfl, i, ws, sp, sc, rfl, hi, hwi, hsm, own, hbl, b5, b4, fr⟩
  unfold F37_L1
  refine load_int b5 rfl ?_
  have e1 : quoI .u64 (addI .u64 ((M : Nat) : Int) 63) 64 = (((M + 63) / 64 : Nat) : Int) := by
    rw [show addI .u64 ((M : Nat) : Int) 63 = ((M + 63 : Nat) : Int) from addI_nat (y := 63) (by omega), quoI_u64 (by omega) (by omega) (by omega)]; omega
  rw [e1]
  refine ⟨by decide, ?_⟩
  refine BIf_intro (fun hc => ?_) (fun hc => ?_)
  · have hc := of_decide_eq_true hc
    have J2 : ∀ v : Nat, v < 18446744073709551616 → F37_J2 k (fun p'' l'' c'' a7' a8' i'' w'' => (p'' = p' ∧ l'' = l' ∧ a7' = ⟨n4, 0, none⟩ ∧ a8' = ⟨n5, 0, none⟩ ∧ ∃ (i : Nat) (ws : List Nat) (sp : Option Addr) (sc : Nat), i'' = i ∧ i ≤ (M + 63) / 64 ∧ ws.length = i ∧ (∀ x ∈ ws, x < 18446744073709551616) ∧
        Own w'' 77 sp i sc (us ws) ∧ (∀ x, bl sp x → n5 < x) ∧ Blk w'' n5 46 [.int .u64 M, .int .u64 K, .slice sp i sc] ∧ Blk w'' n4 46 [.int .u64 0, .int .u64 0, .slice none 0 0] ∧ Fr (fun _ => False) w w'') ∧ (M + 63) / 64 - i''.toNat < (M + 63) / 64 - ((i : Nat) : Int).toNat) p' l' c' ⟨n4, 0, none⟩ ⟨n5, 0, none⟩ i v w' := by
      intro v hv
      unfold F37_J2
      simp only [add_mk, Nat.zero_add, Nat.add_zero]
      refine load_slice b5 rfl ?_
      obtain ⟨ii, hi1, hi2, hi3, hi4⟩ := inf77
      have hb5 := b5.lt
      refine append1 (P := Go.Proofs.Try.prog) und43 hi1 hi2 hi3 rfl (by omega) own rfl rfl (by omega) fun q' d' w6 f6 own6 hp6 hs6 => ?_
      have b56 := b5.fr f6 fun h => by have := hbl _ h; omega
      have b46 := b4.fr f6 fun h => by have := hbl _ h; omega
      have hbl6 : ∀ x, bl q' x → n5 < x := fun x hx => by
        rcases hp6 x hx with h | h
        · exact hbl x h
        · omega
      refine store_intro b56 (by simp) rfl fun w7 b57 f7 z7 => ?_
      have ei : addI .u64 (i : Int) 1 = ((i + 1 : Nat) : Int) := addI_nat (y := 1) (by omega)
      rw [ei]
      refine ⟨⟨(by trivial), (by trivial), (by trivial), (by trivial), i + 1, ws ++ [v], q', d', rfl, by omega, by simp [hwi], fun x hx => ?_, ?_, hbl6, b57, b46.fr f7 (show ¬ n4 = n5 by omega), ?_⟩, by omega⟩
      · rcases List.mem_append.1 hx with hx | hx
        · exact hsm x hx
        · rw [List.mem_singleton.1 hx]; exact hv
      · rw [us_append]
        exact own6.fr f7 fun x hx (e : x = n5) => by have := hbl6 x hx; omega
      · exact (fr.trans f6 fun x hx => .inr (by have := hbl x hx; omega)).trans f7 fun x (e : x = n5) => .inr (by omega)
    have J1 : ∀ v : Nat, v < 18446744073709551616 → F37_J1 k (fun p'' l'' c'' a7' a8' i'' w'' => (p'' = p' ∧ l'' = l' ∧ a7' = ⟨n4, 0, none⟩ ∧ a8' = ⟨n5, 0, none⟩ ∧ ∃ (i : Nat) (ws : List Nat) (sp : Option Addr) (sc : Nat), i'' = i ∧ i ≤ (M + 63) / 64 ∧ ws.length = i ∧ (∀ x ∈ ws, x < 18446744073709551616) ∧
        Own w'' 77 sp i sc (us ws) ∧ (∀ x, bl sp x → n5 < x) ∧ Blk w'' n5 46 [.int .u64 M, .int .u64 K, .slice sp i sc] ∧ Blk w'' n4 46 [.int .u64 0, .int .u64 0, .slice none 0 0] ∧ Fr (fun _ => False) w w'') ∧ (M + 63) / 64 - i''.toNat < (M + 63) / 64 - ((i : Nat) : Int).toNat) p' l' c' ⟨n4, 0, none⟩ ⟨n5, 0, none⟩ i v w' := by
      intro v hv
      unfold F37_J1
      refine load_int b5 rfl (bind_intro ?_)
      have e3 : mulI .u64 64 (i : Int) = ((64 * i : Nat) : Int) := by rw [mulI_u64 (by omega) (by omega)]; omega
      have e4 : subI .u64 ((M : Nat) : Int) ((64 * i : Nat) : Int) = ((M - 64 * i : Nat) : Int) := by rw [subI_u64 (by omega) (by omega)]; omega
      rw [e3, e4]
      refine BIf_intro (fun h => ?_) (fun h => J2 v hv)
      refine ⟨by omega, bind_intro ?_⟩
      have hrg : ∃ u : Nat, u < 18446744073709551616 ∧ andI .u64 ((v : Nat) : Int) (subI .u64 (shlI .u64 1 (((M - 64 * i : Nat) : Int)).toNat) 1) = (u : Int) := by
        have h := wrap_range ((BitVec.ofInt IntKind.u64.bits ((v : Nat) : Int) &&& BitVec.ofInt IntKind.u64.bits (subI .u64 (shlI .u64 1 (((M - 64 * i : Nat) : Int)).toNat) 1)).toNat : Int)
        obtain ⟨u, hu⟩ := Int.eq_ofNat_of_zero_le h.1
        have hu' : andI .u64 ((v : Nat) : Int) (subI .u64 (shlI .u64 1 (((M - 64 * i : Nat) : Int)).toNat) 1) = (u : Int) := hu
        exact ⟨u, by have := h.2; rw [hu] at this; omega, hu'⟩
      obtain ⟨u, hu, eu⟩ := hrg
      rw [eu]
      exact J2 u hu
    refine BIf_intro (fun hd => ?_) (fun hd => J1 0 (by decide))
    have hd := of_decide_eq_true hd
    rw [wrap_u64 (by omega) (by omega)] at hd
    rcases hr.fr0 fr with h0 | ⟨a, rfl, hab, hca⟩
    · omega
    obtain ⟨v, hv, hcv⟩ := hca i (by omega)
    refine ⟨⟨by omega, by omega⟩, LoadT_int.2 ⟨_, by rw [Int.toNat_natCast]; exact hcv, ?_⟩⟩
    exact J1 v hv
  · have hc := of_decide_eq_false hc
    have hiL : i = (M + 63) / 64 := by omega
    simp only [add_mk, Nat.zero_add, Nat.add_zero]
    refine load_int b5 rfl ?_
    refine load_int b5 rfl ?_
    refine load_slice b5 rfl ?_
    refine store_intro b4 (by simp) rfl fun w6 b4 f6 z6 => ?_
    refine store_intro b4 (by simp) rfl fun w7 b4 f7 z7 => ?_
    refine store_intro b4 (by simp) rfl fun w8 b4 f8 z8 => ?_
    refine load_int b4 rfl ?_
    refine load_int b4 rfl ?_
    refine load_slice b4 rfl ?_
    have own' : Own w8 77 sp i sc (us ws) := ((own.fr f6 fun x hx (e : x = n4) => by have := hbl x hx; omega).fr f7 fun x hx (e : x = n4) => by have := hbl x hx; omega).fr f8 fun x hx (e : x = n4) => by have := hbl x hx; omega
    have sees : Sees w8 sp ws := by
      rcases own'.2 with ⟨rfl, h0, _⟩ | ⟨q, rest, rfl, hb, _, _⟩
      · exact .inl (List.length_eq_zero_iff.1 (by omega))
      · refine .inr ⟨_, rfl, hb.lt, fun t ht => ?_⟩
        rw [add_mk, Nat.zero_add, hb.cell, List.getElem?_append_left (by simpa using ht), us_get _ _ ht]
    have := hk ws sp sc w8 hM.1 hM.2 hK (by omega) rfl rfl ⟨sees, hsm, fun x hx => ⟨by have := hbl x hx; omega, own'.lt hx⟩⟩ (((fr.trans f6 ?_).trans f7 ?_).trans f8 ?_)
    · rw [hwi] at this; exact this
    all_goals (rintro x rfl; exact .inr (by omega))
/-- blData: the first bytes. -/
theorem C38 {l c : Nat} {p : Option Addr} {b : Nat → Int} {k : Value → W} {w : World} (hb : TB w p l b) (hlc : l ≤ c)
    (hk : ∀ p' l' c', TB w p' l' b → l' ≤ c' → l' ≤ 80 → l' ≤ l → k (.slice p' l' c') w) : F38 k p l c w := by
  unfold F38
  refine BIf_intro (fun h => ?_) (fun h => ?_)
  · have h := of_decide_eq_true h
    refine ⟨⟨by decide, by omega⟩, ?_⟩
    have hs := hb.sub (o := 0) (m := 80) (c := c) (by omega) hlc
    have e : (fun j => b (0 + j)) = b := by funext j; rw [Nat.zero_add]
    rw [e] at hs
    exact hk _ 80 _ hs (by omega) (Nat.le_refl _) (by omega)
  · have h := of_decide_eq_false h
    exact hk p l c hb hlc (by omega) (Nat.le_refl _)
end Go.Proofs.Ytopdlfecfgimpaa.E
