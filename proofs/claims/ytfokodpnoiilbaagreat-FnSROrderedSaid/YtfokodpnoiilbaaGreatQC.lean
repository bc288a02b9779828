/-
  Range trees of skip lists: a new step.
-/
import Derived.Test.YtfokodpnoiilbaaGreatQB
namespace Go.Proofs.YtfokodpnoiilbaaGreat.E
open Go
set_option linter.unusedSimpArgs false
set_option linter.unusedVariables false
set_option maxRecDepth 100000
set_option maxHeartbeats 1000000

section
variable {w : World} {k : Value → W} {n : Nat} {mp kp : Option Addr} {mc kc : Nat} {rs : List (Nat → Int)} {ks : List Int}
theorem StD.snoc' {base : Nat} {p : Option Addr} {l c : Nat} {es : List EnD} {f : Option Addr → Nat → Nat → W} {ty : TypeId} {cs : Array Bool} {e : EnD} {o : Int} {dp lp hp : Option Addr} {ld dc ll lc lh hc : Nat} {mo : Int} (h : StD w base p l c es) (hb : base ≤ w.heap.size)
    (q1 : e.op = o) (q2 : e.dp = dp) (q3 : e.dots.length = ld) (q4 : e.dc = dc) (q5 : e.lp = lp) (q6 : e.low.length = ll) (q7 : e.lc = lc) (q8 : e.hp = hp) (q9 : e.high.length = lh) (q10 : e.hc = hc) (q11 : ((e.most : Nat) : Int) = mo)
    (h1 : SlO (DoK 42) w e.dp e.dots.length e.dc e.dots) (h2 : Sl In64K w e.lp e.low) (h3 : Sl In64K w e.hp e.high) (h4 : ∀ b, bl e.dp b → base ≤ b) (hdj : ∀ a ∈ es, ∀ x, bl a.dp x → ¬ bl e.dp x) (hl : l < 1000000)
    (hk : ∀ p' c' w', StD w' base p' (l + 1) c' (es ++ [e]) → Fr (fun b => bl p b) w w' → f p' (l + 1) c' w') :
    RawT Tryz.prog (Instr.buildSlice 23 1 [(0, .agg #[.int .i64 o, .int .i64 0, .slice dp ld dc, .slice lp ll lc, .slice hp lh hc, .int .u64 0, .int .i64 0, .int .i64 0, .int .i64 mo])].toArray) (.s (.one .slice)) (fun a m d => NextT Tryz.prog (builtin .append #[23, 23] ty cs [.slice p l c, .slice a m d].toArray) (.s (.one .slice)) f) w := by
  subst q1 q2 q3 q4 q5 q6 q7 q8 q9 q10 q11
  exact StD.snoc h hb h1 h2 h3 h4 hdj hl hk
/-- A new step. -/
theorem F4_J1f {again : Int → Option Addr → Nat → Nat → Option Addr → Nat → Nat → Option Addr → Nat → Nat → Int → Int → W} {base n20 n36 : Nat} {sp yp : Option Addr} {sc yc ml mc' kl kc' : Nat} {mp' kp' : Option Addr} {es : List EnD} {l : List Int} {v op nn ii : Int} {r : Nat → Int}
    (hn : n ≤ 3) (hr : Pos3 r) (hS : StD w base sp es.length sc es) (hb : base ≤ w.heap.size) (hel : es.length ≤ 60) (bm : Blk w n20 45 (mvV r)) (b36 : Blk w n36 42 [.slice yp l.length yc, .int .i64 v]) (hy : Sl In64K w yp l)
    (hk : ∀ w' p' c' e, e.op = op → e.dots = [(l, v)] → e.low.length = n → e.high.length = n → (∀ v ∈ e.low, 0 ≤ v ∧ v < 12) → (∀ v ∈ e.high, 0 ≤ v ∧ v < 28) → StD w' base p' (es.length + 1) c' (es ++ [e]) → Fr (fun b => base ≤ b) w w' → again ((n : Nat) : Int) mp' ml mc' kp' kl kc' p' (es.length + 1) c' nn (addI .i64 ii 1) w') :
    F4_J1 k again ((n : Nat) : Int) mp' ml mc' kp' kl kc' sp es.length sc nn ii ⟨n20, 0, none⟩ op ⟨n36, 0, none⟩ false w := by
  unfold F4_J1
  rw [BIf_false]
  simp only [add_mk, Nat.zero_add]
  refine load_slice (i := 0) b36 rfl (load_int (i := 1) b36 rfl ?_)
  refine bld_do (y := ⟨yp, yc, l, v⟩) hy fun n1 w1 e1 b1 hy1 f1 z1 => ?_
  have O1 : SlO (DoK 42) w1 (some ⟨n1, 0, none⟩) 1 1 [(l, v)] := SlO.made (K := DoK 42) b1 rfl (by decide) rfl (Rows.one ⟨yp, yc, rfl, rfl, hy1⟩)
  have bm1 := bm.fr f1 id
  refine Req_iff.2 ⟨by decide, load_int (i := 7) bm1 rfl (Req_iff.2 ⟨by decide, ?_⟩)⟩
  obtain ⟨mo, hmo⟩ : ∃ mo : Nat, IntKind.wrap .i64 (remI (IntKind.wrap .u8 (r 7)) 8) = ((mo : Nat) : Int) := by
    obtain ⟨u1, u2⟩ := wrap_u8_rng (r 7)
    rw [remI_eq u1, wrap_i64 (by omega) (by omega)]
    exact ⟨(IntKind.wrap .u8 (r 7) % 8).toNat, by omega⟩
  rw [hmo]
  refine new_intro fun n61 w2 e2 b2 f2 z2 => ?_
  refine store_intro (i := 0) b2 (by simp) rfl fun w3 b3 f3 z3 => ?_
  refine store_intro (i := 1) b3 (by simp) rfl fun w4 b4 f4 z4 => ?_
  refine store_intro (i := 2) b4 (by simp) rfl fun w5 b5 f5 z5 => ?_
  refine store_intro (i := 3) b5 (by simp) rfl fun w6 b6 f6 z6 => ?_
  refine store_intro (i := 4) b6 (by simp) rfl fun w7 b7 f7 z7 => ?_
  refine store_intro (i := 5) b7 (by simp) rfl fun w8 b8 f8 z8 => ?_
  refine store_intro (i := 6) b8 (by simp) rfl fun w9 b9 f9 z9 => ?_
  refine store_intro (i := 7) b9 (by simp) rfl fun wa ba fa za => ?_
  refine store_intro (i := 8) ba (by simp) rfl fun wb bb fb zb => ?_
  have bb : Blk wb n61 31 [.int .i64 op, .int .i64 0, .slice (some ⟨n1, 0, none⟩) 1 1, .slice none 0 0, .slice none 0 0, .int .u64 0, .int .i64 0, .int .i64 0, .int .i64 ((mo : Nat) : Int)] := bb
  have i : ∀ x, x = n61 → x = n61 ∨ w1.heap.size ≤ x := fun _ h => .inl h
  have f1b : Fr (fun _ => False) w1 wb := by
    have : Fr (fun b => b = n61) w1 wb := (((((((((f2.mono (S' := fun b => b = n61) fun _ h => h.elim).trans f3 i).trans f4 i).trans f5 i).trans f6 i).trans f7 i).trans f8 i).trans f9 i).trans fa i).trans fb i
    exact this.mono fun b h => .inr (by have h : b = n61 := h; omega)
  have bmb := bm1.fr f1b id
  refine load_int (i := 0) bmb rfl (load_int (i := 1) bmb rfl (load_int (i := 2) bmb rfl (load_int (i := 3) bmb rfl (load_int (i := 4) bmb rfl (load_int (i := 5) bmb rfl (load_int (i := 6) bmb rfl (load_int (i := 7) bmb rfl ?_)))))))
  refine F13_call (F13_pos hn (hr 1 (by omega) (by omega)) (hr 2 (by omega) (by omega)) (hr 3 (by omega) (by omega)) fun wc lp lc hp hc lo hi hlo hhi hrl hrh hSl hSh fc => back_ss ?_)
  have bc := bb.fr fc id
  refine store_intro (i := 3) bc (by simp) rfl fun wd bd fd zd => ?_
  refine store_intro (i := 4) bd (by simp) rfl fun we be fe ze => ?_
  have be : Blk we n61 31 [.int .i64 op, .int .i64 0, .slice (some ⟨n1, 0, none⟩) 1 1, .slice lp n lc, .slice hp n hc, .int .u64 0, .int .i64 0, .int .i64 0, .int .i64 ((mo : Nat) : Int)] := be
  refine load_int (i := 0) be rfl (load_int (i := 1) be rfl (load_slice (i := 2) be rfl (load_slice (i := 3) be rfl (load_slice (i := 4) be rfl (load_int (i := 5) be rfl (load_int (i := 6) be rfl (load_int (i := 7) be rfl (load_int (i := 8) be rfl ?_))))))))
  have fce : Fr (fun b => b = n61) wc we := fd.trans fe fun _ h => .inl h
  have T : Tys (fun b => b = n61) wc [31] := Tys.one bc
  have z1c := (f1b.trans fc fun _ h => h.elim).size
  have f1e : Fr (fun _ => False) w1 we := (f1b.trans fc fun _ h => h.elim).trans fce fun b hb => .inr (by have hb : b = n61 := hb; omega)
  have f0e : Fr (fun _ => False) w we := f1.trans f1e fun _ h => h.elim
  have z0e := f0e.size
  have hSl' := hSl.fr fce T (by decide)
  have hSh' := hSh.fr fce T (by decide)
  refine StD.snoc' (e := ⟨op, some ⟨n1, 0, none⟩, [(l, v)], 1, lp, lo, lc, hp, hi, hc, mo⟩) (hS.fr0 f0e) (by omega) rfl rfl rfl rfl rfl hlo rfl rfl hhi rfl rfl (O1.fr0 f1e) hSl' hSh' (fun b hb' => by have := bl_q.1 hb'; omega) (fun a ha x hx hx' => by
    have := bl_q.1 hx'
    have := (hS.en a ha).1.lt hx; omega) (by omega) fun p' c' wg hg fg => ?_
  exact hk wg p' c' _ rfl rfl hlo hhi hrl hrh hg ((f0e.mono fun _ h => h.elim).trans fg fun b hb' => .inl (hS.bp b hb'))
end
end Go.Proofs.YtfokodpnoiilbaaGreat.E
