/-
  Skip lists: items, steps and answers in memory; what is kept of an answer.
-/
import Derived.Test.YtfokodpnoiilbaaGreatS8
namespace Go.Proofs.YtfokodpnoiilbaaGreat.E
open Go
set_option linter.unusedSimpArgs false
set_option linter.unusedVariables false
set_option maxRecDepth 100000
set_option maxHeartbeats 8000000

structure Stp where
  op : Int
  items : List Itm
  most : Int
structure Ans where
  items : List Itm
  is : List Bool
  n : Nat
def ItR (t : TypeId) : Rk Itm := ⟨t, 2, fun _ g x => g 0 = some (.int .i64 x.1) ∧ g 1 = some (.int .i64 x.2), [], fun h hP => ⟨by rw [← h 0 (by decide)]; exact hP.1, by rw [← h 1 (by decide)]; exact hP.2⟩, fun _ _ h => h⟩
def BoK : Rk Bool := ⟨4, 1, fun _ g x => g 0 = some (.bool x), [], fun h hP => by rw [← h 0 (by decide)]; exact hP, fun _ _ h => h⟩
theorem sl_dp {α : Type} {K : Rk α} {w w' : World} {S : Nat → Prop} {p : Option Addr} {xs : List α} {dp : List TypeId} (h : Sl K w p xs) (f : Fr S w w') (hd : ∀ b u us, S b → Blk w b u us → u ∉ dp) (ht : K.t ∈ dp) (hs : ∀ u, u ∈ K.dp → u ∈ dp) : Sl K w' p xs := by
  rcases h with h | ⟨q, o, us, rfl, hB, hR⟩
  · exact .inl h
  · exact .inr ⟨q, o, us, rfl, hB.fr f fun hS => hd _ _ _ hS hB ht, hR.fr f fun b u us hS hb e => hd _ _ _ hS hb (hs u e)⟩
def z37 : Value := .agg #[.int .i64 0, .int .i64 0]
theorem und32 : Tryz.prog.underlying 36 = some (.slice 4) := by kernel_rfl
theorem inf4 : ∃ i, Tryz.prog.info? 4 = some i ∧ i.zero = some (.bool false) ∧ i.size = 1 ∧ i.bytes ≤ 4096 := ⟨_, rfl, by kernel_rfl, by kernel_rfl, Nat.le_of_ble_eq_true (by kernel_rfl)⟩
theorem fill37 (x y : Int) : ∀ i : TypeInfo, i.size = 2 → Instr.fill (fun j => some (j * i.size, i.size)) ((Array.range (1 * i.size)).map (z37.cells[· % z37.cells.size]!)) [(0, .agg #[.int .i64 x, .int .i64 y])] = some [.int .i64 x, .int .i64 y].toArray := by
  intro i h; rw [h]; kernel_rfl
theorem fill4 (x : Bool) : ∀ i : TypeInfo, i.size = 1 → Instr.fill (fun j => some (j * i.size, i.size)) ((Array.range (1 * i.size)).map ((Value.bool false).cells[· % (Value.bool false).cells.size]!)) [(0, .bool x)] = some [.bool x].toArray := by
  intro i h; rw [h]; kernel_rfl
section
variable {w : World} {f : Option Addr → Nat → Nat → W}
theorem bld_bo {x : Bool} (hk : ∀ n w', n = w.heap.size → Blk w' n 4 [.bool x] → Fr (fun _ => False) w w' → w'.heap.size = n + 1 → f (some ⟨n, 0, none⟩) 1 1 w') :
    RawT Tryz.prog (Instr.buildSlice 36 1 [(0, .bool x)].toArray) (.s (.one .slice)) f w := by
  obtain ⟨i, g1, g2, g3, g4⟩ := inf4
  exact build_intro und32 g1 g2 (by omega) (by omega) (fill4 _ i g3) fun w1 f1 b1 z1 => hk _ w1 rfl b1 f1 z1
variable {ty : TypeId} {cs : Array Bool} {p : Option Addr} {l c : Nat}
theorem app_bo {xs : List Bool} {x : Bool} {n d : Nat} (h : SlO BoK w p l c xs) (hB : Blk w n 4 [.bool x]) (hl : l < 4000000000) (hk : ∀ p' c' w', Fr (fun b => bl p b) w w' → SlO BoK w' p' (l + 1) c' (xs ++ [x]) → (∀ b, bl p' b → bl p b ∨ w.heap.size ≤ b) → f p' (l + 1) c' w') :
    NextT Tryz.prog (builtin .append #[36, 36] ty cs [.slice p l c, .slice (some ⟨n, 0, none⟩) 1 d].toArray) (.s (.one .slice)) f w := by
  obtain ⟨i, g1, g2, g3, g4⟩ := inf4
  refine SlO.append (K := BoK) und32 g1 g2 g3 (by decide) rfl g4 (by decide) h hB (ys := [x]) (Rows.one rfl) rfl rfl (fun u hu => ?_) (by omega) hk
  simp only [List.mem_cons, List.not_mem_nil, or_false] at hu
  subst hu; rfl
end
theorem chk {w : World} {b t i : Nat} {vs : List Value} {v : Value} {k : W} (h : Blk w b t vs) (hi : vs[i]? = some v) (hk : k w) : Chk1 ⟨b, i, none⟩ v k w := ⟨by rw [h.cell, hi], hk⟩
theorem blk_ty {w w' : World} {b t : Nat} {vs : List Value} {S : Nat → Prop} {ts : List TypeId} (h : Blk w b t vs) (f : Fr S w w') (hT : Tys S w ts) (ht : t ∉ ts) : Blk w' b t vs := h.fr f fun hs => ht (hT _ _ _ hs h)

def Ans.kp (a : Ans) (o : Option Itm) : Ans := ⟨a.items ++ [o.getD (0, 0)], a.is ++ [o.isSome], a.n⟩
def Ans.kps (a : Ans) (os : List (Option Itm)) : Ans := ⟨a.items ++ os.map (·.getD (0, 0)), a.is ++ os.map Option.isSome, a.n⟩
theorem Ans.kps_snoc (a : Ans) (os : List (Option Itm)) (o : Option Itm) : a.kps (os ++ [o]) = (a.kps os).kp o := by
  unfold Ans.kps Ans.kp; simp
theorem ta2 {P : Program} {s : Sem Value} {x y : Int} {b : Bool} {f : Int → Int → Bool → W} {w : World} (h : s.run P w = .ok (.tuple #[.agg #[.int .i64 x, .int .i64 y], .bool b]) w) (hk : f x y b w) : RawS P s (.tup [(.agg [(.int .i64), (.int .i64)]), (.one .bool)]) f w :=
  ⟨(x, y, b, ()), h, hk⟩
end Go.Proofs.YtfokodpnoiilbaaGreat.E
