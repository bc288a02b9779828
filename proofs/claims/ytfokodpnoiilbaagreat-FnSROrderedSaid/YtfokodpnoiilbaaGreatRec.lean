/-
  Lists of records in memory: read element by element, built element by element.
-/
import Derived.Test.YtfokodpnoiilbaaGreatWide
import Derived.Test.YtfokodpnoiilbaaGreatArith
namespace Go.Proofs.YtfokodpnoiilbaaGreat.E
open Go
set_option linter.unusedSimpArgs false
set_option linter.unusedVariables false

/-- Only blocks of these types are in S. -/
def Tys (S : Nat → Prop) (w : World) (ts : List TypeId) : Prop := ∀ b u us, S b → Blk w b u us → u ∈ ts
theorem Tys.none (w : World) : Tys (fun _ => False) w [] := fun _ _ _ h => h.elim
theorem Tys.one {w : World} {b t : Nat} {us : List Value} (h : Blk w b t us) : Tys (fun x => x = b) w [t] := fun x u us' hx hu => by
  have e : x = b := hx
  subst e
  have : u = t := (hu.unique h).1
  subst this
  exact List.mem_cons_self ..
/-- A kind of record: its type, how many cells, what it means. -/
structure Rk (α : Type) where
  t : TypeId
  sz : Nat
  P : World → (Nat → Option Value) → α → Prop
  dp : List TypeId
  loc : ∀ {w : World} {g g' : Nat → Option Value} {x : α}, (∀ j, j < sz → g j = g' j) → P w g x → P w g' x
  mono : ∀ {S : Nat → Prop} {w w' : World} {g : Nat → Option Value} {x : α}, Fr S w w' → (∀ b u us, S b → Blk w b u us → u ∉ dp) → P w g x → P w' g x
section
variable {α : Type} {K : Rk α} {w w' : World} {S : Nat → Prop}
def Rows (K : Rk α) (w : World) (o : Nat) (us : List Value) (xs : List α) : Prop := ∀ i x, xs[i]? = some x → K.P w (fun j => us[o + i * K.sz + j]?) x
namespace Rows
variable {o : Nat} {us : List Value} {xs : List α}
theorem nil (K : Rk α) (w : World) (o : Nat) (us : List Value) : Rows K w o us [] := fun i x h => by simp at h
theorem fr (h : Rows K w o us xs) (f : Fr S w w') (hd : ∀ b u us, S b → Blk w b u us → u ∉ K.dp) : Rows K w' o us xs := fun i x hx => K.mono f hd (h i x hx)
theorem rest (h : Rows K w 0 us xs) (hl : us.length = xs.length * K.sz) (r : List Value) : Rows K w 0 (us ++ r) xs := fun i x hx => by
  refine K.loc (fun j hj => ?_) (h i x hx)
  have hi := (List.getElem?_eq_some_iff.1 hx).1
  have h1 : (i + 1) * K.sz ≤ xs.length * K.sz := Nat.mul_le_mul_right _ hi
  rw [Nat.add_mul] at h1
  rw [List.getElem?_append_left (by omega)]
theorem append {vs : List Value} {ys : List α} (h : Rows K w 0 us xs) (hl : us.length = xs.length * K.sz) (h' : Rows K w 0 vs ys) : Rows K w 0 (us ++ vs) (xs ++ ys) := fun i x hx => by
  by_cases hi : i < xs.length
  · rw [List.getElem?_append_left hi] at hx
    exact h.rest hl vs i x hx
  · rw [List.getElem?_append_right (by omega)] at hx
    refine K.loc (fun j hj => ?_) (h' _ x hx)
    have e : 0 + i * K.sz + j = us.length + (0 + (i - xs.length) * K.sz + j) := by
      rw [hl, Nat.sub_mul]
      have : xs.length * K.sz ≤ i * K.sz := Nat.mul_le_mul_right _ (by omega)
      omega
    rw [e, List.getElem?_append_right (by omega), Nat.add_sub_cancel_left]
theorem one {vs : List Value} {x : α} (h : K.P w (fun j => vs[j]?) x) : Rows K w 0 vs [x] := fun i y hy => by
  cases i with
  | zero =>
    simp at hy; subst hy
    exact K.loc (fun j _ => by simp) h
  | succ i => simp at hy
theorem cons {us vs : List Value} {x : α} {ys : List α} (h : K.P w (fun j => us[j]?) x) (hl : us.length = K.sz) (h' : Rows K w 0 vs ys) : Rows K w 0 (us ++ vs) (x :: ys) :=
  (Rows.one h).append (by simp [hl]) h'
theorem drop (h : Rows K w o us xs) (n : Nat) : Rows K w (o + n * K.sz) us (xs.drop n) := fun i x hx => by
  rw [List.getElem?_drop] at hx
  refine K.loc (fun j _ => ?_) (h _ x hx)
  rw [Nat.add_mul]; congr 1; omega
theorem take (h : Rows K w o us xs) (n : Nat) : Rows K w o us (xs.take n) := fun i x hx => by
  rw [List.getElem?_take] at hx
  split at hx
  · exact h i x hx
  · cases hx
end Rows
/-- A list that can be read at p. -/
def Sl (K : Rk α) (w : World) (p : Option Addr) (xs : List α) : Prop := xs = [] ∨ ∃ q o us, p = some ⟨q, o, none⟩ ∧ Blk w q K.t us ∧ Rows K w o us xs
namespace Sl
variable {p : Option Addr} {xs : List α}
theorem nil (K : Rk α) (w : World) (p : Option Addr) : Sl K w p [] := .inl rfl
theorem fr {ts : List TypeId} (h : Sl K w p xs) (f : Fr S w w') (hT : Tys S w ts) (hd : ∀ u ∈ ts, u ≠ K.t ∧ u ∉ K.dp) : Sl K w' p xs := by
  rcases h with h | ⟨q, o, us, rfl, hB, hR⟩
  · exact .inl h
  · exact .inr ⟨q, o, us, rfl, hB.fr f fun hS => (hd _ (hT _ _ _ hS hB)).1 rfl, hR.fr f fun b u us hS hb => (hd _ (hT _ _ _ hS hb)).2⟩
theorem fr0 (h : Sl K w p xs) (f : Fr (fun _ => False) w w') : Sl K w' p xs := h.fr f (Tys.none w) fun u hu => by cases hu
theorem get (h : Sl K w p xs) {i : Nat} {x : α} (hx : xs[i]? = some x) : ∃ q o, p = some ⟨q, o, none⟩ ∧ K.P w (fun j => w.cell? ⟨q, o + i * K.sz + j, none⟩) x := by
  rcases h with rfl | ⟨q, o, us, rfl, hB, hR⟩
  · simp at hx
  · exact ⟨q, o, rfl, K.loc (fun j _ => by rw [hB.cell]) (hR i x hx)⟩
theorem blk (h : Sl K w p xs) (h0 : xs ≠ []) : ∃ q o us, p = some ⟨q, o, none⟩ ∧ Blk w q K.t us := by
  rcases h with h | ⟨q, o, us, rfl, hB, _⟩
  · exact absurd h h0
  · exact ⟨q, o, us, rfl, hB⟩
theorem drop (h : Sl K w p xs) {n c : Nat} (hc : xs.length ≤ c) : Sl K w (sliceA p n c K.sz) (xs.drop n) := by
  by_cases hcn : c = n
  · refine .inl (List.drop_eq_nil_of_le (by omega))
  · rcases h with rfl | ⟨q, o, us, rfl, hB, hR⟩
    · exact .inl (by simp)
    · refine .inr ⟨q, o + n * K.sz, us, ?_, hB, hR.drop n⟩
      unfold sliceA
      rw [if_neg hcn, Option.map_some, add_mk]
theorem take (h : Sl K w p xs) (n : Nat) : Sl K w p (xs.take n) := by
  rcases h with rfl | ⟨q, o, us, rfl, hB, hR⟩
  · exact .inl (by simp)
  · exact .inr ⟨q, o, us, rfl, hB, hR.take n⟩
theorem of_blk {q : Nat} {us : List Value} (hB : Blk w q K.t us) (hR : Rows K w 0 us xs) : Sl K w (some ⟨q, 0, none⟩) xs := .inr ⟨q, 0, us, rfl, hB, hR⟩
end Sl
theorem OwnN.blk {e : TypeId} {sz : Nat} {p : Option Addr} {l c : Nat} {vs : List Value} (h : OwnN w e sz p l c vs) {b : Nat} (hb : bl p b) : ∃ us, Blk w b e us := by
  obtain ⟨a, rfl, rfl⟩ := hb
  rcases h.2 with ⟨h, _⟩ | ⟨q, rest, h, hb, _⟩
  · cases h
  · cases h; exact ⟨_, hb⟩
/-- A list that the running code has made itself. -/
def SlO (K : Rk α) (w : World) (p : Option Addr) (l c : Nat) (xs : List α) : Prop := ∃ vs, OwnN w K.t K.sz p l c vs ∧ l = xs.length ∧ Rows K w 0 vs xs
namespace SlO
variable {p : Option Addr} {l c : Nat} {xs : List α}
theorem nil (K : Rk α) (w : World) : SlO K w none 0 0 [] := ⟨[], OwnN.nil _ _ _, rfl, Rows.nil _ _ _ _⟩
theorem len (h : SlO K w p l c xs) : l = xs.length := by obtain ⟨_, _, h, _⟩ := h; exact h
theorem blk (h : SlO K w p l c xs) {b : Nat} (hb : bl p b) : ∃ us, Blk w b K.t us := by obtain ⟨_, h, _⟩ := h; exact h.blk hb
theorem lt (h : SlO K w p l c xs) {b : Nat} (hb : bl p b) : b < w.heap.size := by obtain ⟨us, h⟩ := h.blk hb; exact h.lt
theorem ty (h : SlO K w p l c xs) : Tys (fun b => bl p b) w [K.t] := fun b u us hb hu => by
  obtain ⟨us', h'⟩ := h.blk hb
  have : u = K.t := (hu.unique h').1
  subst this
  exact List.mem_cons_self ..
theorem fr' (h : SlO K w p l c xs) (f : Fr S w w') (hS : ∀ b, bl p b → ¬ S b) (hd : ∀ b u us, S b → Blk w b u us → u ∉ K.dp) : SlO K w' p l c xs := by
  obtain ⟨vs, h1, h2, h3⟩ := h
  exact ⟨vs, h1.fr f hS, h2, h3.fr f hd⟩
theorem fr {ts : List TypeId} (h : SlO K w p l c xs) (f : Fr S w w') (hT : Tys S w ts) (hd : ∀ u ∈ ts, u ≠ K.t ∧ u ∉ K.dp) : SlO K w' p l c xs :=
  h.fr' f (fun b hb hS => by obtain ⟨us, hB⟩ := h.blk hb; exact (hd _ (hT _ _ _ hS hB)).1 rfl) fun b u us hS hb => (hd _ (hT _ _ _ hS hb)).2
theorem fr0 (h : SlO K w p l c xs) (f : Fr (fun _ => False) w w') : SlO K w' p l c xs := h.fr' f (fun _ _ => id) fun _ _ _ h => h.elim
theorem sl (h : SlO K w p l c xs) : Sl K w p xs := by
  obtain ⟨vs, h1, h2, h3⟩ := h
  rcases h1.2 with ⟨_, h, _⟩ | ⟨q, rest, rfl, hB, hc, _⟩
  · left
    exact List.length_eq_zero_iff.1 (by omega)
  · exact .inr ⟨q, 0, _, rfl, hB, h3.rest (by rw [h1.1, h2]) rest⟩
theorem le (h : SlO K w p l c xs) : l ≤ c ∧ c ≤ maxLen := by
  obtain ⟨vs, h1, h2, h3⟩ := h
  rcases h1.2 with ⟨_, h, h'⟩ | ⟨q, rest, rfl, hB, hc, h, h'⟩
  · subst h h'; exact ⟨Nat.le_refl _, by decide⟩
  · exact ⟨h, h'⟩
theorem made {q n : Nat} {vs : List Value} (h : Blk w q K.t vs) (hl : vs.length = n * K.sz) (hn : n ≤ maxLen) (hx : n = xs.length) (hR : Rows K w 0 vs xs) : SlO K w (some ⟨q, 0, none⟩) n n xs :=
  ⟨vs, OwnN.made h hl hn, hx, hR⟩
variable {P : Program}
/-- append of what a block has. -/
theorem append {t : TypeId} {i : TypeInfo} {z : Value} {ty : TypeId} {cs : Array Bool} {f : Option Addr → Nat → Nat → W} {m d n : Nat} {news : List Value} {ys : List α}
    (ht : P.underlying t = some (.slice K.t)) (hi : P.info? K.t = some i) (hz : i.zero = some z) (hs : i.size = K.sz) (hpos : 0 < K.sz) (hzc : z.cells.size = K.sz) (hb : i.bytes ≤ 4096) (hdp : K.t ∉ K.dp)
    (h : SlO K w p l c xs) (hB : Blk w n K.t news) (hR : Rows K w 0 news ys) (hm : m = ys.length) (hl : news.length = m * K.sz) (h1 : ∀ u ∈ news, u.oneCell' = true) (hlm : l + m < 4294967296)
    (hk : ∀ p' c' w', Fr (fun b => bl p b) w w' → SlO K w' p' (l + m) c' (xs ++ ys) → (∀ b, bl p' b → bl p b ∨ w.heap.size ≤ b) → f p' (l + m) c' w') :
    NextT P (builtin .append #[t, t] ty cs [.slice p l c, .slice (some ⟨n, 0, none⟩) m d].toArray) (.s (.one .slice)) f w := by
  have hty := h.ty
  obtain ⟨vs, h1', h2, h3⟩ := h
  refine append_own ht hi hz hs hpos hzc hb h1' hl (fun j u hu => by rw [add_mk, Nat.zero_add, hB.cell]; exact hu) h1 hlm fun p' c' w' f' o' hp' => hk p' c' w' f' ⟨_, o', by simp [h2, hm], ?_⟩ hp'
  have hd : ∀ b u us, bl p b → Blk w b u us → u ∉ K.dp := fun b u us hb hB e => by
    have := hty b u us hb hB
    simp at this; subst this; exact hdp e
  exact (h3.fr f' hd).append (by rw [h1'.1, h2]) (hR.fr f' hd)
end SlO
end
end Go.Proofs.YtfokodpnoiilbaaGreat.E
