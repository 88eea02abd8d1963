/-
  RANGE LISTS AND NUMBER LISTS AS CELLS OF MEMORY: what it is to read as such a list, that it stays so behind whatever leaves old memory alone, and that an owned row reads so.
-/
import Derived.Test.Qxb6600453aFlat
import Derived.WalkKit
import Derived.Deep.AppendLies
import Derived.WalkSmall
namespace Go.Proofs.Qxb6600453a
open Go.RowKit

/-- the slice at address a reads as the numbers z -/
def Rd (w : World) (a : Option Addr) (z : List Int) : Prop :=
  z = [] ∨ ∃ b off, a = some ⟨b, off, none⟩ ∧ ∀ i, i < z.length → w.cell? ⟨b, off + i, none⟩ = some (.int .u64 (z.getD i 0))
/-- the numbers are uint64s -/
def U64 (z : List Int) : Prop := ∀ i, 0 ≤ z.getD i 0 ∧ z.getD i 0 ≤ 18446744073709551615
/-- the slice of ranges at address a reads as rs -/
def RdP (w : World) (a : Option Addr) (rs : Rg.R) : Prop :=
  rs = [] ∨ ∃ b off, a = some ⟨b, off, none⟩ ∧ ∀ i, i < rs.length → w.cell? ⟨b, off + i * 2, none⟩ = some (.int .u64 (rs.getD i (0, 0)).1) ∧ w.cell? ⟨b, off + i * 2 + 1, none⟩ = some (.int .u64 (rs.getD i (0, 0)).2)

theorem Rd.below {w w' : World} {a : Option Addr} {z : List Int} (h : Rd w a z) (hb : Below w.heap.size w w') : Rd w' a z := by
  rcases h with h | ⟨b, off, ha, hc⟩
  · exact .inl h
  · exact .inr ⟨b, off, ha, fun i hi => by rw [hb.cell (p := ⟨b, off + i, none⟩) (World.block_lt_of_cell? w _ (hc i hi))]; exact hc i hi⟩
theorem RdP.below {w w' : World} {a : Option Addr} {rs : Rg.R} (h : RdP w a rs) (hb : Below w.heap.size w w') : RdP w' a rs := by
  rcases h with h | ⟨b, off, ha, hc⟩
  · exact .inl h
  · exact .inr ⟨b, off, ha, fun i hi => ⟨by rw [hb.cell (p := ⟨b, off + i * 2, none⟩) (World.block_lt_of_cell? w _ (hc i hi).1)]; exact (hc i hi).1,
      by rw [hb.cell (p := ⟨b, off + i * 2 + 1, none⟩) (World.block_lt_of_cell? w _ (hc i hi).2)]; exact (hc i hi).2⟩⟩
theorem Rd.drewN {w : World} {a : Option Addr} {z : List Int} (h : Rd w a z) (n : Nat) : Rd (w.drewN n) a z := h

/-- the cells of a range list -/
def cel : Rg.R → List Value
  | [] => []
  | r :: t => .int .u64 r.1 :: .int .u64 r.2 :: cel t
theorem cel_length : ∀ rs : Rg.R, (cel rs).length = rs.length * 2
  | [] => rfl
  | r :: t => by simp only [cel, List.length_cons, cel_length t]; omega
theorem cel_append : ∀ a b : Rg.R, cel (a ++ b) = cel a ++ cel b
  | [], b => rfl
  | r :: t, b => by simp [cel, cel_append t b]
theorem cel_get : ∀ (rs : Rg.R) (i : Nat), i < rs.length → (cel rs)[i * 2]? = some (.int .u64 (rs.getD i (0, 0)).1) ∧ (cel rs)[i * 2 + 1]? = some (.int .u64 (rs.getD i (0, 0)).2)
  | [], i, h => absurd h (Nat.not_lt_zero _)
  | r :: t, 0, _ => ⟨rfl, rfl⟩
  | r :: t, i + 1, h => by
    have := cel_get t i (by simpa using h)
    rw [show (i + 1) * 2 = i * 2 + 1 + 1 from by omega]
    exact this
theorem cel_oneCell : ∀ (rs : Rg.R), ∀ u ∈ cel rs, u.oneCell' = true
  | [], _, h => absurd h List.not_mem_nil
  | r :: t, u, h => by
    simp only [cel, List.mem_cons] at h
    rcases h with rfl | rfl | h
    · rfl
    · rfl
    · exact cel_oneCell t u h

/-- the cells of a number list -/
def cei (z : List Int) : List Value := z.map (Value.int .u64)
theorem cei_get (z : List Int) (i : Nat) (h : i < z.length) : (cei z)[i]? = some (.int .u64 (z.getD i 0)) := by
  simp [cei, List.getElem?_eq_getElem h]

theorem add_zero_lit (g j : Nat) : (⟨g, 0, none⟩ : Addr).add j = ⟨g, j, none⟩ := by unfold Addr.add; split <;> simp_all

theorem own_form {w : World} {base e size n : Nat} {v : Value} {xs : List Value} (h : w.ownsRow base e size v n xs) : ∃ a c, v = .slice a n c ∧ n ≤ c := by
  rcases h.2 with ⟨h, h0⟩ | ⟨g, c, cur, h, _, _, hc, _⟩
  · exact ⟨none, 0, by rw [h, h0], by omega⟩
  · exact ⟨_, _, h, hc⟩
theorem rdP_of_own {w : World} {base n : Nat} {a : Option Addr} {l cap : Nat} {rs : Rg.R} (h : w.ownsRow base 35 2 (.slice a l cap) n (cel rs)) : RdP w a rs ∧ rs.length = n := by
  have hl : rs.length = n := by have := h.1; rw [cel_length] at this; omega
  refine ⟨?_, hl⟩
  rcases h.2 with ⟨_, h0⟩ | ⟨g, c, cur, hv, _⟩
  · exact .inl (List.eq_nil_of_length_eq_zero (by omega))
  · simp only [Value.slice.injEq] at hv
    obtain ⟨rfl, _, _⟩ := hv
    refine .inr ⟨g, 0, rfl, fun i hi => ?_⟩
    have c := h.cells (g := g) rfl
    have g1 := c _ _ (cel_get rs i hi).1
    have g2 := c _ _ (cel_get rs i hi).2
    rw [add_zero_lit] at g1 g2
    rw [Nat.zero_add]
    exact ⟨g1, g2⟩
theorem rd_of_own {w : World} {base n : Nat} {a : Option Addr} {l cap : Nat} {z : List Int} (h : w.ownsRow base 23 1 (.slice a l cap) n (cei z)) : Rd w a z ∧ z.length = n := by
  have hl : z.length = n := by have := h.1; simpa [cei] using this
  refine ⟨?_, hl⟩
  rcases h.2 with ⟨_, h0⟩ | ⟨g, c, cur, hv, _⟩
  · exact .inl (List.eq_nil_of_length_eq_zero (by omega))
  · simp only [Value.slice.injEq] at hv
    obtain ⟨rfl, _, _⟩ := hv
    refine .inr ⟨g, 0, rfl, fun i hi => ?_⟩
    have c := h.cells (g := g) rfl
    have g1 := c _ _ (cei_get z i hi)
    rw [add_zero_lit] at g1
    rw [Nat.zero_add]
    exact g1

theorem news_one (w : World) (x : Value) (t : TypeId) (g : Nat) (hg : w.heap.size = g) : ∀ j u, [x][j]? = some u → (w.alloc (.cells #[x] t)).cell? ((⟨g, 0, none⟩ : Addr).add j) = some u := by
  subst hg; exact cell_one_new w x t
theorem news_two (w : World) (x y : Value) (t : TypeId) (g : Nat) (hg : w.heap.size = g) : ∀ j u, [x, y][j]? = some u → (w.alloc (.cells #[x, y] t)).cell? ((⟨g, 0, none⟩ : Addr).add j) = some u := by
  subst hg; exact World.news_of_block (cs := #[x, y]) (t := t) (fr := (0, 0)) (heap_alloc_new w _)

/-- a flat list as a range list (a trailing odd word is dropped) -/
def toR (z : List Int) : Rg.R := (List.range (z.length / 2)).map (fun k => (z.getD (k * 2) 0, z.getD (k * 2 + 1) 0))
theorem toR_length (z : List Int) : (toR z).length = z.length / 2 := by simp [toR]
theorem toR_getD (z : List Int) (k : Nat) (h : k < z.length / 2) : (toR z).getD k (0, 0) = (z.getD (k * 2) 0, z.getD (k * 2 + 1) 0) := by
  simp [toR, h]
theorem take_snoc {α : Type} (l : List α) (d : α) (k : Nat) (h : k < l.length) : l.take (k + 1) = l.take k ++ [l.getD k d] := by
  rw [List.take_succ_eq_append_getElem h]
  simp [List.getElem?_eq_getElem h]
theorem cel_step (rs : Rg.R) (k : Nat) (h : k < rs.length) : cel (rs.take (k + 1)) = cel (rs.take k) ++ [.int .u64 (rs.getD k (0, 0)).1, .int .u64 (rs.getD k (0, 0)).2] := by
  rw [take_snoc rs (0, 0) k h, cel_append]; rfl
/-- a range list as a flat list -/
def fromR : Rg.R → List Int
  | [] => []
  | r :: t => r.1 :: r.2 :: fromR t
theorem fromR_length : ∀ rs : Rg.R, (fromR rs).length = rs.length * 2
  | [] => rfl
  | r :: t => by simp only [fromR, List.length_cons, fromR_length t]; omega
theorem fromR_append : ∀ a b : Rg.R, fromR (a ++ b) = fromR a ++ fromR b
  | [], b => rfl
  | r :: t, b => by simp [fromR, fromR_append t b]
theorem fromR_step (rs : Rg.R) (k : Nat) (h : k < rs.length) : cei (fromR (rs.take (k + 1))) = cei (fromR (rs.take k)) ++ [.int .u64 (rs.getD k (0, 0)).1, .int .u64 (rs.getD k (0, 0)).2] := by
  rw [take_snoc rs (0, 0) k h, fromR_append]
  simp [cei, fromR]

/-- what is known of a slice of ranges that is read -/
def Lst (w : World) (a : Option Addr) (l c : Nat) (rs : Rg.R) : Prop := rs.length = l ∧ l ≤ c ∧ RdP w a rs ∧ Rg.Bd rs

theorem lst_tail {w : World} {bb ob m c : Nat} {d : Int × Int} {t : Rg.R} (h : Lst w (some ⟨bb, ob, none⟩) (m + 1) c (d :: t)) : Lst w (some ⟨bb, ob + 2, none⟩) m (c - 1) t := by
  obtain ⟨h1, h2, h3, h4⟩ := h
  refine ⟨by simpa using h1, by omega, ?_, fun r hr => h4 r (List.mem_cons_of_mem _ hr)⟩
  rcases h3 with h | ⟨b', o', e, hc⟩
  · cases h
  · simp only [Option.some.injEq, Addr.mk.injEq, and_true] at e
    obtain ⟨rfl, rfl⟩ := e
    refine .inr ⟨bb, ob + 2, rfl, fun i hi => ?_⟩
    have := hc (i + 1) (by simpa using hi)
    rw [show ob + 2 + i * 2 = ob + (i + 1) * 2 from by omega]
    simpa using this
theorem lst_one {w : World} {a : Option Addr} {m c : Nat} {d : Int × Int} {t : Rg.R} (h : Lst w a (m + 1) c (d :: t)) (hc : c = 1) (a' : Option Addr) (c' : Nat) (hc' : m ≤ c') : Lst w a' m c' t := by
  obtain ⟨h1, h2, h3, h4⟩ := h
  have ht : t.length = m := by simpa using h1
  exact ⟨ht, hc', .inl (List.eq_nil_of_length_eq_zero (by omega)), fun r hr => h4 r (List.mem_cons_of_mem _ hr)⟩
theorem bd_at {rs : Rg.R} (h : Rg.Bd rs) (k : Nat) (hk : k < rs.length) : (0 ≤ (rs.getD k (0, 0)).1 ∧ (rs.getD k (0, 0)).1 ≤ 18446744073709551615) ∧ 0 ≤ (rs.getD k (0, 0)).2 ∧ (rs.getD k (0, 0)).2 ≤ 18446744073709551615 := by
  have e : rs.getD k (0, 0) = rs[k] := by simp [List.getElem?_eq_getElem hk]
  rw [e]
  exact h _ (List.getElem_mem hk)
theorem lst_cases {w : World} {a : Option Addr} {l c : Nat} {b : Rg.R} (h : Lst w a l c b) : b = [] ∨ ∃ bb ob, a = some ⟨bb, ob, none⟩ ∧ bb < w.heap.size ∧
    Hid (∀ i, i < l → w.cell? ⟨bb, ob + i * 2, none⟩ = some (.int .u64 (b.getD i (0, 0)).1) ∧ w.cell? ⟨bb, ob + i * 2 + 1, none⟩ = some (.int .u64 (b.getD i (0, 0)).2)) := by
  obtain ⟨h1, h2, h3, h4⟩ := h
  by_cases h0 : b = []
  · exact .inl h0
  · rcases h3 with h | ⟨bb, ob, e, hc⟩
    · exact .inl h
    · refine .inr ⟨bb, ob, e, World.block_lt_of_cell? w _ (hc 0 (List.length_pos_iff.2 h0)).1, ?_⟩
      rw [← h1]
      exact hc

theorem drop_at (rs : Rg.R) (k : Nat) (hk : k < rs.length) : rs.drop k = rs.getD k (0, 0) :: rs.drop (k + 1) := by
  rw [List.drop_eq_getElem_cons hk]
  simp [List.getElem?_eq_getElem hk]
theorem own_snoc {w : World} {base g cap : Nat} {out : Rg.R} {x y : Int} (h : w.ownsRow base 35 2 (.slice (some ⟨g, 0, none⟩) (out.length + 1) cap) (out.length + 1) (cel out ++ [.int .u64 x, .int .u64 y])) :
    w.ownsRow base 35 2 (.slice (some ⟨g, 0, none⟩) (out.length + 1) cap) (out ++ [(x, y)]).length (cel (out ++ [(x, y)])) := by
  rw [cel_append, List.length_append]
  exact h

end Go.Proofs.Qxb6600453a
