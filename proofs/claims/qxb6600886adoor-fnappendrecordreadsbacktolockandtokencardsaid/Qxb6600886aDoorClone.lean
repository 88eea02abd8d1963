/-
  THE WALK OF zzCloneBytes (8).
-/
import Derived.Test.Qxb6600886aDoorRec
import Derived.Lib.SliceRun
namespace Go.Proofs.Qxb6600886aDoor
open Go.RowKit

/-- the byte slice at address a reads as the numbers z -/
def Rd (w : World) (a : Option Addr) (z : List Int) : Prop :=
  z = [] ∨ ∃ b off, a = some ⟨b, off, none⟩ ∧ ∀ i, i < z.length → w.cell? ⟨b, off + i, none⟩ = some (.int .u8 (z.getD i 0))
/-- an argument as it came in -/
def Inp (w : World) (a : Option Addr) (l : Nat) (z : List Int) : Prop := Rd w a z ∧ z.length = l ∧ (∀ n ∈ z, 0 ≤ n ∧ n ≤ 255) ∧ l ≤ maxLen ∧ (a = none → l = 0)
/-- the cells of a number list -/
def cei (z : List Int) : List Value := z.map (Value.int .u8)
theorem cei_get (z : List Int) (i : Nat) (h : i < z.length) : (cei z)[i]? = some (.int .u8 (z.getD i 0)) := by
  simp [cei, List.getElem?_eq_getElem h]

theorem clone_nil (cap : Nat) (w : World) :
    Calls Tryd.prog 8 #[.slice none 0 cap] w fun e w' => ∃ v', e = .returned v' ∧ w'.ownsRow w.heap.size 5 1 v' 0 [] ∧ Below w.heap.size w w' := by
  have qn : ∀ (w : World) (a : Option Addr) (n c n' c' : Nat), (binOp .eql 22 (.slice a n c) (.slice none n' c')).run Tryd.prog w = .ok (.bool a.isNone) w := fun w a n c n' c' => Lib.run_eql_slice_nil w _ _ a n c n' c' Tryd.underlying22
  go_enter Tryd.func8, Tryd.ntmps8
  go_wp2
  go_ret
  exact ⟨_, rfl, World.ownsRow_nil _ _ _ _, Below.refl _ _⟩

theorem own_zero {w : World} {base : Nat} {v : Value} {xs : List Value} (h : w.ownsRow base 5 1 v 0 xs) : w.ownsRow base 5 1 v 0 [] := by
  obtain rfl : xs = [] := List.eq_nil_of_length_eq_zero (by have := h.1; omega)
  exact h

theorem clone_empty (x : Addr) (cap : Nat) (w : World) :
    Calls Tryd.prog 8 #[.slice (some x) 0 cap] w fun e w' => ∃ v', e = .returned v' ∧ w'.ownsRow w.heap.size 5 1 v' 0 [] ∧ Below w.heap.size w w' := by
  have qn : ∀ (w : World) (a : Option Addr) (n c n' c' : Nat), (binOp .eql 22 (.slice a n c) (.slice none n' c')).run Tryd.prog w = .ok (.bool a.isNone) w := fun w a n c n' c' => Lib.run_eql_slice_nil w _ _ a n c n' c' Tryd.underlying22
  obtain ⟨i0, hi0, hz0, hz1, hz2⟩ := info_parts info5
  go_enter Tryd.func8, Tryd.ntmps8
  go_wp2_with (at_make; refine wpList_make_full _ rfl (.tmp 8) (.tmp 8) 22 rfl w.heap.size 5 i0 _ 1 Tryd.underlying22 hi0 hz0 hz1 .i64 .i64 _ _ 0 rfl rfl rfl rfl (by omega) (by unfold maxLen; omega) (Nat.le_refl _) ?_; intro w1 hown1 hgrow1)
  refine wp_loop_rounds 1 ?_
  rw [rounds_succ]
  go_wp2
  go_ret
  exact ⟨_, rfl, own_zero hown1, (Below.refl _ _).grown hgrow1 (Nat.le_refl _) (fun k e => by cases e)⟩

theorem filled {L : List Value} {z : List Int} {len : Nat} (hL : L.length = len) (hz : z.length = len) (h : ∀ j, j < len → L[j]? = some (.int .u8 (z.getD j 0))) : L = cei z := by
  refine List.ext_getElem? (fun j => ?_)
  by_cases hj : j < len
  · rw [h j hj, cei_get z j (by omega)]
  · rw [List.getElem?_eq_none (by omega), List.getElem?_eq_none (by simp [cei]; omega)]

set_option maxHeartbeats 1600000 in
theorem clone_some (b off len cap : Nat) (z : List Int) (w : World) (hz : Hid (z.length = len)) (hc : Hid (∀ i, i < len → w.cell? ⟨b, off + i, none⟩ = some (.int .u8 (z.getD i 0)))) (hl : len ≤ 1048576) (hbw : b < w.heap.size) :
    Calls Tryd.prog 8 #[.slice (some ⟨b, off, none⟩) len cap] w fun e w' => ∃ v', e = .returned v' ∧ w'.ownsRow w.heap.size 5 1 v' len (cei z) ∧ Below w.heap.size w w' := by
  have qn : ∀ (w : World) (a : Option Addr) (n c n' c' : Nat), (binOp .eql 22 (.slice a n c) (.slice none n' c')).run Tryd.prog w = .ok (.bool a.isNone) w := fun w a n c n' c' => Lib.run_eql_slice_nil w _ _ a n c n' c' Tryd.underlying22
  obtain ⟨i0, hi0, hz0, hz1, hz2⟩ := info_parts info5
  go_enter Tryd.func8, Tryd.ntmps8
  go_wp2_with (at_make; refine wpList_make_full _ rfl (.tmp 8) (.tmp 8) 22 rfl w.heap.size 5 i0 _ 1 Tryd.underlying22 hi0 hz0 hz1 .i64 .i64 _ _ len rfl rfl rfl rfl (by rw [hz2]; omega) (by unfold maxLen; omega) (Nat.le_refl _) ?_; intro w1 hown1 hgrow1)
  have HB1 : Hid (Below w.heap.size w w1) := (Below.refl _ _).grown hgrow1 (Nat.le_refl _) (fun k e => by cases e)
  have HO1 : Hid (∃ L, w1.ownsRow w.heap.size 5 1 (.slice (some ⟨w.heap.size, 0, none⟩) len len) len L ∧ ∀ j, j < 0 → L[j]? = some (.int .u8 (z.getD j 0))) := ⟨_, hown1, fun j hj => absurd hj (Nat.not_lt_zero _)⟩
  clear hown1 hgrow1
  go_loopg [4] (len + 1) (fun g i wr => ∃ k : Nat, k ≤ len ∧ len + 1 - k ≤ g ∧ i = .int .i64 k ∧ Hid (∃ L, wr.ownsRow w.heap.size 5 1 (.slice (some ⟨w.heap.size, 0, none⟩) len len) len L ∧ ∀ j, j < k → L[j]? = some (.int .u8 (z.getD j 0))) ∧ Hid (Below w.heap.size w wr))
  case atStart => exact ⟨0, Nat.zero_le _, by omega, rfl, HO1, HB1⟩
  case round =>
    obtain ⟨k, hk, hg, rfl, HO, HB⟩ := hrel
    clear HO1 HB1
    by_cases hlt : k < len
    · have c0 : wr.cell? ⟨b, off + k, none⟩ = some (.int .u8 (z.getD k 0)) := (HB.out.cell (p := ⟨b, off + k, none⟩) hbw).trans (hc.out k hlt)
      obtain ⟨x, hx⟩ : ∃ x, z.getD k 0 = x := ⟨_, rfl⟩
      rw [hx] at c0
      have HX : Hid (z.getD k 0 = x) := hx
      clear hx
      obtain ⟨L, ho, hL⟩ := HO.out
      have hLl : L.length = len := by have := ho.1; omega
      have c1 : ∃ v, wr.cell? ⟨w.heap.size, k, none⟩ = some v := ⟨L[k]'(by omega), by rw [ho.cellAt k (by omega), List.getElem?_eq_getElem (by omega)]⟩
      obtain ⟨v, c1⟩ := c1
      have f1 : wr.frozen? ⟨w.heap.size, k, none⟩ = false := ho.frozenAt k
      have HO2 : Hid (∃ L, (wr.setCell ⟨w.heap.size, k, none⟩ (.int .u8 x)).ownsRow w.heap.size 5 1 (.slice (some ⟨w.heap.size, 0, none⟩) len len) len L ∧ ∀ j, j < k + 1 → L[j]? = some (.int .u8 (z.getD j 0))) := by
        refine ⟨L.set k (.int .u8 x), (ho.stored k _).1, fun j hj => ?_⟩
        by_cases hjk : j = k
        · subst hjk
          rw [List.getElem?_set_self (by omega), HX.out]
        · rw [List.getElem?_set_ne (by omega)]
          exact hL j (by omega)
      have HB2 : Hid (Below w.heap.size w (wr.setCell ⟨w.heap.size, k, none⟩ (.int .u8 x))) := HB.out.setCell (Nat.le_refl _) _
      clear ho hL HO HB hLl
      go_wp2
      go_roundg (len + 1 - (k + 1))
      case rel => exact ⟨k + 1, by omega, Nat.le_refl _, by go_num, HO2, HB2⟩
      case measure => omega
    · go_wp2
      go_ret
      obtain ⟨L, ho, hL⟩ := HO.out
      have hLl : L.length = len := by have := ho.1; omega
      have e := filled hLl hz.out (fun j hj => hL j (by omega))
      rw [e] at ho
      exact ⟨_, rfl, ho, HB.out⟩

theorem clone_any (a : Option Addr) (len cap : Nat) (z : List Int) (w : World) (h : Inp w a len z) (hl : len ≤ 1048576) :
    Calls Tryd.prog 8 #[.slice a len cap] w fun e w' => ∃ v', e = .returned v' ∧ w'.ownsRow w.heap.size 5 1 v' len (cei z) ∧ Below w.heap.size w w' := by
  obtain ⟨h1, h2, h3, h4, h5⟩ := h
  by_cases h0 : z.length = 0
  · obtain rfl : z = [] := List.eq_nil_of_length_eq_zero h0
    subst h2
    cases a with
    | none => exact clone_nil cap w
    | some x => exact clone_empty x cap w
  · rcases h1 with rfl | ⟨b, off, rfl, hc⟩
    · exact absurd rfl h0
    · exact clone_some b off len cap z w h2 (by rw [← h2]; exact hc) hl (World.block_lt_of_cell? w _ (hc 0 (by omega)))

theorem inp_of {w : World} {a : Option Addr} {len cap : Nat} {zs : List Int}
    (h : (a = none ∧ len = 0 ∧ cap = 0 ∧ zs = []) ∨ ∃ x, a = some x ∧ len ≤ cap ∧ cap ≤ maxLen ∧ zs.length = cap ∧ (∀ i, i < zs.length → w.cell? (x.add i) = some (.int .u8 (zs.getD i 0))) ∧ ∀ n ∈ zs, (Lit.int .u8 n).wf = true) :
    ∃ z, Inp w a len z := by
  rcases h with ⟨rfl, rfl, rfl, rfl⟩ | ⟨x, rfl, hlc, hcm, hz, hc, hwf⟩
  · exact ⟨[], .inl rfl, rfl, fun _ h => absurd h List.not_mem_nil, Nat.zero_le _, fun _ => rfl⟩
  · have hu : ∀ n ∈ zs, 0 ≤ n ∧ n ≤ 255 := fun n hn => by
      have := hwf n hn
      simp [Lit.wf, IntKind.min, IntKind.max, IntKind.signed, IntKind.bits] at this
      omega
    refine ⟨zs.take len, ?_, by rw [List.length_take]; omega, fun n hn => hu n (List.mem_of_mem_take hn), by omega, fun e => by cases e⟩
    by_cases h0 : zs.length = 0
    · left
      rw [List.eq_nil_of_length_eq_zero h0]
      simp
    · obtain ⟨b, off, spot⟩ := x
      have hs : spot = none := by simpa [Addr.add] using World.cell?_spot (hc 0 (by omega))
      subst hs
      refine .inr ⟨b, off, rfl, fun i hi => ?_⟩
      rw [List.length_take] at hi
      have := hc i (by omega)
      rw [show (⟨b, off, none⟩ : Addr).add i = ⟨b, off + i, none⟩ from by unfold Addr.add; split <;> simp_all] at this
      rw [this]
      congr 2
      simp [show i < len from by omega]

end Go.Proofs.Qxb6600886aDoor
