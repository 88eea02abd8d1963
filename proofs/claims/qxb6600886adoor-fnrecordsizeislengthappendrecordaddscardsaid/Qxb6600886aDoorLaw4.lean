/-
  THE WALK OF FnRecordSizeIsLengthAppendRecordAdds (4), OUT OF THE CONTRACTS.
-/
import Derived.Test.Qxb6600886aDoorArr
namespace Go.Proofs.Qxb6600886aDoor
open Go.RowKit

theorem bytes13_yes (a : Option Addr) (la ca : Nat) (t r : ByteArray) (x : Int) (w : World) (h : la + t.size + r.size ≤ 1048576) :
    Calls Tryd.prog 13 #[.slice a la ca, .string t, .string r, .int .u64 x] w fun e w' => e = .returned (.bool true) ∧ w = w' := by
  go_enter Tryd.func13, Tryd.ntmps13
  go_wp2
  go_ret
  exact ⟨rfl, rfl⟩
theorem bytes13_no (a : Option Addr) (la ca : Nat) (t r : ByteArray) (x : Int) (w : World) (h : ¬ la + t.size + r.size ≤ 1048576) :
    Calls Tryd.prog 13 #[.slice a la ca, .string t, .string r, .int .u64 x] w fun e w' => e = .returned (.bool false) ∧ w = w' := by
  go_enter Tryd.func13, Tryd.ntmps13
  go_wp2
  all_goals
    go_ret
    exact ⟨rfl, rfl⟩

theorem own_slice {w : World} {base e size n : Nat} {v : Value} {xs : List Value} (h : w.ownsRow base e size v n xs) : ∃ a c, v = .slice a n c := by
  rcases h.2 with ⟨h, h0⟩ | ⟨g, c, cur, h, _⟩
  · exact ⟨none, 0, by rw [h, h0]⟩
  · exact ⟨_, _, h⟩

set_option maxRecDepth 100000 in
set_option maxHeartbeats 3200000 in
theorem law4 (a : Option Addr) (len cap : Nat) (z : List Int) (t r : ByteArray) (u : Nat) (hu64 : u < 18446744073709551616) (w : World) (h : Hid (Inp w a len z)) (htab : Hid (Lib.TabIs Tryd.prog w "internal/strconv.uint64pow10" .u64 Lib.pow10Tab)) :
    Calls Tryd.prog 4 #[.slice a len cap, .string t, .string r, .int .u64 u] w fun e w' => e = .returned (.bool true) ∧ Below w.heap.size w w' := by
  by_cases hs : ¬ len + t.size + r.size ≤ 1048576
  · go_enter Tryd.func4, Tryd.ntmps4
    go_wp2_with fail
    refine (bytes13_no a len cap t r u _ hs).mono ?_
    rintro e w1 ⟨rfl, rfl⟩
    go_wp2_with fail
    go_ret
    exact ⟨rfl, Below.refl _ _⟩
  replace hs : len + t.size + r.size ≤ 1048576 := by omega
  by_cases h0 : 262144 < len
  · go_enter Tryd.func4, Tryd.ntmps4
    go_wp2_with fail
    refine (bytes13_yes a len cap t r u _ hs).mono ?_
    rintro e w1 ⟨rfl, rfl⟩
    go_wp2_with fail
    go_ret
    exact ⟨rfl, Below.refl _ _⟩
  by_cases h1 : 262144 < t.size
  · go_enter Tryd.func4, Tryd.ntmps4
    go_wp2_with fail
    refine (bytes13_yes a len cap t r u _ hs).mono ?_
    rintro e w1 ⟨rfl, rfl⟩
    go_wp2_with fail
    go_ret
    exact ⟨rfl, Below.refl _ _⟩
  by_cases h2 : 262144 < r.size
  · go_enter Tryd.func4, Tryd.ntmps4
    go_wp2_with fail
    refine (bytes13_yes a len cap t r u _ hs).mono ?_
    rintro e w1 ⟨rfl, rfl⟩
    go_wp2_with fail
    go_ret
    exact ⟨rfl, Below.refl _ _⟩
  go_enter Tryd.func4, Tryd.ntmps4
  go_wp2_with fail
  refine (bytes13_yes a len cap t r u _ hs).mono ?_
  rintro e w1 ⟨rfl, rfl⟩
  go_wp2_with fail
  refine (clone_any a len cap z _ h.out (by omega)).mono ?_
  rintro e w1 ⟨v1, rfl, o1, b1⟩
  obtain ⟨a1, c1, hv⟩ := own_slice o1
  subst hv
  have HO1 : Hid (w1.ownsRow w.heap.size 5 1 (.slice a1 len c1) len (cei z)) := o1
  have HB1 : Hid (Below w.heap.size w w1) := b1
  have hs1 : w.heap.size ≤ w1.heap.size := b1.size
  clear o1 b1 h
  go_wp2_with fail
  have HBa : Hid (Below w.heap.size w (w1.alloc (.cells #[.string t, .string r] 29))) := HB1.out.alloc hs1 _
  refine (zrec_any w.heap.size len u hu64 (.slice a1 len c1) (cei z) t r _ (HO1.out.alloc _) (by simp; omega) (by omega) (by omega) (by omega) ((Lib.tabBelow_of_tabIs htab.out).on HBa.out)).mono ?_
  rintro e w2 ⟨v2, rfl, o2, b2, k2⟩
  obtain ⟨a2, c2, hv⟩ := own_slice o2
  subst hv
  obtain ⟨q0, q1⟩ := box_cells (k2 _ _ (heap_alloc_new w1 _))
  have HB2 : Hid (Below w.heap.size w w2) := HBa.out.trans b2
  have HT2 : Hid (Tab w2.heap.size w2) := Lib.tabBelow_of_tabIs ((Lib.tabBelow_of_tabIs htab.out) _ HB2.out)
  clear o2 b2 k2 HBa
  have hd := Lib.nDigits_le20 u hu64
  have hrl : recLen t r u ≤ 1073741824 := by unfold recLen; rw [Lib.decDigits_length]; omega
  generalize hR : recLen t r u = R at hrl ⊢
  have HR : Hid (recLen t r u = R) := hR
  clear hR
  go_wp2_with fail
  refine (zsize_any u hu64 t r _ (by omega) (by omega) HT2).mono ?_
  rintro e w3 ⟨rfl, b3⟩
  rw [HR.out]
  have HB3 : Hid (Below w.heap.size w w3) := HB2.out.trans (b3.mono HB2.out.size)
  clear b3
  go_wp2_with fail
  go_ret
  exact ⟨congrArg (fun b => Ending.returned (.bool b)) (by simp; omega), HB3.out⟩

end Go.Proofs.Qxb6600886aDoor
