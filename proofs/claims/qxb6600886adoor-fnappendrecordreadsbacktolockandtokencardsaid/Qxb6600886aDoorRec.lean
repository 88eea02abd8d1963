/-
  THE WALKS OF strconv.AppendUint (18), appendRecord (16), ZZappendRecord (9): onto a slice that the call owns.
-/
import Derived.Test.Qxb6600886aDoorShelf
import Derived.WalkKit
import Derived.WalkSpells
import Derived.WalkSmall
import Derived.OwnWalk
import Derived.Laws.Pointers
import Derived.Deep.LoopGhost
import Derived.Deep.AppendLies
import Derived.Lib.AppendStr
import Derived.Lib.OwnKind
import Derived.Lib.AppendIntMem
import Derived.Lib.ItoaLen
import Derived.KernelRfl
namespace Go.Proofs.Qxb6600886aDoor
open Go.RowKit

theorem info5 : (Tryd.prog.info? 5).map (fun i => (i.zero, i.size, i.bytes)) = some (some (.int .u8 0), 1, 1) := by kernel_rfl

/-- the table of the powers of ten lies as it was laid, whatever is done from block B on -/
abbrev Tab (B : Nat) (w : World) : Prop := Lib.TabBelow Tryd.prog B w "internal/strconv.uint64pow10" .u64 Lib.pow10Tab

/-- the blocks that bear a lock are as they were -/
def Keep (w w' : World) : Prop := ∀ (K : Nat) (cs : Array Value), w.heap[K]? = some (.cells cs 29 (0, 0)) → w'.heap[K]? = some (.cells cs 29 (0, 0))
theorem Keep.trans {a b c : World} (h : Keep a b) (k : Keep b c) : Keep a c := fun K cs e => k K cs (h K cs e)
theorem keep_alloc (w : World) (o : Obj) : Keep w (w.alloc o) := fun K cs e => by
  rw [Below.heap_alloc w o K (Array.getElem?_eq_some_iff.1 e).1]; exact e
theorem keep_grown {W W1 : World} {B n : Nat} {v : Value} {xs : List Value} (hown : W.ownsRow B 5 1 v n xs) (hg : W.grownBy W1 v.ownBlock) : Keep W W1 := fun K cs hk => by
  rw [hg.block K (Array.getElem?_eq_some_iff.1 hk).1 ?_]
  · exact hk
  · intro e
    obtain ⟨c, fz, h⟩ := Lib.ownsRow_kind hown K e.symm
    rw [hk] at h
    simp at h
theorem keep_others {W W1 : World} (h : Lib.OthersKept 5 none W W1) : Keep W W1 := fun K cs hk => h K _ hk (by simp) (by simp)

theorem au_own (B n u : Nat) (hu64 : u < 18446744073709551616) (sv : Value) (xs : List Value) (w : World) (hown : Hid (w.ownsRow B 5 1 sv n xs)) (hBw : B ≤ w.heap.size) (hlim : n + 20 ≤ 140737488355328) (htab : Hid (Tab B w)) :
    Calls Tryd.prog 18 #[sv, .int .u64 u, .int .i64 10] w fun e w' => ∃ v', e = .returned v' ∧ w'.ownsRow B 5 1 v' (n + (Lib.decDigits u).length) (xs ++ Lib.byteCells (Lib.decDigits u)) ∧ Below B w w' ∧ Keep w w' := by
  go_enter Tryd.func18, Tryd.ntmps18
  go_wp2_with fail
  refine (Tryd.internal_strconv_AppendUint_10 B n u hu64 sv xs _ hown.out hBw hlim htab.out.here).mono ?_
  rintro e w1 ⟨v', rfl, h1, h2, h3⟩
  have H1 : Hid (w1.ownsRow B 5 1 v' (n + (Lib.decDigits u).length) (xs ++ Lib.byteCells (Lib.decDigits u)) ∧ Below B w w1 ∧ Keep w w1) := ⟨h1, h2, keep_others h3⟩
  clear h1 h2 h3
  go_wp2
  go_ret
  exact ⟨v', rfl, H1.out.1, H1.out.2.1, H1.out.2.2⟩

/-- a record's cells -/
def recCells (t r : ByteArray) (u : Nat) : List Value := Lib.strCells t ++ ([.int .u8 32] ++ (Lib.strCells r ++ ([.int .u8 32] ++ (Lib.byteCells (Lib.decDigits u) ++ [.int .u8 10]))))
def recLen (t r : ByteArray) (u : Nat) : Nat := t.size + (1 + (r.size + (1 + ((Lib.decDigits u).length + 1))))

theorem box_cells {W : World} {K : Nat} {a b : Value} (hk : W.heap[K]? = some (.cells #[a, b] 29 (0, 0))) : W.cell? ⟨K, 0, none⟩ = some a ∧ W.cell? ⟨K, 1, none⟩ = some b := by
  constructor
  · rw [cell_of_row W K 0 _ 29 (0, 0) hk]; rfl
  · rw [cell_of_row W K 1 _ 29 (0, 0) hk]; rfl

set_option maxHeartbeats 3200000 in
theorem rec_any (B n u : Nat) (hu64 : u < 18446744073709551616) (sv : Value) (xs : List Value) (t r : ByteArray) (w : World) (hown : Hid (w.ownsRow B 5 1 sv n xs)) (hBw : B ≤ w.heap.size) (hn : n ≤ 1048576) (ht : t.size ≤ 1048576) (hr : r.size ≤ 1048576) (htab : Hid (Tab B w)) :
    Calls Tryd.prog 16 #[sv, .agg #[.string t, .string r], .int .u64 u] w fun e w' => ∃ v', e = .returned v' ∧ w'.ownsRow B 5 1 v' (n + recLen t r u) (xs ++ recCells t r u) ∧ Below B w w' ∧ Keep w w' := by
  obtain ⟨i0, hi0, hz0, hz1, hz2⟩ := info_parts info5
  go_enter Tryd.func16, Tryd.ntmps16
  go_wp2_with (at_builtin; refine Lib.wpList_append_own_string _ rfl (.tmp 7) (.tmp 9) 22 9 rfl B 5 i0 Tryd.underlying22 Tryd.underlying9 hi0 hz0 hz1 hz2 sv n xs (by rfl) (hown.out.alloc _) t (by rfl) (by unfold maxLen; omega) (by omega) (by simp; omega) ?hk1)
  case hk1 =>
    intro v1 w1 hown1 hgrow1 _
    have HKa : Hid (Keep (w.alloc (.cells #[.string t, .string r] 29)) w1) := keep_grown (hown.out.alloc _) hgrow1
    have HK1 : Hid (w1.heap[w.heap.size]? = some (.cells #[.string t, .string r] 29 (0, 0)) ∧ Keep w w1) := ⟨HKa.out _ _ (heap_alloc_new w _), (keep_alloc w _).trans HKa.out⟩
    clear HKa
    have HB1 : Hid (Below B w w1) := ((Below.refl B w).alloc hBw _).grown hgrow1 (by simp; omega) (fun z e => (hown.out.lt z e).1)
    have HO1 : Hid (w1.ownsRow B 5 1 v1 (n + t.size) (xs ++ Lib.strCells t)) := hown1
    have hs1 : B ≤ w1.heap.size := Nat.le_trans hBw HB1.out.size
    clear hown1 hgrow1
    go_wp2_with (at_builtin; refine wpList_append_own _ rfl (.tmp 11) (.tmp 12) 22 rfl B 5 i0 (.int .u8 0) 1 1 Tryd.underlying22 hi0 hz0 hz1 hz2 rfl (by decide) v1 (n + t.size) _ (by rfl) (HO1.out.alloc _) ⟨w1.heap.size, 0, none⟩ 1 1 [.int .u8 32] (by rfl) (by rfl) (by exact cell_one_new _ _ _) (by simp [Value.oneCell']) (by unfold maxLen; omega) (by omega) (by simp; omega) ?hk2)
    case hk2 =>
      intro v2 w2 hown2 hgrow2 _
      have HKb : Hid (Keep w1 w2) := (keep_alloc w1 _).trans (keep_grown (HO1.out.alloc _) hgrow2)
      have HK2 : Hid (w2.heap[w.heap.size]? = some (.cells #[.string t, .string r] 29 (0, 0)) ∧ Keep w w2) := ⟨HKb.out _ _ HK1.out.1, HK1.out.2.trans HKb.out⟩
      clear HKb
      have HB2 : Hid (Below B w w2) := (HB1.out.alloc hs1 _).grown hgrow2 (by simp; omega) (fun z e => (HO1.out.lt z e).1)
      have HO2 : Hid (w2.ownsRow B 5 1 v2 (n + t.size + 1) (xs ++ Lib.strCells t ++ [.int .u8 32])) := by unfold Hid; simpa using hown2
      have hs2 : B ≤ w2.heap.size := Nat.le_trans hBw HB2.out.size
      have c2 := (box_cells HK2.out.1).2
      clear hown2 hgrow2 HK1 HB1 HO1 hs1
      go_wp2_with (at_builtin; refine Lib.wpList_append_own_string _ rfl (.tmp 14) (.tmp 16) 22 9 rfl B 5 i0 Tryd.underlying22 Tryd.underlying9 hi0 hz0 hz1 hz2 v2 (n + t.size + 1) _ (by rfl) HO2.out r (by rfl) (by unfold maxLen; omega) (by omega) hs2 ?hk3)
      case hk3 =>
        intro v3 w3 hown3 hgrow3 _
        have HK3 : Hid (Keep w w3) := HK2.out.2.trans (keep_grown HO2.out hgrow3)
        have HB3 : Hid (Below B w w3) := HB2.out.grown hgrow3 hs2 (fun z e => (HO2.out.lt z e).1)
        have HO3 : Hid (w3.ownsRow B 5 1 v3 (n + t.size + 1 + r.size) (xs ++ Lib.strCells t ++ [.int .u8 32] ++ Lib.strCells r)) := by unfold Hid; simpa using hown3
        have hs3 : B ≤ w3.heap.size := Nat.le_trans hBw HB3.out.size
        clear hown3 hgrow3 HK2 HB2 HO2 hs2 c2
        go_wp2_with (at_builtin; refine wpList_append_own _ rfl (.tmp 18) (.tmp 19) 22 rfl B 5 i0 (.int .u8 0) 1 1 Tryd.underlying22 hi0 hz0 hz1 hz2 rfl (by decide) v3 (n + t.size + 1 + r.size) _ (by rfl) (HO3.out.alloc _) ⟨w3.heap.size, 0, none⟩ 1 1 [.int .u8 32] (by rfl) (by rfl) (by exact cell_one_new _ _ _) (by simp [Value.oneCell']) (by unfold maxLen; omega) (by omega) (by simp; omega) ?hk4)
        case hk4 =>
          intro v4 w4 hown4 hgrow4 _
          have HK4 : Hid (Keep w w4) := HK3.out.trans ((keep_alloc w3 _).trans (keep_grown (HO3.out.alloc _) hgrow4))
          have HB4 : Hid (Below B w w4) := (HB3.out.alloc hs3 _).grown hgrow4 (by simp; omega) (fun z e => (HO3.out.lt z e).1)
          have HO4 : Hid (w4.ownsRow B 5 1 v4 (n + t.size + 1 + r.size + 1) (xs ++ Lib.strCells t ++ [.int .u8 32] ++ Lib.strCells r ++ [.int .u8 32])) := by unfold Hid; simpa using hown4
          have hs4 : B ≤ w4.heap.size := Nat.le_trans hBw HB4.out.size
          clear hown4 hgrow4 HB3 HO3 hs3
          go_wp2_with fail
          refine (au_own B (n + t.size + 1 + r.size + 1) u hu64 v4 _ _ HO4 hs4 (by omega) (htab.out.on HB4.out)).mono ?_
          rintro e w5 ⟨v5, rfl, h5, b5, k5⟩
          have HK5 : Hid (Keep w w5) := HK4.out.trans k5
          have hd := Lib.nDigits_le20 u hu64
          rw [← Lib.decDigits_length] at hd
          have HB5 : Hid (Below B w w5) := HB4.out.trans b5
          have HO5 : Hid (w5.ownsRow B 5 1 v5 (n + t.size + 1 + r.size + 1 + (Lib.decDigits u).length) (xs ++ Lib.strCells t ++ [.int .u8 32] ++ Lib.strCells r ++ [.int .u8 32] ++ Lib.byteCells (Lib.decDigits u))) := h5
          have hs5 : B ≤ w5.heap.size := Nat.le_trans hBw HB5.out.size
          clear h5 b5 k5 HK3 HK4 HB4 HO4 hs4
          go_wp2_with (at_builtin; refine wpList_append_own _ rfl (.tmp 24) (.tmp 25) 22 rfl B 5 i0 (.int .u8 0) 1 1 Tryd.underlying22 hi0 hz0 hz1 hz2 rfl (by decide) v5 (n + t.size + 1 + r.size + 1 + (Lib.decDigits u).length) _ (by rfl) (HO5.out.alloc _) ⟨w5.heap.size, 0, none⟩ 1 1 [.int .u8 10] (by rfl) (by rfl) (by exact cell_one_new _ _ _) (by simp [Value.oneCell']) (by unfold maxLen; omega) (by omega) (by simp; omega) ?hk6)
          case hk6 =>
            intro v6 w6 hown6 hgrow6 _
            have HK6 : Hid (Keep w w6) := HK5.out.trans ((keep_alloc w5 _).trans (keep_grown (HO5.out.alloc _) hgrow6))
            have HB6 : Hid (Below B w w6) := (HB5.out.alloc hs5 _).grown hgrow6 (by simp; omega) (fun z e => (HO5.out.lt z e).1)
            have HO6 : Hid (w6.ownsRow B 5 1 v6 (n + recLen t r u) (xs ++ recCells t r u)) := by
              have e1 : n + recLen t r u = n + t.size + 1 + r.size + 1 + (Lib.decDigits u).length + 1 := by unfold recLen; omega
              unfold Hid
              rw [e1]
              simpa [recCells] using hown6
            clear hown6 hgrow6 HB5 HO5 hs5
            go_wp2
            go_ret
            exact ⟨v6, rfl, HO6.out, HB6.out, HK6.out⟩

theorem zrec_any (B n u : Nat) (hu64 : u < 18446744073709551616) (sv : Value) (xs : List Value) (t r : ByteArray) (w : World) (hown : Hid (w.ownsRow B 5 1 sv n xs)) (hBw : B ≤ w.heap.size) (hn : n ≤ 1048576) (ht : t.size ≤ 1048576) (hr : r.size ≤ 1048576) (htab : Hid (Tab B w)) :
    Calls Tryd.prog 9 #[sv, .agg #[.string t, .string r], .int .u64 u] w fun e w' => ∃ v', e = .returned v' ∧ w'.ownsRow B 5 1 v' (n + recLen t r u) (xs ++ recCells t r u) ∧ Below B w w' ∧ Keep w w' := by
  have HB0 : Hid (Below B w (w.alloc (.cells #[.string t, .string r] 29))) := (Below.refl B w).alloc hBw _
  go_enter Tryd.func9, Tryd.ntmps9
  go_wp2_with fail
  refine (rec_any B n u hu64 sv xs t r _ (hown.out.alloc _) (by simp; omega) hn ht hr (htab.out.on HB0.out)).mono ?_
  rintro e w1 ⟨v1, rfl, h1, b1, k1⟩
  have H1 : Hid (w1.ownsRow B 5 1 v1 (n + recLen t r u) (xs ++ recCells t r u) ∧ Below B w w1 ∧ Keep w w1) := ⟨h1, HB0.out.trans b1, (keep_alloc w _).trans k1⟩
  clear h1 b1 k1
  go_wp2
  go_ret
  exact ⟨v1, rfl, H1.out.1, H1.out.2.1, H1.out.2.2⟩

end Go.Proofs.Qxb6600886aDoor
