/-
  THE WALK OF A LAW (function 6), OUT OF THE CONTRACTS.
-/
import Derived.Test.Qxb6600453aZKit
import Derived.Deep.DeepCutAuto
namespace Go.Proofs.Qxb6600453a
open Go.RowKit

theorem has_eq6 {z0 z1 : List Int} {q : Int} (h0 : Rg.byfB z0 = true) (h1 : Rg.byfB z1 = true) : Rg.hasB (uniF z0 z1) q = (Rg.hasB z0 q || Rg.hasB z1 q) := by
  rw [Bool.eq_iff_iff, Bool.or_eq_true, has_iff, uniF_has h0 h1, has_iff, has_iff]

set_option maxRecDepth 100000 in
set_option maxHeartbeats 3200000 in
theorem law6 (a0 : Option Addr) (len0 cap0 : Nat) (z0 : List Int) (a1 : Option Addr) (len1 cap1 : Nat) (z1 : List Int) (q : Int) (w : World) (h0 : Inp w a0 len0 z0) (h1 : Inp w a1 len1 z1) :
    Calls Try.prog 6 #[.slice a0 len0 cap0, .slice a1 len1 cap1, .int .u64 q] w fun e w' => e = .returned (.bool true) ∧ Below w.heap.size w w' := by
  have H0 : Hid (Inp w a0 len0 z0) := h0
  have H1 : Hid (Inp w a1 len1 z1) := h1
  clear h0 h1
  have qn : ∀ (w : World) (a : Option Addr) (n c n' c' : Nat), (binOp .neq 22 (.slice a n c) (.slice none n' c')).run Try.prog w = .ok (.bool (!a.isNone)) w := fun w a n c n' c' => run_neq_slice_nil_any w _ _ a n c n' c' Try.underlying22
  obtain ⟨i0, hi0, hz0, hz1, hz2⟩ := info_parts info23l
  by_cases hs : ¬ len0 + len1 ≤ 1048576
  · go_enter Try.func6, Try.ntmps6
    go_wp2_with fail
    refine (bytes18_no a0 a1 len0 cap0 len1 cap1 q _ hs).mono ?_
    rintro e w1 ⟨rfl, rfl⟩
    go_wp2_with fail
    go_ret
    exact ⟨rfl, Below.refl _ _⟩
  replace hs : len0 + len1 ≤ 1048576 := by omega
  by_cases hl0 : 65536 < len0
  · skip
    go_enter Try.func6, Try.ntmps6
    go_wp2_with fail
    refine (bytes18_yes a0 a1 len0 cap0 len1 cap1 q _ hs).mono ?_
    rintro e w1 ⟨rfl, rfl⟩
    go_wp2_with fail
    go_ret
    exact ⟨rfl, Below.refl _ _⟩
  replace hl0 : len0 ≤ 65536 := by omega
  by_cases hl1 : 65536 < len1
  · skip
    go_enter Try.func6, Try.ntmps6
    go_wp2_with fail
    refine (bytes18_yes a0 a1 len0 cap0 len1 cap1 q _ hs).mono ?_
    rintro e w1 ⟨rfl, rfl⟩
    go_wp2_with fail
    go_ret
    exact ⟨rfl, Below.refl _ _⟩
  replace hl1 : len1 ≤ 65536 := by omega
  have HF0 : Hid (Flt w a0 len0 z0) := ⟨H0.out.1, H0.out.2.1, H0.out.2.2.1, by omega⟩
  have HF1 : Hid (Flt w a1 len1 z1) := ⟨H1.out.1, H1.out.2.1, H1.out.2.2.1, by omega⟩
  have HBL : Hid (Below w.heap.size w w) := Below.refl _ _
  clear H0 H1
  go_enter Try.func6, Try.ntmps6
  go_wp2_with fail
  refine (bytes18_yes a0 a1 len0 cap0 len1 cap1 q _ hs).mono ?_
  rintro e w1 ⟨rfl, rfl⟩
  go_wp2_with fail
  refine (cByf a0 len0 cap0 z0 _ HF0.out).mono ?_
  rintro e w2 ⟨rfl, hb2⟩
  replace HF0 : Hid (Flt w2 a0 len0 z0) := HF0.out.below hb2
  replace HF1 : Hid (Flt w2 a1 len1 z1) := HF1.out.below hb2
  replace HBL : Hid (Below w.heap.size w w2) := HBL.out.trans (hb2.mono HBL.out.size)
  clear hb2
  cases hd0 : Rg.byfB z0 with
  | false =>
    go_wp2_with fail
    go_ret
    exact ⟨rfl, HBL.out⟩
  | true =>
    have HD0 : Hid (Rg.byfB z0 = true) := hd0
    clear hd0
    go_wp2_with fail
    refine (cByf a1 len1 cap1 z1 _ HF1.out).mono ?_
    rintro e w3 ⟨rfl, hb3⟩
    replace HF0 : Hid (Flt w3 a0 len0 z0) := HF0.out.below hb3
    replace HF1 : Hid (Flt w3 a1 len1 z1) := HF1.out.below hb3
    replace HBL : Hid (Below w.heap.size w w3) := HBL.out.trans (hb3.mono HBL.out.size)
    clear hb3
    cases hd1 : Rg.byfB z1 with
    | false =>
      go_wp2_with fail
      go_ret
      exact ⟨rfl, HBL.out⟩
    | true =>
      have HD1 : Hid (Rg.byfB z1 = true) := hd1
      clear hd1
      go_upto_if 32 with fail
      have hsz0 : w.heap.size ≤ w3.heap.size := HBL.out.size
      go_cut [0] (fun va wd => ∃ b0 d0, va = .slice b0 len0 d0 ∧ Hid (Flt wd b0 len0 z0) ∧ Hid (Flt wd a1 len1 z1) ∧ Hid (Below w.heap.size w wd))
      case first =>
        cases a0 with
        | none =>
          go_wp2_with fail
          go_meet
          case rel => exact ⟨_, _, rfl, HF0, HF1, HBL⟩
        | some x =>
          go_upto_region 9 with (at_make; refine wpList_make_full _ rfl (.tmp 34) (.tmp 34) 22 rfl w3.heap.size 23 i0 _ 1 Try.underlying22 hi0 hz0 hz1 .i64 .i64 _ _ len0 rfl rfl rfl rfl (by rw [hz2]; omega) (by unfold maxLen; omega) (Nat.le_refl _) ?_; intro w2 hown2 hgrow2; obtain ⟨hbg, cur, hcl, hrow⟩ := made_row hown2 rfl; have HB2 : Hid (Below w3.heap.size w3 w2) := (Below.refl _ _).grown hgrow2 (Nat.le_refl _) (fun k e => by cases e); have HR2 : Hid (Rd w2 (some x) z0) := rd_grown HF0.out.1 hgrow2; clear hown2 hgrow2)
          go_wp2_with (refine wpList_copy_splice rfl (.tmp 36) (.tmp 37) 22 22 rfl 23 Try.underlying22 size23 _ _ len0 len0 len0 cap0 rfl rfl w3.heap.size 0 cur 23 hrow (cei z0) (by rw [cei_length, HF0.out.2.1]; simp) (fun h => ⟨rfl, copy_src HR2.out h⟩) (by rw [cei_length, HF0.out.2.1]; omega) (cei_oneCell z0) w3.heap.size w3 HB2.out hbg ?_; intro w3 hg3 hb3)
          go_meet
          case rel => exact ⟨_, _, rfl, ⟨rd_of_splice hg3.out (by rw [hcl, HF0.out.2.1]), HF0.out.2⟩, HF1.out.below hb3, HBL.out.trans (hb3.mono hsz0)⟩
      case rest =>
        clear HBL hsz0 HF0 HF1
        obtain ⟨b0, d0, rfl, HF0, HF1, HBL⟩ := hcut
        go_upto_if 41 with fail
        have hsz1 : w.heap.size ≤ wc.heap.size := HBL.out.size
        go_cut [1] (fun va wd => ∃ b1 d1, va = .slice b1 len1 d1 ∧ Hid (Flt wd b0 len0 z0) ∧ Hid (Flt wd b1 len1 z1) ∧ Hid (Below w.heap.size w wd))
        case first =>
          cases a1 with
          | none =>
            go_wp2_with fail
            go_meet
            case rel => exact ⟨_, _, rfl, HF0, HF1, HBL⟩
          | some x =>
            go_upto_region 13 with (at_make; refine wpList_make_full _ rfl (.tmp 43) (.tmp 43) 22 rfl wc.heap.size 23 i0 _ 1 Try.underlying22 hi0 hz0 hz1 .i64 .i64 _ _ len1 rfl rfl rfl rfl (by rw [hz2]; omega) (by unfold maxLen; omega) (Nat.le_refl _) ?_; intro w2 hown2 hgrow2; obtain ⟨hbg, cur, hcl, hrow⟩ := made_row hown2 rfl; have HB2 : Hid (Below wc.heap.size wc w2) := (Below.refl _ _).grown hgrow2 (Nat.le_refl _) (fun k e => by cases e); have HR2 : Hid (Rd w2 (some x) z1) := rd_grown HF1.out.1 hgrow2; clear hown2 hgrow2)
            go_wp2_with (refine wpList_copy_splice rfl (.tmp 45) (.tmp 46) 22 22 rfl 23 Try.underlying22 size23 _ _ len1 len1 len1 cap1 rfl rfl wc.heap.size 0 cur 23 hrow (cei z1) (by rw [cei_length, HF1.out.2.1]; simp) (fun h => ⟨rfl, copy_src HR2.out h⟩) (by rw [cei_length, HF1.out.2.1]; omega) (cei_oneCell z1) wc.heap.size wc HB2.out hbg ?_; intro w3 hg3 hb3)
            go_meet
            case rel => exact ⟨_, _, rfl, HF0.out.below hb3, ⟨rd_of_splice hg3.out (by rw [hcl, HF1.out.2.1]), HF1.out.2⟩, HBL.out.trans (hb3.mono hsz1)⟩
        case rest =>
          clear HBL hsz1 HF0 HF1
          obtain ⟨b1, d1, rfl, HF0, HF1, HBL⟩ := hcut
          clear qn hi0 hz0 hz1 hz2 i0
          go_wp2_with fail
          refine (cUni b0 len0 d0 z0 b1 len1 d1 z1 _ HF0.out HF1.out HD0.out HD1.out (by omega)).mono ?_
          rintro e wu ⟨u, lu, cu, rfl, fu, hlu, hbu⟩
          replace HF0 : Hid (Flt wu b0 len0 z0) := HF0.out.below hbu
          replace HF1 : Hid (Flt wu b1 len1 z1) := HF1.out.below hbu
          replace HBL : Hid (Below w.heap.size w wu) := HBL.out.trans (hbu.mono HBL.out.size)
          clear hbu
          have HFu : Hid (Flt wu u lu (uniF z0 z1)) := fu
          clear fu
          go_wp2_with fail
          refine (cCan u lu cu _ _ HFu.out true (uniF_can HD0.out HD1.out)).mono ?_
          rintro e wv ⟨rfl, hb⟩
          replace HF0 : Hid (Flt wv b0 len0 z0) := HF0.out.below hb
          replace HF1 : Hid (Flt wv b1 len1 z1) := HF1.out.below hb
          replace HFu : Hid (Flt wv u lu (uniF z0 z1)) := HFu.out.below hb
          replace HBL : Hid (Below w.heap.size w wv) := HBL.out.trans (hb.mono HBL.out.size)
          clear hb
          obtain ⟨p0, hp0⟩ : ∃ p, Rg.hasB z0 q = p := ⟨_, rfl⟩
          obtain ⟨p1, hp1⟩ : ∃ p, Rg.hasB z1 q = p := ⟨_, rfl⟩
          have HQ : Hid (Rg.hasB (uniF z0 z1) q = (p0 || p1)) := by have h := has_eq6 (q := q) HD0.out HD1.out; rw [hp0, hp1] at h; exact h
          have HP0 : Hid (Rg.hasB z0 q = p0) := hp0
          have HP1 : Hid (Rg.hasB z1 q = p1) := hp1
          clear hp0 hp1
          have hlu2 : lu ≤ 1073741824 := HFu.out.2.2.2
          go_wp2_with fail
          refine (has_any u lu cu _ q _ HFu.out.1 HFu.out.2.1 (by omega)).mono ?_
          rintro e wx ⟨rfl, rfl⟩
          rw [HQ.out]
          go_wp2_with fail
          refine (has_any b0 len0 d0 z0 q _ HF0.out.1 HF0.out.2.1 (by omega)).mono ?_
          rintro e wx ⟨rfl, rfl⟩
          rw [HP0.out]
          cases p0 with
          | true =>
            go_wp2_with fail
            go_ret
            exact ⟨rfl, HBL.out⟩
          | false =>
            go_wp2_with fail
            refine (has_any b1 len1 d1 z1 q _ HF1.out.1 HF1.out.2.1 (by omega)).mono ?_
            rintro e wx ⟨rfl, rfl⟩
            rw [HP1.out]
            go_wp2_with fail
            go_ret
            exact ⟨ret_bool (by cases p1 <;> rfl), HBL.out⟩

end Go.Proofs.Qxb6600453a
