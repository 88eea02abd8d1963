/-
  THE WALK OF A LAW (function 4), OUT OF THE CONTRACTS.
-/
import Derived.Test.Qxb6600453aZKit
import Derived.Deep.DeepCutAuto
namespace Go.Proofs.Qxb6600453a
open Go.RowKit

section
variable {z0 z1 z2 : List Int}
theorem s_b (h0 : Rg.canB z0 = true) (h1 : Rg.disB z1 = true) (h2 : Rg.disB z2 = true) : subF (subF z0 z1) z2 = subF z0 (uniF z1 z2) :=
  can_eq (subF_can (subF_can h0 h1) h2) (subF_can h0 (can_dis (uniF_can (dis_byf h1) (dis_byf h2)))) fun x => by
    rw [subF_has (can_dis (subF_can h0 h1)) h2, subF_has (can_dis h0) h1, subF_has (can_dis h0) (can_dis (uniF_can (dis_byf h1) (dis_byf h2))), uniF_has (dis_byf h1) (dis_byf h2)]
    exact ⟨fun h => ⟨h.1.1, fun k => k.elim h.1.2 h.2⟩, fun h => ⟨⟨h.1, fun k => h.2 (.inl k)⟩, fun k => h.2 (.inr k)⟩⟩
theorem s_c (h0 : Rg.canB z0 = true) (h1 : Rg.disB z1 = true) (h2 : Rg.disB z2 = true) : subF (subF z0 z2) z1 = subF z0 (uniF z1 z2) :=
  can_eq (subF_can (subF_can h0 h2) h1) (subF_can h0 (can_dis (uniF_can (dis_byf h1) (dis_byf h2)))) fun x => by
    rw [subF_has (can_dis (subF_can h0 h2)) h1, subF_has (can_dis h0) h2, subF_has (can_dis h0) (can_dis (uniF_can (dis_byf h1) (dis_byf h2))), uniF_has (dis_byf h1) (dis_byf h2)]
    exact ⟨fun h => ⟨h.1.1, fun k => k.elim h.2 h.1.2⟩, fun h => ⟨⟨h.1, fun k => h.2 (.inr k)⟩, fun k => h.2 (.inl k)⟩⟩
end

set_option maxRecDepth 100000 in
set_option maxHeartbeats 3200000 in
theorem law4 (a0 : Option Addr) (len0 cap0 : Nat) (z0 : List Int) (a1 : Option Addr) (len1 cap1 : Nat) (z1 : List Int) (a2 : Option Addr) (len2 cap2 : Nat) (z2 : List Int) (w : World) (h0 : Inp w a0 len0 z0) (h1 : Inp w a1 len1 z1) (h2 : Inp w a2 len2 z2) :
    Calls Try.prog 4 #[.slice a0 len0 cap0, .slice a1 len1 cap1, .slice a2 len2 cap2] w fun e w' => e = .returned (.bool true) ∧ Below w.heap.size w w' := by
  have H0 : Hid (Inp w a0 len0 z0) := h0
  have H1 : Hid (Inp w a1 len1 z1) := h1
  have H2 : Hid (Inp w a2 len2 z2) := h2
  clear h0 h1 h2
  have qn : ∀ (w : World) (a : Option Addr) (n c n' c' : Nat), (binOp .neq 22 (.slice a n c) (.slice none n' c')).run Try.prog w = .ok (.bool (!a.isNone)) w := fun w a n c n' c' => run_neq_slice_nil_any w _ _ a n c n' c' Try.underlying22
  obtain ⟨i0, hi0, hz0, hz1, hz2⟩ := info_parts info23l
  by_cases hs : ¬ len0 + len1 + len2 ≤ 1048576
  · go_enter Try.func4, Try.ntmps4
    go_wp2_with fail
    refine (bytes14_no a0 a1 a2 len0 cap0 len1 cap1 len2 cap2 _ hs).mono ?_
    rintro e w1 ⟨rfl, rfl⟩
    go_wp2_with fail
    go_ret
    exact ⟨rfl, Below.refl _ _⟩
  replace hs : len0 + len1 + len2 ≤ 1048576 := by omega
  by_cases hl0 : 32768 < len0
  · skip
    go_enter Try.func4, Try.ntmps4
    go_wp2_with fail
    refine (bytes14_yes a0 a1 a2 len0 cap0 len1 cap1 len2 cap2 _ hs).mono ?_
    rintro e w1 ⟨rfl, rfl⟩
    go_wp2_with fail
    go_ret
    exact ⟨rfl, Below.refl _ _⟩
  replace hl0 : len0 ≤ 32768 := by omega
  by_cases hl1 : 32768 < len1
  · skip
    go_enter Try.func4, Try.ntmps4
    go_wp2_with fail
    refine (bytes14_yes a0 a1 a2 len0 cap0 len1 cap1 len2 cap2 _ hs).mono ?_
    rintro e w1 ⟨rfl, rfl⟩
    go_wp2_with fail
    go_ret
    exact ⟨rfl, Below.refl _ _⟩
  replace hl1 : len1 ≤ 32768 := by omega
  by_cases hl2 : 32768 < len2
  · skip
    go_enter Try.func4, Try.ntmps4
    go_wp2_with fail
    refine (bytes14_yes a0 a1 a2 len0 cap0 len1 cap1 len2 cap2 _ hs).mono ?_
    rintro e w1 ⟨rfl, rfl⟩
    go_wp2_with fail
    go_ret
    exact ⟨rfl, Below.refl _ _⟩
  replace hl2 : len2 ≤ 32768 := by omega
  have HF0 : Hid (Flt w a0 len0 z0) := ⟨H0.out.1, H0.out.2.1, H0.out.2.2.1, by omega⟩
  have HF1 : Hid (Flt w a1 len1 z1) := ⟨H1.out.1, H1.out.2.1, H1.out.2.2.1, by omega⟩
  have HF2 : Hid (Flt w a2 len2 z2) := ⟨H2.out.1, H2.out.2.1, H2.out.2.2.1, by omega⟩
  have HBL : Hid (Below w.heap.size w w) := Below.refl _ _
  clear H0 H1 H2
  go_enter Try.func4, Try.ntmps4
  go_wp2_with fail
  refine (bytes14_yes a0 a1 a2 len0 cap0 len1 cap1 len2 cap2 _ hs).mono ?_
  rintro e w1 ⟨rfl, rfl⟩
  go_wp2_with fail
  refine (cCanB a0 len0 cap0 z0 _ HF0.out).mono ?_
  rintro e w2 ⟨rfl, hb2⟩
  replace HF0 : Hid (Flt w2 a0 len0 z0) := HF0.out.below hb2
  replace HF1 : Hid (Flt w2 a1 len1 z1) := HF1.out.below hb2
  replace HF2 : Hid (Flt w2 a2 len2 z2) := HF2.out.below hb2
  replace HBL : Hid (Below w.heap.size w w2) := HBL.out.trans (hb2.mono HBL.out.size)
  clear hb2
  cases hd0 : Rg.canB z0 with
  | false =>
    go_wp2_with fail
    go_ret
    exact ⟨rfl, HBL.out⟩
  | true =>
    have HD0 : Hid (Rg.canB z0 = true) := hd0
    clear hd0
    go_wp2_with fail
    refine (cDis a1 len1 cap1 z1 _ HF1.out).mono ?_
    rintro e w3 ⟨rfl, hb3⟩
    replace HF0 : Hid (Flt w3 a0 len0 z0) := HF0.out.below hb3
    replace HF1 : Hid (Flt w3 a1 len1 z1) := HF1.out.below hb3
    replace HF2 : Hid (Flt w3 a2 len2 z2) := HF2.out.below hb3
    replace HBL : Hid (Below w.heap.size w w3) := HBL.out.trans (hb3.mono HBL.out.size)
    clear hb3
    cases hd1 : Rg.disB z1 with
    | false =>
      go_wp2_with fail
      go_ret
      exact ⟨rfl, HBL.out⟩
    | true =>
      have HD1 : Hid (Rg.disB z1 = true) := hd1
      clear hd1
      go_wp2_with fail
      refine (cDis a2 len2 cap2 z2 _ HF2.out).mono ?_
      rintro e w4 ⟨rfl, hb4⟩
      replace HF0 : Hid (Flt w4 a0 len0 z0) := HF0.out.below hb4
      replace HF1 : Hid (Flt w4 a1 len1 z1) := HF1.out.below hb4
      replace HF2 : Hid (Flt w4 a2 len2 z2) := HF2.out.below hb4
      replace HBL : Hid (Below w.heap.size w w4) := HBL.out.trans (hb4.mono HBL.out.size)
      clear hb4
      cases hd2 : Rg.disB z2 with
      | false =>
        go_wp2_with fail
        go_ret
        exact ⟨rfl, HBL.out⟩
      | true =>
        have HD2 : Hid (Rg.disB z2 = true) := hd2
        clear hd2
        go_upto_if 48 with fail
        have hsz0 : w.heap.size ≤ w4.heap.size := HBL.out.size
        go_cut [0] (fun va wd => ∃ b0 d0, va = .slice b0 len0 d0 ∧ Hid (Flt wd b0 len0 z0) ∧ Hid (Flt wd a1 len1 z1) ∧ Hid (Flt wd a2 len2 z2) ∧ Hid (Below w.heap.size w wd))
        case first =>
          cases a0 with
          | none =>
            go_wp2_with fail
            go_meet
            case rel => exact ⟨_, _, rfl, HF0, HF1, HF2, HBL⟩
          | some x =>
            go_upto_region 9 with (at_make; refine wpList_make_full _ rfl (.tmp 50) (.tmp 50) 22 rfl w4.heap.size 23 i0 _ 1 Try.underlying22 hi0 hz0 hz1 .i64 .i64 _ _ len0 rfl rfl rfl rfl (by rw [hz2]; omega) (by unfold maxLen; omega) (Nat.le_refl _) ?_; intro w2 hown2 hgrow2; obtain ⟨hbg, cur, hcl, hrow⟩ := made_row hown2 rfl; have HB2 : Hid (Below w4.heap.size w4 w2) := (Below.refl _ _).grown hgrow2 (Nat.le_refl _) (fun k e => by cases e); have HR2 : Hid (Rd w2 (some x) z0) := rd_grown HF0.out.1 hgrow2; clear hown2 hgrow2)
            go_wp2_with (refine wpList_copy_splice rfl (.tmp 52) (.tmp 53) 22 22 rfl 23 Try.underlying22 size23 _ _ len0 len0 len0 cap0 rfl rfl w4.heap.size 0 cur 23 hrow (cei z0) (by rw [cei_length, HF0.out.2.1]; simp) (fun h => ⟨rfl, copy_src HR2.out h⟩) (by rw [cei_length, HF0.out.2.1]; omega) (cei_oneCell z0) w4.heap.size w4 HB2.out hbg ?_; intro w3 hg3 hb3)
            go_meet
            case rel => exact ⟨_, _, rfl, ⟨rd_of_splice hg3.out (by rw [hcl, HF0.out.2.1]), HF0.out.2⟩, HF1.out.below hb3, HF2.out.below hb3, HBL.out.trans (hb3.mono hsz0)⟩
        case rest =>
          clear HBL hsz0 HF0 HF1 HF2
          obtain ⟨b0, d0, rfl, HF0, HF1, HF2, HBL⟩ := hcut
          go_upto_if 57 with fail
          have hsz1 : w.heap.size ≤ wc.heap.size := HBL.out.size
          go_cut [1] (fun va wd => ∃ b1 d1, va = .slice b1 len1 d1 ∧ Hid (Flt wd b0 len0 z0) ∧ Hid (Flt wd b1 len1 z1) ∧ Hid (Flt wd a2 len2 z2) ∧ Hid (Below w.heap.size w wd))
          case first =>
            cases a1 with
            | none =>
              go_wp2_with fail
              go_meet
              case rel => exact ⟨_, _, rfl, HF0, HF1, HF2, HBL⟩
            | some x =>
              go_upto_region 13 with (at_make; refine wpList_make_full _ rfl (.tmp 59) (.tmp 59) 22 rfl wc.heap.size 23 i0 _ 1 Try.underlying22 hi0 hz0 hz1 .i64 .i64 _ _ len1 rfl rfl rfl rfl (by rw [hz2]; omega) (by unfold maxLen; omega) (Nat.le_refl _) ?_; intro w2 hown2 hgrow2; obtain ⟨hbg, cur, hcl, hrow⟩ := made_row hown2 rfl; have HB2 : Hid (Below wc.heap.size wc w2) := (Below.refl _ _).grown hgrow2 (Nat.le_refl _) (fun k e => by cases e); have HR2 : Hid (Rd w2 (some x) z1) := rd_grown HF1.out.1 hgrow2; clear hown2 hgrow2)
              go_wp2_with (refine wpList_copy_splice rfl (.tmp 61) (.tmp 62) 22 22 rfl 23 Try.underlying22 size23 _ _ len1 len1 len1 cap1 rfl rfl wc.heap.size 0 cur 23 hrow (cei z1) (by rw [cei_length, HF1.out.2.1]; simp) (fun h => ⟨rfl, copy_src HR2.out h⟩) (by rw [cei_length, HF1.out.2.1]; omega) (cei_oneCell z1) wc.heap.size wc HB2.out hbg ?_; intro w3 hg3 hb3)
              go_meet
              case rel => exact ⟨_, _, rfl, HF0.out.below hb3, ⟨rd_of_splice hg3.out (by rw [hcl, HF1.out.2.1]), HF1.out.2⟩, HF2.out.below hb3, HBL.out.trans (hb3.mono hsz1)⟩
          case rest =>
            clear HBL hsz1 HF0 HF1 HF2
            obtain ⟨b1, d1, rfl, HF0, HF1, HF2, HBL⟩ := hcut
            go_upto_if 66 with fail
            have hsz2 : w.heap.size ≤ wc.heap.size := HBL.out.size
            go_cut [2] (fun va wd => ∃ b2 d2, va = .slice b2 len2 d2 ∧ Hid (Flt wd b0 len0 z0) ∧ Hid (Flt wd b1 len1 z1) ∧ Hid (Flt wd b2 len2 z2) ∧ Hid (Below w.heap.size w wd))
            case first =>
              cases a2 with
              | none =>
                go_wp2_with fail
                go_meet
                case rel => exact ⟨_, _, rfl, HF0, HF1, HF2, HBL⟩
              | some x =>
                go_upto_region 17 with (at_make; refine wpList_make_full _ rfl (.tmp 68) (.tmp 68) 22 rfl wc.heap.size 23 i0 _ 1 Try.underlying22 hi0 hz0 hz1 .i64 .i64 _ _ len2 rfl rfl rfl rfl (by rw [hz2]; omega) (by unfold maxLen; omega) (Nat.le_refl _) ?_; intro w2 hown2 hgrow2; obtain ⟨hbg, cur, hcl, hrow⟩ := made_row hown2 rfl; have HB2 : Hid (Below wc.heap.size wc w2) := (Below.refl _ _).grown hgrow2 (Nat.le_refl _) (fun k e => by cases e); have HR2 : Hid (Rd w2 (some x) z2) := rd_grown HF2.out.1 hgrow2; clear hown2 hgrow2)
                go_wp2_with (refine wpList_copy_splice rfl (.tmp 70) (.tmp 71) 22 22 rfl 23 Try.underlying22 size23 _ _ len2 len2 len2 cap2 rfl rfl wc.heap.size 0 cur 23 hrow (cei z2) (by rw [cei_length, HF2.out.2.1]; simp) (fun h => ⟨rfl, copy_src HR2.out h⟩) (by rw [cei_length, HF2.out.2.1]; omega) (cei_oneCell z2) wc.heap.size wc HB2.out hbg ?_; intro w3 hg3 hb3)
                go_meet
                case rel => exact ⟨_, _, rfl, HF0.out.below hb3, HF1.out.below hb3, ⟨rd_of_splice hg3.out (by rw [hcl, HF2.out.2.1]), HF2.out.2⟩, HBL.out.trans (hb3.mono hsz2)⟩
            case rest =>
              clear HBL hsz2 HF0 HF1 HF2
              obtain ⟨b2, d2, rfl, HF0, HF1, HF2, HBL⟩ := hcut
              clear qn hi0 hz0 hz1 hz2 i0
              have HDA : Hid (Rg.disB z0 = true) := can_dis HD0.out
              have HS1 : Hid (Rg.disB (subF z0 z1) = true) := subF_dis HDA.out HD1.out
              have HS2 : Hid (Rg.disB (subF z0 z2) = true) := subF_dis HDA.out HD2.out
              have HU : Hid (Rg.disB (uniF z1 z2) = true) := can_dis (uniF_can (dis_byf HD1.out) (dis_byf HD2.out))
              go_wp2_with fail
              refine (cSub b0 len0 d0 z0 b1 len1 d1 z1 _ HF0.out HF1.out HDA.out HD1.out (by omega)).mono ?_
              rintro e wm ⟨m, lm, cm, rfl, fm, hlm, hbm⟩
              replace HF0 : Hid (Flt wm b0 len0 z0) := HF0.out.below hbm
              replace HF1 : Hid (Flt wm b1 len1 z1) := HF1.out.below hbm
              replace HF2 : Hid (Flt wm b2 len2 z2) := HF2.out.below hbm
              replace HBL : Hid (Below w.heap.size w wm) := HBL.out.trans (hbm.mono HBL.out.size)
              clear hbm
              have HFm : Hid (Flt wm m lm (subF z0 z1)) := fm
              clear fm
              go_wp2_with fail
              refine (cSub m lm cm (subF z0 z1) b2 len2 d2 z2 _ HFm.out HF2.out HS1.out HD2.out (by omega)).mono ?_
              rintro e wn ⟨n, ln, cn, rfl, fn, hln, hbn⟩
              replace HF0 : Hid (Flt wn b0 len0 z0) := HF0.out.below hbn
              replace HF1 : Hid (Flt wn b1 len1 z1) := HF1.out.below hbn
              replace HF2 : Hid (Flt wn b2 len2 z2) := HF2.out.below hbn
              replace HFm : Hid (Flt wn m lm (subF z0 z1)) := HFm.out.below hbn
              replace HBL : Hid (Below w.heap.size w wn) := HBL.out.trans (hbn.mono HBL.out.size)
              clear hbn
              have HFn : Hid (Flt wn n ln (subF (subF z0 z1) z2)) := fn
              clear fn
              go_wp2_with fail
              refine (cSub b0 len0 d0 z0 b2 len2 d2 z2 _ HF0.out HF2.out HDA.out HD2.out (by omega)).mono ?_
              rintro e wo ⟨o, lo, co, rfl, fo, hlo, hbo⟩
              replace HF0 : Hid (Flt wo b0 len0 z0) := HF0.out.below hbo
              replace HF1 : Hid (Flt wo b1 len1 z1) := HF1.out.below hbo
              replace HF2 : Hid (Flt wo b2 len2 z2) := HF2.out.below hbo
              replace HFm : Hid (Flt wo m lm (subF z0 z1)) := HFm.out.below hbo
              replace HFn : Hid (Flt wo n ln (subF (subF z0 z1) z2)) := HFn.out.below hbo
              replace HBL : Hid (Below w.heap.size w wo) := HBL.out.trans (hbo.mono HBL.out.size)
              clear hbo
              have HFo : Hid (Flt wo o lo (subF z0 z2)) := fo
              clear fo
              go_wp2_with fail
              refine (cSub o lo co (subF z0 z2) b1 len1 d1 z1 _ HFo.out HF1.out HS2.out HD1.out (by omega)).mono ?_
              rintro e wp ⟨p, lp, cp, rfl, fp, hlp, hbp⟩
              replace HF0 : Hid (Flt wp b0 len0 z0) := HF0.out.below hbp
              replace HF1 : Hid (Flt wp b1 len1 z1) := HF1.out.below hbp
              replace HF2 : Hid (Flt wp b2 len2 z2) := HF2.out.below hbp
              replace HFm : Hid (Flt wp m lm (subF z0 z1)) := HFm.out.below hbp
              replace HFn : Hid (Flt wp n ln (subF (subF z0 z1) z2)) := HFn.out.below hbp
              replace HFo : Hid (Flt wp o lo (subF z0 z2)) := HFo.out.below hbp
              replace HBL : Hid (Below w.heap.size w wp) := HBL.out.trans (hbp.mono HBL.out.size)
              clear hbp
              have HFp : Hid (Flt wp p lp (subF (subF z0 z2) z1)) := fp
              clear fp
              go_wp2_with fail
              refine (cUni b1 len1 d1 z1 b2 len2 d2 z2 _ HF1.out HF2.out (dis_byf HD1.out) (dis_byf HD2.out) (by omega)).mono ?_
              rintro e wr ⟨r, lr, cr, rfl, fr, hlr, hbr⟩
              replace HF0 : Hid (Flt wr b0 len0 z0) := HF0.out.below hbr
              replace HF1 : Hid (Flt wr b1 len1 z1) := HF1.out.below hbr
              replace HF2 : Hid (Flt wr b2 len2 z2) := HF2.out.below hbr
              replace HFm : Hid (Flt wr m lm (subF z0 z1)) := HFm.out.below hbr
              replace HFn : Hid (Flt wr n ln (subF (subF z0 z1) z2)) := HFn.out.below hbr
              replace HFo : Hid (Flt wr o lo (subF z0 z2)) := HFo.out.below hbr
              replace HFp : Hid (Flt wr p lp (subF (subF z0 z2) z1)) := HFp.out.below hbr
              replace HBL : Hid (Below w.heap.size w wr) := HBL.out.trans (hbr.mono HBL.out.size)
              clear hbr
              have HFr : Hid (Flt wr r lr (uniF z1 z2)) := fr
              clear fr
              go_wp2_with fail
              refine (cSub b0 len0 d0 z0 r lr cr (uniF z1 z2) _ HF0.out HFr.out HDA.out HU.out (by omega)).mono ?_
              rintro e ws ⟨s, ls, cs, rfl, fs, hls, hbs⟩
              replace HF0 : Hid (Flt ws b0 len0 z0) := HF0.out.below hbs
              replace HF1 : Hid (Flt ws b1 len1 z1) := HF1.out.below hbs
              replace HF2 : Hid (Flt ws b2 len2 z2) := HF2.out.below hbs
              replace HFm : Hid (Flt ws m lm (subF z0 z1)) := HFm.out.below hbs
              replace HFn : Hid (Flt ws n ln (subF (subF z0 z1) z2)) := HFn.out.below hbs
              replace HFo : Hid (Flt ws o lo (subF z0 z2)) := HFo.out.below hbs
              replace HFp : Hid (Flt ws p lp (subF (subF z0 z2) z1)) := HFp.out.below hbs
              replace HFr : Hid (Flt ws r lr (uniF z1 z2)) := HFr.out.below hbs
              replace HBL : Hid (Below w.heap.size w ws) := HBL.out.trans (hbs.mono HBL.out.size)
              clear hbs
              have HFs : Hid (Flt ws s ls (subF z0 (uniF z1 z2))) := fs
              clear fs
              go_wp2_with fail
              refine (cSame n ln cn (subF (subF z0 z1) z2) s ls cs (subF z0 (uniF z1 z2)) _ HFn.out HFs.out (s_b HD0.out HD1.out HD2.out)).mono ?_
              rintro e wt ⟨rfl, hb⟩
              replace HF0 : Hid (Flt wt b0 len0 z0) := HF0.out.below hb
              replace HF1 : Hid (Flt wt b1 len1 z1) := HF1.out.below hb
              replace HF2 : Hid (Flt wt b2 len2 z2) := HF2.out.below hb
              replace HFm : Hid (Flt wt m lm (subF z0 z1)) := HFm.out.below hb
              replace HFn : Hid (Flt wt n ln (subF (subF z0 z1) z2)) := HFn.out.below hb
              replace HFo : Hid (Flt wt o lo (subF z0 z2)) := HFo.out.below hb
              replace HFp : Hid (Flt wt p lp (subF (subF z0 z2) z1)) := HFp.out.below hb
              replace HFr : Hid (Flt wt r lr (uniF z1 z2)) := HFr.out.below hb
              replace HFs : Hid (Flt wt s ls (subF z0 (uniF z1 z2))) := HFs.out.below hb
              replace HBL : Hid (Below w.heap.size w wt) := HBL.out.trans (hb.mono HBL.out.size)
              clear hb
              go_wp2_with fail
              refine (cSame p lp cp (subF (subF z0 z2) z1) s ls cs (subF z0 (uniF z1 z2)) _ HFp.out HFs.out (s_c HD0.out HD1.out HD2.out)).mono ?_
              rintro e wu ⟨rfl, hb⟩
              replace HF0 : Hid (Flt wu b0 len0 z0) := HF0.out.below hb
              replace HF1 : Hid (Flt wu b1 len1 z1) := HF1.out.below hb
              replace HF2 : Hid (Flt wu b2 len2 z2) := HF2.out.below hb
              replace HFm : Hid (Flt wu m lm (subF z0 z1)) := HFm.out.below hb
              replace HFn : Hid (Flt wu n ln (subF (subF z0 z1) z2)) := HFn.out.below hb
              replace HFo : Hid (Flt wu o lo (subF z0 z2)) := HFo.out.below hb
              replace HFp : Hid (Flt wu p lp (subF (subF z0 z2) z1)) := HFp.out.below hb
              replace HFr : Hid (Flt wu r lr (uniF z1 z2)) := HFr.out.below hb
              replace HFs : Hid (Flt wu s ls (subF z0 (uniF z1 z2))) := HFs.out.below hb
              replace HBL : Hid (Below w.heap.size w wu) := HBL.out.trans (hb.mono HBL.out.size)
              clear hb
              go_wp2_with fail
              go_ret
              exact ⟨rfl, HBL.out⟩

end Go.Proofs.Qxb6600453a
