/-
  THE WALK OF A LAW (function 5), OUT OF THE CONTRACTS.
-/
import Derived.Test.Qxb6600453aZKit
import Derived.Deep.DeepCutAuto
namespace Go.Proofs.Qxb6600453a
open Go.RowKit

section
variable {z0 z1 : List Int}
theorem dj_byf (h : Rg.canB z0 = true) : Rg.byfB z0 = true := dis_byf (can_dis h)
theorem t_du (h0 : Rg.canB z0 = true) (h1 : Rg.disB z1 = true) : uniF (subF z0 z1) z1 = uniF z0 z1 :=
  can_eq (uniF_can (dj_byf (subF_can h0 h1)) (dis_byf h1)) (uniF_can (dj_byf h0) (dis_byf h1)) fun x => by
    rw [uniF_has (dj_byf (subF_can h0 h1)) (dis_byf h1), uniF_has (dj_byf h0) (dis_byf h1), subF_has (can_dis h0) h1]
    constructor
    · exact fun h => h.elim (fun h => .inl h.1) .inr
    · intro h
      by_cases hx : Rg.Has (toR z1) x
      · exact .inr hx
      · exact .inl ⟨h.elim id (fun h => absurd h hx), hx⟩
theorem t_ub (h0 : Rg.canB z0 = true) (h1 : Rg.disB z1 = true) : subF (uniF z0 z1) z1 = subF z0 z1 :=
  can_eq (subF_can (uniF_can (dj_byf h0) (dis_byf h1)) h1) (subF_can h0 h1) fun x => by
    rw [subF_has (can_dis (uniF_can (dj_byf h0) (dis_byf h1))) h1, subF_has (can_dis h0) h1, uniF_has (dj_byf h0) (dis_byf h1)]
    exact ⟨fun h => ⟨h.1.elim id (fun k => absurd k h.2), h.2⟩, fun h => ⟨.inl h.1, h.2⟩⟩
theorem t_db (h0 : Rg.canB z0 = true) (h1 : Rg.disB z1 = true) : subF (subF z0 z1) z1 = subF z0 z1 :=
  can_eq (subF_can (subF_can h0 h1) h1) (subF_can h0 h1) fun x => by
    rw [subF_has (can_dis (subF_can h0 h1)) h1, subF_has (can_dis h0) h1]
    exact ⟨fun h => h.1, fun h => ⟨h, h.2⟩⟩
theorem t_nil (h0 : Rg.canB z0 = true) : subF z0 [] = z0 :=
  can_eq (subF_can h0 rfl) h0 fun x => by
    rw [subF_has (can_dis h0) rfl]
    exact ⟨fun h => h.1, fun h => ⟨h, no_has x⟩⟩
theorem t_self (h0 : Rg.canB z0 = true) : subF z0 z0 = [] :=
  can_eq (subF_can h0 (can_dis h0)) rfl fun x => by
    rw [subF_has (can_dis h0) (can_dis h0)]
    exact ⟨fun h => absurd h.1 h.2, fun h => absurd h (no_has x)⟩
end

set_option maxRecDepth 100000 in
set_option maxHeartbeats 3200000 in
theorem law5 (a0 : Option Addr) (len0 cap0 : Nat) (z0 : List Int) (a1 : Option Addr) (len1 cap1 : Nat) (z1 : List Int) (w : World) (h0 : Inp w a0 len0 z0) (h1 : Inp w a1 len1 z1) :
    Calls Try.prog 5 #[.slice a0 len0 cap0, .slice a1 len1 cap1] w fun e w' => e = .returned (.bool true) ∧ Below w.heap.size w w' := by
  have H0 : Hid (Inp w a0 len0 z0) := h0
  have H1 : Hid (Inp w a1 len1 z1) := h1
  clear h0 h1
  have qn : ∀ (w : World) (a : Option Addr) (n c n' c' : Nat), (binOp .neq 22 (.slice a n c) (.slice none n' c')).run Try.prog w = .ok (.bool (!a.isNone)) w := fun w a n c n' c' => run_neq_slice_nil_any w _ _ a n c n' c' Try.underlying22
  obtain ⟨i0, hi0, hz0, hz1, hz2⟩ := info_parts info23l
  by_cases hs : ¬ len0 + len1 ≤ 1048576
  · go_enter Try.func5, Try.ntmps5
    go_wp2_with fail
    refine (bytes17_no a0 a1 len0 cap0 len1 cap1 _ hs).mono ?_
    rintro e w1 ⟨rfl, rfl⟩
    go_wp2_with fail
    go_ret
    exact ⟨rfl, Below.refl _ _⟩
  replace hs : len0 + len1 ≤ 1048576 := by omega
  by_cases hl0 : 65536 < len0
  · skip
    go_enter Try.func5, Try.ntmps5
    go_wp2_with fail
    refine (bytes17_yes a0 a1 len0 cap0 len1 cap1 _ hs).mono ?_
    rintro e w1 ⟨rfl, rfl⟩
    go_wp2_with fail
    go_ret
    exact ⟨rfl, Below.refl _ _⟩
  replace hl0 : len0 ≤ 65536 := by omega
  by_cases hl1 : 65536 < len1
  · skip
    go_enter Try.func5, Try.ntmps5
    go_wp2_with fail
    refine (bytes17_yes a0 a1 len0 cap0 len1 cap1 _ hs).mono ?_
    rintro e w1 ⟨rfl, rfl⟩
    go_wp2_with fail
    go_ret
    exact ⟨rfl, Below.refl _ _⟩
  replace hl1 : len1 ≤ 65536 := by omega
  have HF0 : Hid (Flt w a0 len0 z0) := ⟨H0.out.1, H0.out.2.1, H0.out.2.2.1, by omega⟩
  have HF1 : Hid (Flt w a1 len1 z1) := ⟨H1.out.1, H1.out.2.1, H1.out.2.2.1, by omega⟩
  have HBL : Hid (Below w.heap.size w w) := Below.refl _ _
  clear H0 H1
  go_enter Try.func5, Try.ntmps5
  go_wp2_with fail
  refine (bytes17_yes a0 a1 len0 cap0 len1 cap1 _ hs).mono ?_
  rintro e w1 ⟨rfl, rfl⟩
  go_wp2_with fail
  refine (cCanB a0 len0 cap0 z0 _ HF0.out).mono ?_
  rintro e w2 ⟨rfl, hb2⟩
  replace HF0 : Hid (Flt w2 a0 len0 z0) := HF0.out.below hb2
  replace HF1 : Hid (Flt w2 a1 len1 z1) := HF1.out.below hb2
  replace HBL : Hid (Below w.heap.size w w2) := HBL.out.trans (hb2.mono HBL.out.size)
  clear hb2
  cases hd0 : Rg.canB z0 with
  | false =>
    go_wp2_with fail
    go_ret
    exact ⟨rfl, HBL.out⟩
  | true =>
    have HD0 : Hid (Rg.canB z0 = true) := hd0
    clear hd0
    go_wp2_with fail
    refine (cDis a1 len1 cap1 z1 _ HF1.out).mono ?_
    rintro e w3 ⟨rfl, hb3⟩
    replace HF0 : Hid (Flt w3 a0 len0 z0) := HF0.out.below hb3
    replace HF1 : Hid (Flt w3 a1 len1 z1) := HF1.out.below hb3
    replace HBL : Hid (Below w.heap.size w w3) := HBL.out.trans (hb3.mono HBL.out.size)
    clear hb3
    cases hd1 : Rg.disB z1 with
    | false =>
      go_wp2_with fail
      go_ret
      exact ⟨rfl, HBL.out⟩
    | true =>
      have HD1 : Hid (Rg.disB z1 = true) := hd1
      clear hd1
      go_upto_if 30 with fail
      have hsz0 : w.heap.size ≤ w3.heap.size := HBL.out.size
      go_cut [0] (fun va wd => ∃ b0 d0, va = .slice b0 len0 d0 ∧ Hid (Flt wd b0 len0 z0) ∧ Hid (Flt wd a1 len1 z1) ∧ Hid (Below w.heap.size w wd))
      case first =>
        cases a0 with
        | none =>
          go_wp2_with fail
          go_meet
          case rel => exact ⟨_, _, rfl, HF0, HF1, HBL⟩
        | some x =>
          go_upto_region 9 with (at_make; refine wpList_make_full _ rfl (.tmp 32) (.tmp 32) 22 rfl w3.heap.size 23 i0 _ 1 Try.underlying22 hi0 hz0 hz1 .i64 .i64 _ _ len0 rfl rfl rfl rfl (by rw [hz2]; omega) (by unfold maxLen; omega) (Nat.le_refl _) ?_; intro w2 hown2 hgrow2; obtain ⟨hbg, cur, hcl, hrow⟩ := made_row hown2 rfl; have HB2 : Hid (Below w3.heap.size w3 w2) := (Below.refl _ _).grown hgrow2 (Nat.le_refl _) (fun k e => by cases e); have HR2 : Hid (Rd w2 (some x) z0) := rd_grown HF0.out.1 hgrow2; clear hown2 hgrow2)
          go_wp2_with (refine wpList_copy_splice rfl (.tmp 34) (.tmp 35) 22 22 rfl 23 Try.underlying22 size23 _ _ len0 len0 len0 cap0 rfl rfl w3.heap.size 0 cur 23 hrow (cei z0) (by rw [cei_length, HF0.out.2.1]; simp) (fun h => ⟨rfl, copy_src HR2.out h⟩) (by rw [cei_length, HF0.out.2.1]; omega) (cei_oneCell z0) w3.heap.size w3 HB2.out hbg ?_; intro w3 hg3 hb3)
          go_meet
          case rel => exact ⟨_, _, rfl, ⟨rd_of_splice hg3.out (by rw [hcl, HF0.out.2.1]), HF0.out.2⟩, HF1.out.below hb3, HBL.out.trans (hb3.mono hsz0)⟩
      case rest =>
        clear HBL hsz0 HF0 HF1
        obtain ⟨b0, d0, rfl, HF0, HF1, HBL⟩ := hcut
        go_upto_if 39 with fail
        have hsz1 : w.heap.size ≤ wc.heap.size := HBL.out.size
        go_cut [1] (fun va wd => ∃ b1 d1, va = .slice b1 len1 d1 ∧ Hid (Flt wd b0 len0 z0) ∧ Hid (Flt wd b1 len1 z1) ∧ Hid (Below w.heap.size w wd))
        case first =>
          cases a1 with
          | none =>
            go_wp2_with fail
            go_meet
            case rel => exact ⟨_, _, rfl, HF0, HF1, HBL⟩
          | some x =>
            go_upto_region 13 with (at_make; refine wpList_make_full _ rfl (.tmp 41) (.tmp 41) 22 rfl wc.heap.size 23 i0 _ 1 Try.underlying22 hi0 hz0 hz1 .i64 .i64 _ _ len1 rfl rfl rfl rfl (by rw [hz2]; omega) (by unfold maxLen; omega) (Nat.le_refl _) ?_; intro w2 hown2 hgrow2; obtain ⟨hbg, cur, hcl, hrow⟩ := made_row hown2 rfl; have HB2 : Hid (Below wc.heap.size wc w2) := (Below.refl _ _).grown hgrow2 (Nat.le_refl _) (fun k e => by cases e); have HR2 : Hid (Rd w2 (some x) z1) := rd_grown HF1.out.1 hgrow2; clear hown2 hgrow2)
            go_wp2_with (refine wpList_copy_splice rfl (.tmp 43) (.tmp 44) 22 22 rfl 23 Try.underlying22 size23 _ _ len1 len1 len1 cap1 rfl rfl wc.heap.size 0 cur 23 hrow (cei z1) (by rw [cei_length, HF1.out.2.1]; simp) (fun h => ⟨rfl, copy_src HR2.out h⟩) (by rw [cei_length, HF1.out.2.1]; omega) (cei_oneCell z1) wc.heap.size wc HB2.out hbg ?_; intro w3 hg3 hb3)
            go_meet
            case rel => exact ⟨_, _, rfl, HF0.out.below hb3, ⟨rd_of_splice hg3.out (by rw [hcl, HF1.out.2.1]), HF1.out.2⟩, HBL.out.trans (hb3.mono hsz1)⟩
        case rest =>
          clear HBL hsz1 HF0 HF1
          obtain ⟨b1, d1, rfl, HF0, HF1, HBL⟩ := hcut
          clear qn hi0 hz0 hz1 hz2 i0
          have HDA : Hid (Rg.disB z0 = true) := can_dis HD0.out
          have HYA : Hid (Rg.byfB z0 = true) := dj_byf HD0.out
          have HYB : Hid (Rg.byfB z1 = true) := dis_byf HD1.out
          have HCD : Hid (Rg.canB (subF z0 z1) = true) := subF_can HD0.out HD1.out
          have HCU : Hid (Rg.canB (uniF z0 z1) = true) := uniF_can HYA.out HYB.out
          go_wp2_with fail
          refine (cSub b0 len0 d0 z0 b1 len1 d1 z1 _ HF0.out HF1.out HDA.out HD1.out (by omega)).mono ?_
          rintro e wm ⟨m, lm, cm, rfl, fm, hlm, hbm⟩
          replace HF0 : Hid (Flt wm b0 len0 z0) := HF0.out.below hbm
          replace HF1 : Hid (Flt wm b1 len1 z1) := HF1.out.below hbm
          replace HBL : Hid (Below w.heap.size w wm) := HBL.out.trans (hbm.mono HBL.out.size)
          clear hbm
          have HFm : Hid (Flt wm m lm (subF z0 z1)) := fm
          clear fm
          go_wp2_with fail
          refine (cUni b0 len0 d0 z0 b1 len1 d1 z1 _ HF0.out HF1.out HYA.out HYB.out (by omega)).mono ?_
          rintro e wn ⟨n, ln, cn, rfl, fn, hln, hbn⟩
          replace HF0 : Hid (Flt wn b0 len0 z0) := HF0.out.below hbn
          replace HF1 : Hid (Flt wn b1 len1 z1) := HF1.out.below hbn
          replace HFm : Hid (Flt wn m lm (subF z0 z1)) := HFm.out.below hbn
          replace HBL : Hid (Below w.heap.size w wn) := HBL.out.trans (hbn.mono HBL.out.size)
          clear hbn
          have HFn : Hid (Flt wn n ln (uniF z0 z1)) := fn
          clear fn
          go_wp2_with fail
          refine (cUni m lm cm (subF z0 z1) b1 len1 d1 z1 _ HFm.out HF1.out (dj_byf HCD.out) HYB.out (by omega)).mono ?_
          rintro e wo ⟨o, lo, co, rfl, fo, hlo, hbo⟩
          replace HF0 : Hid (Flt wo b0 len0 z0) := HF0.out.below hbo
          replace HF1 : Hid (Flt wo b1 len1 z1) := HF1.out.below hbo
          replace HFm : Hid (Flt wo m lm (subF z0 z1)) := HFm.out.below hbo
          replace HFn : Hid (Flt wo n ln (uniF z0 z1)) := HFn.out.below hbo
          replace HBL : Hid (Below w.heap.size w wo) := HBL.out.trans (hbo.mono HBL.out.size)
          clear hbo
          have HFo : Hid (Flt wo o lo (uniF (subF z0 z1) z1)) := fo
          clear fo
          go_wp2_with fail
          refine (cSame o lo co (uniF (subF z0 z1) z1) n ln cn (uniF z0 z1) _ HFo.out HFn.out (t_du HD0.out HD1.out)).mono ?_
          rintro e wos ⟨rfl, hb⟩
          replace HF0 : Hid (Flt wos b0 len0 z0) := HF0.out.below hb
          replace HF1 : Hid (Flt wos b1 len1 z1) := HF1.out.below hb
          replace HFm : Hid (Flt wos m lm (subF z0 z1)) := HFm.out.below hb
          replace HFn : Hid (Flt wos n ln (uniF z0 z1)) := HFn.out.below hb
          replace HFo : Hid (Flt wos o lo (uniF (subF z0 z1) z1)) := HFo.out.below hb
          replace HBL : Hid (Below w.heap.size w wos) := HBL.out.trans (hb.mono HBL.out.size)
          clear hb
          clear HFo hlo
          go_wp2_with fail
          refine (cSub n ln cn (uniF z0 z1) b1 len1 d1 z1 _ HFn.out HF1.out (can_dis HCU.out) HD1.out (by omega)).mono ?_
          rintro e wp ⟨p, lp, cp, rfl, fp, hlp, hbp⟩
          replace HF0 : Hid (Flt wp b0 len0 z0) := HF0.out.below hbp
          replace HF1 : Hid (Flt wp b1 len1 z1) := HF1.out.below hbp
          replace HFm : Hid (Flt wp m lm (subF z0 z1)) := HFm.out.below hbp
          replace HFn : Hid (Flt wp n ln (uniF z0 z1)) := HFn.out.below hbp
          replace HBL : Hid (Below w.heap.size w wp) := HBL.out.trans (hbp.mono HBL.out.size)
          clear hbp
          have HFp : Hid (Flt wp p lp (subF (uniF z0 z1) z1)) := fp
          clear fp
          go_wp2_with fail
          refine (cSame p lp cp (subF (uniF z0 z1) z1) m lm cm (subF z0 z1) _ HFp.out HFm.out (t_ub HD0.out HD1.out)).mono ?_
          rintro e wps ⟨rfl, hb⟩
          replace HF0 : Hid (Flt wps b0 len0 z0) := HF0.out.below hb
          replace HF1 : Hid (Flt wps b1 len1 z1) := HF1.out.below hb
          replace HFm : Hid (Flt wps m lm (subF z0 z1)) := HFm.out.below hb
          replace HFn : Hid (Flt wps n ln (uniF z0 z1)) := HFn.out.below hb
          replace HFp : Hid (Flt wps p lp (subF (uniF z0 z1) z1)) := HFp.out.below hb
          replace HBL : Hid (Below w.heap.size w wps) := HBL.out.trans (hb.mono HBL.out.size)
          clear hb
          clear HFp hlp
          go_wp2_with fail
          refine (cSub m lm cm (subF z0 z1) b1 len1 d1 z1 _ HFm.out HF1.out (can_dis HCD.out) HD1.out (by omega)).mono ?_
          rintro e wr ⟨r, lr, cr, rfl, fr, hlr, hbr⟩
          replace HF0 : Hid (Flt wr b0 len0 z0) := HF0.out.below hbr
          replace HF1 : Hid (Flt wr b1 len1 z1) := HF1.out.below hbr
          replace HFm : Hid (Flt wr m lm (subF z0 z1)) := HFm.out.below hbr
          replace HFn : Hid (Flt wr n ln (uniF z0 z1)) := HFn.out.below hbr
          replace HBL : Hid (Below w.heap.size w wr) := HBL.out.trans (hbr.mono HBL.out.size)
          clear hbr
          have HFr : Hid (Flt wr r lr (subF (subF z0 z1) z1)) := fr
          clear fr
          go_wp2_with fail
          refine (cSame r lr cr (subF (subF z0 z1) z1) m lm cm (subF z0 z1) _ HFr.out HFm.out (t_db HD0.out HD1.out)).mono ?_
          rintro e wrs ⟨rfl, hb⟩
          replace HF0 : Hid (Flt wrs b0 len0 z0) := HF0.out.below hb
          replace HF1 : Hid (Flt wrs b1 len1 z1) := HF1.out.below hb
          replace HFm : Hid (Flt wrs m lm (subF z0 z1)) := HFm.out.below hb
          replace HFn : Hid (Flt wrs n ln (uniF z0 z1)) := HFn.out.below hb
          replace HFr : Hid (Flt wrs r lr (subF (subF z0 z1) z1)) := HFr.out.below hb
          replace HBL : Hid (Below w.heap.size w wrs) := HBL.out.trans (hb.mono HBL.out.size)
          clear hb
          clear HFr hlr
          go_wp2_with fail
          refine (cSub b0 len0 d0 z0 none 0 0 [] _ HF0.out (flt_nil _) HDA.out rfl (by omega)).mono ?_
          rintro e ws ⟨s, ls, cs, rfl, fs, hls, hbs⟩
          replace HF0 : Hid (Flt ws b0 len0 z0) := HF0.out.below hbs
          replace HF1 : Hid (Flt ws b1 len1 z1) := HF1.out.below hbs
          replace HFm : Hid (Flt ws m lm (subF z0 z1)) := HFm.out.below hbs
          replace HFn : Hid (Flt ws n ln (uniF z0 z1)) := HFn.out.below hbs
          replace HBL : Hid (Below w.heap.size w ws) := HBL.out.trans (hbs.mono HBL.out.size)
          clear hbs
          have HFs : Hid (Flt ws s ls (subF z0 [])) := fs
          clear fs
          go_wp2_with fail
          refine (cSame s ls cs (subF z0 []) b0 len0 d0 z0 _ HFs.out HF0.out (t_nil HD0.out)).mono ?_
          rintro e wss ⟨rfl, hb⟩
          replace HF0 : Hid (Flt wss b0 len0 z0) := HF0.out.below hb
          replace HF1 : Hid (Flt wss b1 len1 z1) := HF1.out.below hb
          replace HFm : Hid (Flt wss m lm (subF z0 z1)) := HFm.out.below hb
          replace HFn : Hid (Flt wss n ln (uniF z0 z1)) := HFn.out.below hb
          replace HFs : Hid (Flt wss s ls (subF z0 [])) := HFs.out.below hb
          replace HBL : Hid (Below w.heap.size w wss) := HBL.out.trans (hb.mono HBL.out.size)
          clear hb
          clear HFs hls
          go_wp2_with fail
          refine (cSub b0 len0 d0 z0 b0 len0 d0 z0 _ HF0.out HF0.out HDA.out HDA.out (by omega)).mono ?_
          rintro e wv ⟨v, lv, cv, rfl, fv, hlv, hbv⟩
          replace HF0 : Hid (Flt wv b0 len0 z0) := HF0.out.below hbv
          replace HF1 : Hid (Flt wv b1 len1 z1) := HF1.out.below hbv
          replace HFm : Hid (Flt wv m lm (subF z0 z1)) := HFm.out.below hbv
          replace HFn : Hid (Flt wv n ln (uniF z0 z1)) := HFn.out.below hbv
          replace HBL : Hid (Below w.heap.size w wv) := HBL.out.trans (hbv.mono HBL.out.size)
          clear hbv
          have HFv : Hid (Flt wv v lv (subF z0 z0)) := fv
          clear fv
          have hz : lv = 0 := by have h := HFv.out.2.1; rw [t_self HD0.out] at h; exact h.symm
          subst hz
          go_wp2_with fail
          go_ret
          exact ⟨rfl, HBL.out⟩

end Go.Proofs.Qxb6600453a
