/-
  THE WALK OF FnSubtractIsSetDifference (3), OUT OF THE CONTRACTS.
-/
import Derived.Test.Qxb6600453aLawKit
import Derived.Deep.DeepCutAuto
namespace Go.Proofs.Qxb6600453a
open Go.RowKit

/-- the plain law -/
theorem law3_facts {z0 z1 : List Int} {q : Int} {len0 len1 n : Nat} (hu : U64 z0) (ha : Rg.Ch 1 (toR z0)) (hb : Rg.Ch 1 (toR z1)) (h0 : z0.length = len0) (h1 : z1.length = len1) (hn : n = (fromR (Rg.sub (toR z0) (toR z1))).length) :
    Rg.disB (fromR (Rg.sub (toR z0) (toR z1))) = true ∧ (Rg.canB z0 = true → Rg.canB (fromR (Rg.sub (toR z0) (toR z1))) = true) ∧ n ≤ len0 + len1 ∧
    Rg.hasB (fromR (Rg.sub (toR z0) (toR z1))) q = (Rg.hasB z0 q && !Rg.hasB z1 q) ∧ U64 (fromR (Rg.sub (toR z0) (toR z1))) := by
  refine ⟨(dis_ch _).2 ⟨by rw [fromR_length]; omega, by rw [toR_fromR]; exact Rg.sub_ch (by omega) (by omega) _ _ ha hb⟩,
    fun h => (can_ch _).2 ⟨by rw [fromR_length]; omega, by rw [toR_fromR]; exact Rg.sub_ch (by omega) (by omega) _ _ ((can_ch z0).1 h).2 hb⟩, ?_, ?_,
    u64_fromR _ (Rg.sub_bd _ _ ha hb (bd_toR z0 hu))⟩
  · have := Rg.sub_len (toR z0) (toR z1) ha hb
    rw [toR_length, toR_length] at this
    rw [hn, fromR_length]
    omega
  · rw [Bool.eq_iff_iff, Bool.and_eq_true, Bool.not_eq_true', ← Bool.not_eq_true, has_iff, toR_fromR, Rg.sub_has _ _ ha hb, has_iff, has_iff]

set_option maxRecDepth 100000 in
set_option maxHeartbeats 3200000 in
theorem law3 (a0 : Option Addr) (len0 cap0 : Nat) (z0 : List Int) (a1 : Option Addr) (len1 cap1 : Nat) (z1 : List Int) (q : Int) (w : World) (h0 : Inp w a0 len0 z0) (h1 : Inp w a1 len1 z1) :
    Calls Try.prog 3 #[.slice a0 len0 cap0, .slice a1 len1 cap1, .int .u64 q] w fun e w' => e = .returned (.bool true) ∧ Below w.heap.size w w' := by
  have H0 : Hid (Inp w a0 len0 z0) := h0
  have H1 : Hid (Inp w a1 len1 z1) := h1
  clear h0 h1
  have qn : ∀ (w : World) (a : Option Addr) (n c n' c' : Nat), (binOp .neq 22 (.slice a n c) (.slice none n' c')).run Try.prog w = .ok (.bool (!a.isNone)) w := fun w a n c n' c' => run_neq_slice_nil_any w _ _ a n c n' c' Try.underlying22
  obtain ⟨i0, hi0, hz0, hz1, hz2⟩ := info_parts info23l
  by_cases hs : len0 + len1 ≤ 1048576
  · by_cases hl0 : len0 ≤ 65536
    · by_cases hl1 : len1 ≤ 65536
      · cases hd0 : Rg.disB z0 with
        | false =>
          have HD0 : Hid (Rg.disB z0 = false) := hd0
          clear hd0
          go_enter Try.func3, Try.ntmps3
          go_wp2_with fail
          refine (bytes9_yes a0 a1 len0 cap0 len1 cap1 q _ hs).mono ?_
          rintro e w1 ⟨rfl, rfl⟩
          go_wp2_with fail
          refine (dis_any a0 len0 cap0 z0 _ H0.out.1 H0.out.2.1 (by omega)).mono ?_
          rintro e w1 ⟨rfl, n1, rfl⟩
          rw [HD0.out]
          go_wp2_with fail
          go_ret
          exact ⟨rfl, below_drewN (Below.refl _ _) _⟩
        | true =>
          cases hd1 : Rg.disB z1 with
          | false =>
            have HD0 : Hid (Rg.disB z0 = true) := hd0
            have HD1 : Hid (Rg.disB z1 = false) := hd1
            clear hd0 hd1
            go_enter Try.func3, Try.ntmps3
            go_wp2_with fail
            refine (bytes9_yes a0 a1 len0 cap0 len1 cap1 q _ hs).mono ?_
            rintro e w1 ⟨rfl, rfl⟩
            go_wp2_with fail
            refine (dis_any a0 len0 cap0 z0 _ H0.out.1 H0.out.2.1 (by omega)).mono ?_
            rintro e w1 ⟨rfl, n1, rfl⟩
            rw [HD0.out]
            go_wp2_with fail
            refine (dis_any a1 len1 cap1 z1 _ (H1.out.1.drewN n1) H1.out.2.1 (by omega)).mono ?_
            rintro e w1 ⟨rfl, n2, rfl⟩
            rw [HD1.out]
            go_wp2_with fail
            go_ret
            exact ⟨rfl, below_drewN (Below.refl _ _) _⟩
          | true =>
            have HD0 : Hid (Rg.disB z0 = true) := hd0
            have HD1 : Hid (Rg.disB z1 = true) := hd1
            clear hd0 hd1
            go_enter Try.func3, Try.ntmps3
            go_wp2_with fail
            refine (bytes9_yes a0 a1 len0 cap0 len1 cap1 q _ hs).mono ?_
            rintro e w1 ⟨rfl, rfl⟩
            go_wp2_with fail
            refine (dis_any a0 len0 cap0 z0 _ H0.out.1 H0.out.2.1 (by omega)).mono ?_
            rintro e w1 ⟨rfl, n1, rfl⟩
            rw [HD0.out]
            go_wp2_with fail
            refine (dis_any a1 len1 cap1 z1 _ (H1.out.1.drewN n1) H1.out.2.1 (by omega)).mono ?_
            rintro e w1 ⟨rfl, n2, rfl⟩
            rw [HD1.out]
            go_upto_if 32 with fail
            have HBL : Hid (Below w.heap.size w (w.drewN (n1 + n2))) := below_drewN (Below.refl _ _) _
            have HR0 : Hid (Rd (w.drewN (n1 + n2)) a0 z0) := H0.out.1
            have hsz0 : w.heap.size ≤ (w.drewN (n1 + n2)).heap.size := Nat.le_refl _
            generalize w.drewN (n1 + n2) = W1 at HBL HR0 hsz0 ⊢
            go_cut [0] (fun va wc => ∃ a c, va = .slice a len0 c ∧ Hid (Rd wc a z0) ∧ Hid (Below w.heap.size w wc))
            case first =>
              cases a0 with
              | none =>
                go_wp2_with fail
                go_meet
                case rel => exact ⟨_, _, rfl, HR0, HBL⟩
              | some x =>
                go_upto_region 9 with (at_make; refine wpList_make_full _ rfl (.tmp 34) (.tmp 34) 22 rfl w.heap.size 23 i0 _ 1 Try.underlying22 hi0 hz0 hz1 .i64 .i64 _ _ len0 rfl rfl rfl rfl (by rw [hz2]; omega) (by unfold maxLen; omega) hsz0 ?_; intro w2 hown2 hgrow2; obtain ⟨hbg, cur, hcl, hrow⟩ := made_row hown2 rfl; have HB2 : Hid (Below w.heap.size w w2) := HBL.out.grown hgrow2 hsz0 (fun k e => by cases e); have HR2 : Hid (Rd w2 (some x) z0) := rd_grown HR0.out hgrow2; clear hown2 hgrow2)
                go_wp2_with (refine wpList_copy_splice rfl (.tmp 36) (.tmp 37) 22 22 rfl 23 Try.underlying22 size23 _ _ len0 len0 len0 cap0 rfl rfl W1.heap.size 0 cur 23 hrow (cei z0) (by rw [cei_length, H0.out.2.1]; simp) (fun h => ⟨rfl, copy_src HR2.out h⟩) (by rw [cei_length, H0.out.2.1]; omega) (cei_oneCell z0) w.heap.size w HB2.out hbg ?_; intro w3 hg3 hb3)
                go_meet
                case rel => exact ⟨_, _, rfl, rd_of_splice hg3.out (by rw [hcl, H0.out.2.1]), hb3⟩
            case rest =>
              obtain ⟨a, c, rfl, HRa, HBc⟩ := hcut
              clear HBL HR0 hsz0
              go_upto_if 41 with fail
              have HR1 : Hid (Rd wc a1 z1) := H1.out.1.below HBc.out
              have hsz1 : w.heap.size ≤ wc.heap.size := HBc.out.size
              go_cut [1] (fun vb wd => ∃ b d, vb = .slice b len1 d ∧ Hid (Rd wd b z1) ∧ Hid (Rd wd a z0) ∧ Hid (Below w.heap.size w wd))
              case first =>
                cases a1 with
                | none =>
                  go_wp2_with fail
                  go_meet
                  case rel => exact ⟨_, _, rfl, HR1, HRa, HBc⟩
                | some x =>
                  go_upto_region 13 with (at_make; refine wpList_make_full _ rfl (.tmp 43) (.tmp 43) 22 rfl wc.heap.size 23 i0 _ 1 Try.underlying22 hi0 hz0 hz1 .i64 .i64 _ _ len1 rfl rfl rfl rfl (by rw [hz2]; omega) (by unfold maxLen; omega) (Nat.le_refl _) ?_; intro w2 hown2 hgrow2; obtain ⟨hbg, cur, hcl, hrow⟩ := made_row hown2 rfl; have HB2 : Hid (Below wc.heap.size wc w2) := (Below.refl _ _).grown hgrow2 (Nat.le_refl _) (fun k e => by cases e); have HR2 : Hid (Rd w2 (some x) z1) := rd_grown HR1.out hgrow2; clear hown2 hgrow2)
                  go_wp2_with (refine wpList_copy_splice rfl (.tmp 45) (.tmp 46) 22 22 rfl 23 Try.underlying22 size23 _ _ len1 len1 len1 cap1 rfl rfl wc.heap.size 0 cur 23 hrow (cei z1) (by rw [cei_length, H1.out.2.1]; simp) (fun h => ⟨rfl, copy_src HR2.out h⟩) (by rw [cei_length, H1.out.2.1]; omega) (cei_oneCell z1) wc.heap.size wc HB2.out hbg ?_; intro w3 hg3 hb3)
                  go_meet
                  case rel => exact ⟨_, _, rfl, rd_of_splice hg3.out (by rw [hcl, H1.out.2.1]), HRa.out.below hb3, HBc.out.trans (hb3.mono hsz1)⟩
              case rest =>
                obtain ⟨b, d, rfl, HRb, HRa2, HBd⟩ := hcut
                clear HRa HR1 HBc hsz1
                have HCA : Hid (z0.length % 2 = 0 ∧ Rg.Ch 1 (toR z0)) := (dis_ch z0).1 HD0.out
                have HCB : Hid (z1.length % 2 = 0 ∧ Rg.Ch 1 (toR z1)) := (dis_ch z1).1 HD1.out
                go_wp2_with fail
                refine (zsub_any a len0 c z0 b len1 d z1 _ ⟨HRa2.out, H0.out.2.1, H0.out.2.2.1, by omega⟩ ⟨HRb.out, H1.out.2.1, H1.out.2.2.1, by omega⟩ HCA.out.2 HCB.out.2).mono ?_
                rintro e w4 ⟨o, n, co, rfl, ro, hn, hb4⟩
                obtain ⟨f1, f2, f3, f4, f5⟩ := law3_facts (q := q) H0.out.2.2.1 HCA.out.2 HCB.out.2 H0.out.2.1 H1.out.2.1 hn
                generalize fromR (Rg.sub (toR z0) (toR z1)) = zo at ro hn f1 f2 f3 f4 f5
                have HRo : Hid (Rd w4 o zo) := ro
                have HN : Hid (zo.length = n) := hn.symm
                have HF1 : Hid (Rg.disB zo = true) := f1
                have HF2 : Hid (Rg.canB z0 = true → Rg.canB zo = true) := f2
                have HF4 : Hid (Rg.hasB zo q = (Rg.hasB z0 q && !Rg.hasB z1 q)) := f4
                have HF5 : Hid (U64 zo) := f5
                have HRa4 : Hid (Rd w4 a z0) := HRa2.out.below hb4
                have HRb4 : Hid (Rd w4 b z1) := HRb.out.below hb4
                have HB4 : Hid (Below w.heap.size w w4) := HBd.out.trans (hb4.mono HBd.out.size)
                clear ro hn f1 f2 f4 f5 hb4 HRa2 HRb HBd
                go_wp2_with fail
                refine (dis_any o n co zo _ HRo.out HN.out (by omega)).mono ?_
                rintro e w5 ⟨rfl, n3, rfl⟩
                rw [HF1.out]
                go_wp2_with fail
                refine (can_any a len0 c z0 _ (HRa4.out.drewN n3) H0.out.2.1 (by omega) H0.out.2.2.1).mono ?_
                rintro e w5 ⟨rfl, n4, rfl⟩
                obtain ⟨p0, hp0⟩ : ∃ p, Rg.hasB z0 q = p := ⟨_, rfl⟩
                obtain ⟨p1, hp1⟩ : ∃ p, Rg.hasB z1 q = p := ⟨_, rfl⟩
                rw [hp0, hp1] at HF4
                have HP0 : Hid (Rg.hasB z0 q = p0) := hp0
                have HP1 : Hid (Rg.hasB z1 q = p1) := hp1
                clear hp0 hp1
                cases hc : Rg.canB z0 with
                | true =>
                  have HC : Hid (Rg.canB z0 = true) := hc
                  clear hc
                  go_wp2_with fail
                  refine (can_any o n co zo _ (HRo.out.drewN (n3 + n4)) HN.out (by omega) HF5.out).mono ?_
                  rintro e w5 ⟨rfl, n5, rfl⟩
                  rw [HF2.out HC.out]
                  go_wp2_with fail
                  refine (has_any o n co zo q _ (HRo.out.drewN (n3 + n4 + n5)) HN.out (by omega)).mono ?_
                  rintro e w5 ⟨rfl, rfl⟩
                  rw [HF4.out]
                  go_wp2_with fail
                  refine (has_any a len0 c z0 q _ (HRa4.out.drewN (n3 + n4 + n5)) H0.out.2.1 (by omega)).mono ?_
                  rintro e w5 ⟨rfl, rfl⟩
                  rw [HP0.out]
                  cases p0 with
                  | false =>
                    go_wp2_with fail
                    go_ret
                    exact ⟨rfl, below_drewN HB4.out _⟩
                  | true =>
                    go_wp2_with fail
                    refine (has_any b len1 d z1 q _ (HRb4.out.drewN (n3 + n4 + n5)) H1.out.2.1 (by omega)).mono ?_
                    rintro e w5 ⟨rfl, rfl⟩
                    rw [HP1.out]
                    go_wp2_with fail
                    go_ret
                    exact ⟨ret_bool (by cases p1 <;> rfl), below_drewN HB4.out _⟩
                | false =>
                  clear hc
                  go_wp2_with fail
                  refine (has_any o n co zo q _ (HRo.out.drewN (n3 + n4)) HN.out (by omega)).mono ?_
                  rintro e w5 ⟨rfl, rfl⟩
                  rw [HF4.out]
                  go_wp2_with fail
                  refine (has_any a len0 c z0 q _ (HRa4.out.drewN (n3 + n4)) H0.out.2.1 (by omega)).mono ?_
                  rintro e w5 ⟨rfl, rfl⟩
                  rw [HP0.out]
                  cases p0 with
                  | false =>
                    go_wp2_with fail
                    go_ret
                    exact ⟨rfl, below_drewN HB4.out _⟩
                  | true =>
                    go_wp2_with fail
                    refine (has_any b len1 d z1 q _ (HRb4.out.drewN (n3 + n4)) H1.out.2.1 (by omega)).mono ?_
                    rintro e w5 ⟨rfl, rfl⟩
                    rw [HP1.out]
                    go_wp2_with fail
                    go_ret
                    exact ⟨ret_bool (by cases p1 <;> rfl), below_drewN HB4.out _⟩
      · have hl1' : 65536 < len1 := by omega
        go_enter Try.func3, Try.ntmps3
        go_wp2_with fail
        refine (bytes9_yes a0 a1 len0 cap0 len1 cap1 q _ hs).mono ?_
        rintro e w1 ⟨rfl, rfl⟩
        go_wp2_with fail
        go_ret
        exact ⟨rfl, Below.refl _ _⟩
    · have hl0' : 65536 < len0 := by omega
      go_enter Try.func3, Try.ntmps3
      go_wp2_with fail
      refine (bytes9_yes a0 a1 len0 cap0 len1 cap1 q _ hs).mono ?_
      rintro e w1 ⟨rfl, rfl⟩
      go_wp2_with fail
      go_ret
      exact ⟨rfl, Below.refl _ _⟩
  · go_enter Try.func3, Try.ntmps3
    go_wp2_with fail
    refine (bytes9_no a0 a1 len0 cap0 len1 cap1 q _ hs).mono ?_
    rintro e w1 ⟨rfl, rfl⟩
    go_wp2_with fail
    go_ret
    exact ⟨rfl, Below.refl _ _⟩

end Go.Proofs.Qxb6600453a
