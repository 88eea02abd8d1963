/-
  THE WALKS OF THE LAWS' OWN READERS: zzDisjoint (10), zzCanonical (12), zzHas (13), zzSame (16), zzByFirst (19): each only reads.
-/
import Derived.Test.Qxb6600453aProg
import Derived.Test.Qxb6600453aCells
import Derived.WalkKit
import Derived.Deep.LoopGhost
import Derived.Deep.QuietTactic
import Derived.BigRegion
import Derived.BigQuiet
import Derived.WalkSmall
namespace Go.Proofs.Qxb6600453a
open Go.RowKit

theorem ret_bool {a b : Bool} (h : a = b) : Ending.returned (.bool a) = .returned (.bool b) := by rw [h]

/-! ### zzDisjoint -/
set_option maxHeartbeats 1000000 in
theorem dis_some (b off len cap : Nat) (z : List Int) (w : World) (hz : Hid (z.length = len)) (hc : ∀ i, i < len → w.cell? ⟨b, off + i, none⟩ = some (.int .u64 (z.getD i 0))) (hl : len ≤ 140737488355328) :
    Calls Try.prog 10 #[.slice (some ⟨b, off, none⟩) len cap] w fun e w' => e = .returned (.bool (Rg.disB z)) ∧ ∃ n, w' = w.drewN n := by
  by_cases he : len % 2 = 0
  · have he2 : ((len : Int) % 2 != 0) = false := by rw [bne_eq_false_iff_eq]; omega
    go_enter Try.func10, Try.ntmps10
    go_wp2
    go_loopg [3] len (fun g i wr => ∃ m n : Nat, m % 2 = 0 ∧ m ≤ len ∧ len - m ≤ g ∧ i = .int .i64 m ∧ wr = w.drewN n ∧ Hid (∀ j, j < m → j % 2 = 0 → Rg.okD z j = true))
    case atStart => exact ⟨0, 0, rfl, Nat.zero_le _, Nat.le_refl _, rfl, rfl, fun j hj => absurd hj (Nat.not_lt_zero _)⟩
    case round =>
      obtain ⟨m, n, hm2, hml, hg, rfl, rfl, HK⟩ := hrel
      by_cases hlt : m < len
      · have c0 := hc m hlt
        have c1 := hc (m + 1) (by omega)
        obtain ⟨x, hx⟩ : ∃ x, z.getD m 0 = x := ⟨_, rfl⟩
        obtain ⟨y, hy⟩ : ∃ y, z.getD (m + 1) 0 = y := ⟨_, rfl⟩
        rw [hx] at c0; rw [hy] at c1
        have i0 : (m : Int) < (len : Int) := by omega
        have i1 : (m : Int) + 1 < (len : Int) := by omega
        have HX : Hid (z.getD m 0 = x) := hx
        have HY : Hid (z.getD (m + 1) 0 = y) := hy
        clear hx hy
        by_cases hxy : x ≤ y
        · by_cases h0 : 0 < m
          · have c2 := hc (m - 1) (by omega)
            obtain ⟨u, hu⟩ : ∃ u, z.getD (m - 1) 0 = u := ⟨_, rfl⟩
            rw [hu] at c2
            have HU : Hid (z.getD (m - 1) 0 = u) := hu
            clear hu hc
            have i2 : (0 : Int) < (m : Int) := by omega
            have i3 : (m : Int) - 1 < (len : Int) := by omega
            by_cases hux : x ≤ u
            · go_wp2_with fail
              go_quiet (fail)
              go_wp2_with fail
              go_quiet (fail)
              go_wp2
              go_ret
              exact ⟨ret_bool (Rg.disB_no z m (by rw [hz.out]; exact hlt) hm2 (by unfold Rg.okD; rw [HX.out, HY.out, HU.out]; simp; omega)).symm, _, by first | rfl | (simp only [World.drewN_drewN]; rfl)⟩
            · go_wp2_with fail
              go_quiet (fail)
              go_wp2_with fail
              go_quiet (fail)
              go_wp2
              go_roundg (len - (m + 2))
              case rel =>
                refine ⟨m + 2, _, by omega, by omega, Nat.le_refl _, by go_num, by first | rfl | (simp only [World.drewN_drewN]; rfl), fun j hj h2 => ?_⟩
                by_cases hjm : j < m
                · exact HK.out j hjm h2
                · obtain rfl : j = m := by omega
                  unfold Rg.okD; rw [HX.out, HY.out, HU.out]; simp; omega
              case measure => omega
          · clear hc
            have i2 : decide ((0 : Int) < (m : Int)) = false := decide_eq_false (by omega)
            go_wp2_with fail
            go_quiet (fail)
            go_wp2_with fail
            go_quiet (fail)
            go_wp2
            go_roundg (len - (m + 2))
            case rel =>
              refine ⟨m + 2, _, by omega, by omega, Nat.le_refl _, by go_num, by first | rfl | (simp only [World.drewN_drewN]; rfl), fun j hj h2 => ?_⟩
              obtain rfl : j = m := by omega
              have : j = 0 := by omega
              unfold Rg.okD; rw [HX.out, HY.out]; simp; omega
            case measure => omega
        · clear hc
          go_wp2_with fail
          go_quiet (fail)
          go_wp2
          go_ret
          exact ⟨ret_bool (Rg.disB_no z m (by rw [hz.out]; exact hlt) hm2 (by unfold Rg.okD; rw [HX.out, HY.out]; simp; omega)).symm, _, by first | rfl | (simp only [World.drewN_drewN]; rfl)⟩
      · clear hc
        go_wp2
        go_ret
        exact ⟨ret_bool (Rg.disB_yes z (by rw [hz.out]; exact he) (fun j hj h2 => HK.out j (by have := hz.out; omega) h2)).symm, _, rfl⟩
  · go_enter Try.func10, Try.ntmps10
    go_wp2
    go_ret
    exact ⟨ret_bool (Rg.disB_odd z (by rw [hz.out]; exact he)).symm, 0, rfl⟩

theorem dis_nil (a : Option Addr) (cap : Nat) (w : World) :
    Calls Try.prog 10 #[.slice a 0 cap] w fun e w' => e = .returned (.bool (Rg.disB [])) ∧ ∃ n, w' = w.drewN n := by
  go_enter Try.func10, Try.ntmps10
  go_wp2
  refine wp_loop_rounds 1 ?_
  rw [rounds_succ]
  go_wp2
  go_ret
  exact ⟨rfl, 0, rfl⟩

theorem dis_any (a : Option Addr) (len cap : Nat) (z : List Int) (w : World) (h : Rd w a z) (hz : z.length = len) (hl : len ≤ 140737488355328) :
    Calls Try.prog 10 #[.slice a len cap] w fun e w' => e = .returned (.bool (Rg.disB z)) ∧ ∃ n, w' = w.drewN n := by
  rcases h with rfl | ⟨b, off, rfl, hc⟩
  · subst hz; exact dis_nil a cap w
  · exact dis_some b off len cap z w hz (by rw [← hz]; exact hc) hl

/-! ### zzCanonical -/
set_option maxHeartbeats 1000000 in
theorem can_some (b off len cap : Nat) (z : List Int) (w : World) (hz : Hid (z.length = len)) (hc : ∀ i, i < len → w.cell? ⟨b, off + i, none⟩ = some (.int .u64 (z.getD i 0))) (hl : len ≤ 140737488355328) (hu : U64 z) (hd : Hid (Rg.disB z = true)) :
    Calls Try.prog 12 #[.slice (some ⟨b, off, none⟩) len cap] w fun e w' => e = .returned (.bool (Rg.canB z)) ∧ ∃ n, w' = w.drewN n := by
  have HC : Hid (∀ i, i < len → w.cell? ⟨b, off + i, none⟩ = some (.int .u64 (z.getD i 0))) := hc
  have HU : Hid (U64 z) := hu
  have hev : len % 2 = 0 := by rw [← hz.out]; exact ((Rg.disB_iff z).1 hd.out).1
  clear hc hu
  go_enter Try.func12, Try.ntmps12
  go_wp2_with fail
  refine (dis_some b off len cap z _ hz HC.out hl).mono ?_
  rintro e w' ⟨rfl, n0, rfl⟩
  rw [hd.out]
  go_wp2
  go_loopg [3] len (fun g i wr => ∃ m n : Nat, m % 2 = 0 ∧ (m ≤ len ∨ m = 2) ∧ 2 ≤ m ∧ len - m ≤ g ∧ i = .int .i64 m ∧ wr = w.drewN n ∧ Hid (∀ j, j < m → j % 2 = 0 → Rg.okC z j = true))
  case atStart =>
    refine ⟨2, n0, rfl, .inr rfl, Nat.le_refl _, by omega, rfl, rfl, fun j hj h2 => ?_⟩
    have : j = 0 := by omega
    subst this
    rfl
  case round =>
    obtain ⟨m, n, hm2, hml, hm1, hg, rfl, rfl, HK⟩ := hrel
    by_cases hlt : m < len
    · have c0 := HC.out m hlt
      have c1 := HC.out (m - 1) (by omega)
      have b0 := HU.out m
      have b1 := HU.out (m - 1)
      have hok := ((Rg.disB_iff z).1 hd.out).2 m (by rw [hz.out]; exact hlt) hm2
      have hlo : z.getD (m - 1) 0 < z.getD m 0 := by
        unfold Rg.okD at hok
        simp only [Bool.and_eq_true, Bool.or_eq_true, beq_iff_eq, decide_eq_true_eq] at hok
        rcases hok.2 with h | h
        · omega
        · exact h
      clear hok
      obtain ⟨x, hx⟩ : ∃ x, z.getD m 0 = x := ⟨_, rfl⟩
      obtain ⟨y, hy⟩ : ∃ y, z.getD (m - 1) 0 = y := ⟨_, rfl⟩
      rw [hx] at c0 b0 hlo; rw [hy] at c1 b1 hlo
      obtain ⟨b00, b01⟩ := b0
      obtain ⟨b10, b11⟩ := b1
      have i0 : (m : Int) < (len : Int) := by omega
      have i1 : (m : Int) - 1 < (len : Int) := by omega
      have i2 : (0 : Int) ≤ (m : Int) - 1 := by omega
      have HX : Hid (z.getD m 0 = x) := hx
      have HY : Hid (z.getD (m - 1) 0 = y) := hy
      clear hx hy hml
      by_cases hxy : x - y < 2
      · go_wp2_with fail
        go_quiet (fail)
        go_wp2
        go_ret
        exact ⟨ret_bool (Rg.canB_no z m (by rw [hz.out]; exact hlt) hm2 (by unfold Rg.okC; rw [HX.out, HY.out]; simp; omega)).symm, _, by first | rfl | (simp only [World.drewN_drewN]; rfl)⟩
      · go_wp2_with fail
        go_quiet (fail)
        go_wp2
        go_roundg (len - (m + 2))
        case rel =>
          refine ⟨m + 2, _, by omega, by omega, by omega, Nat.le_refl _, by go_num, by first | rfl | (simp only [World.drewN_drewN]; rfl), fun j hj h2 => ?_⟩
          by_cases hjm : j < m
          · exact HK.out j hjm h2
          · obtain rfl : j = m := by omega
            unfold Rg.okC; rw [HX.out, HY.out]; simp; omega
        case measure => omega
    · clear hml
      go_wp2
      go_ret
      exact ⟨ret_bool (Rg.canB_yes z hd.out (fun j hj h2 => HK.out j (by have := hz.out; omega) h2)).symm, _, rfl⟩

theorem can_no (a : Option Addr) (len cap : Nat) (z : List Int) (w : World) (h : Rd w a z) (hz : Hid (z.length = len)) (hl : len ≤ 140737488355328) (hd : Hid (Rg.disB z = false)) :
    Calls Try.prog 12 #[.slice a len cap] w fun e w' => e = .returned (.bool (Rg.canB z)) ∧ ∃ n, w' = w.drewN n := by
  go_enter Try.func12, Try.ntmps12
  go_wp2_with fail
  refine (dis_any a len cap z _ h hz.out hl).mono ?_
  rintro e w' ⟨rfl, n0, rfl⟩
  rw [hd.out]
  go_wp2
  go_ret
  exact ⟨ret_bool (Rg.canB_dis z hd.out).symm, n0, rfl⟩

theorem can_nil (a : Option Addr) (cap : Nat) (w : World) :
    Calls Try.prog 12 #[.slice a 0 cap] w fun e w' => e = .returned (.bool (Rg.canB [])) ∧ ∃ n, w' = w.drewN n := by
  go_enter Try.func12, Try.ntmps12
  go_wp2_with fail
  refine (dis_nil a cap _).mono ?_
  rintro e w' ⟨rfl, n0, rfl⟩
  rw [show Rg.disB [] = true from rfl]
  go_wp2
  refine wp_loop_rounds 1 ?_
  rw [rounds_succ]
  go_wp2
  go_ret
  exact ⟨rfl, n0, rfl⟩

theorem can_any (a : Option Addr) (len cap : Nat) (z : List Int) (w : World) (h : Rd w a z) (hz : z.length = len) (hl : len ≤ 140737488355328) (hu : U64 z) :
    Calls Try.prog 12 #[.slice a len cap] w fun e w' => e = .returned (.bool (Rg.canB z)) ∧ ∃ n, w' = w.drewN n := by
  cases hd : Rg.disB z
  · exact can_no a len cap z w h hz hl hd
  · rcases h with rfl | ⟨b, off, rfl, hc⟩
    · subst hz; exact can_nil a cap w
    · exact can_some b off len cap z w hz (by rw [← hz]; exact hc) hl hu hd

/-! ### zzHas -/
set_option maxHeartbeats 1000000 in
theorem has_some (b off len cap : Nat) (z : List Int) (q : Int) (w : World) (hz : Hid (z.length = len)) (hc : ∀ i, i < len → w.cell? ⟨b, off + i, none⟩ = some (.int .u64 (z.getD i 0))) (hl : len ≤ 140737488355328) :
    Calls Try.prog 13 #[.slice (some ⟨b, off, none⟩) len cap, .int .u64 q] w fun e w' => e = .returned (.bool (Rg.hasB z q)) ∧ w = w' := by
  have HC : Hid (∀ i, i < len → w.cell? ⟨b, off + i, none⟩ = some (.int .u64 (z.getD i 0))) := hc
  clear hc
  go_enter Try.func13, Try.ntmps13
  go_wp2
  go_loopg [5] len (fun g i wr => ∃ m : Nat, m % 2 = 0 ∧ m ≤ len + 1 ∧ len - m ≤ g ∧ i = .int .i64 m ∧ wr = w ∧ Hid (∀ j, j < m → j % 2 = 0 → Rg.okH z q j = false))
  case atStart => exact ⟨0, rfl, Nat.zero_le _, Nat.le_refl _, rfl, rfl, fun j hj => absurd hj (Nat.not_lt_zero _)⟩
  case round =>
    obtain ⟨m, hm2, hml, hg, rfl, rfl, HK⟩ := hrel
    by_cases hlt : m + 1 < len
    · have c0 := HC.out m (by omega)
      have c1 := HC.out (m + 1) hlt
      obtain ⟨x, hx⟩ : ∃ x, z.getD m 0 = x := ⟨_, rfl⟩
      obtain ⟨y, hy⟩ : ∃ y, z.getD (m + 1) 0 = y := ⟨_, rfl⟩
      rw [hx] at c0; rw [hy] at c1
      have i0 : (m : Int) < (len : Int) := by omega
      have i1 : (m : Int) + 1 < (len : Int) := by omega
      have HX : Hid (z.getD m 0 = x) := hx
      have HY : Hid (z.getD (m + 1) 0 = y) := hy
      clear hx hy
      by_cases hxq : x ≤ q
      · by_cases hqy : q ≤ y
        · go_wp2
          go_ret
          exact ⟨ret_bool (Rg.hasB_yes z q m hm2 (by rw [hz.out]; exact hlt) (by unfold Rg.okH; rw [HX.out, HY.out]; simp; omega)).symm, rfl⟩
        · go_wp2
          go_roundg (len - (m + 2))
          case rel =>
            refine ⟨m + 2, by omega, by omega, Nat.le_refl _, by go_num, rfl, fun j hj h2 => ?_⟩
            by_cases hjm : j < m
            · exact HK.out j hjm h2
            · obtain rfl : j = m := by omega
              unfold Rg.okH; rw [HX.out, HY.out]; simp; omega
          case measure => omega
      · have hd : decide (x ≤ q) = false := decide_eq_false hxq
        go_wp2
        go_roundg (len - (m + 2))
        case rel =>
          refine ⟨m + 2, by omega, by omega, Nat.le_refl _, by go_num, rfl, fun j hj h2 => ?_⟩
          by_cases hjm : j < m
          · exact HK.out j hjm h2
          · obtain rfl : j = m := by omega
            unfold Rg.okH; rw [HX.out, HY.out]; simp; omega
        case measure => omega
    · go_wp2
      go_ret
      exact ⟨ret_bool (Rg.hasB_no z q (fun j h2 hj => HK.out j (by have := hz.out; omega) h2)).symm, rfl⟩

theorem has_nil (a : Option Addr) (cap : Nat) (q : Int) (w : World) :
    Calls Try.prog 13 #[.slice a 0 cap, .int .u64 q] w fun e w' => e = .returned (.bool (Rg.hasB [] q)) ∧ w = w' := by
  go_enter Try.func13, Try.ntmps13
  go_wp2
  refine wp_loop_rounds 1 ?_
  rw [rounds_succ]
  go_wp2
  go_ret
  exact ⟨rfl, rfl⟩

theorem has_any (a : Option Addr) (len cap : Nat) (z : List Int) (q : Int) (w : World) (h : Rd w a z) (hz : z.length = len) (hl : len ≤ 140737488355328) :
    Calls Try.prog 13 #[.slice a len cap, .int .u64 q] w fun e w' => e = .returned (.bool (Rg.hasB z q)) ∧ w = w' := by
  rcases h with rfl | ⟨b, off, rfl, hc⟩
  · subst hz; exact has_nil a cap q w
  · exact has_some b off len cap z q w hz (by rw [← hz]; exact hc) hl

/-! ### zzSame -/
theorem same_len (a1 a2 : Option Addr) (l1 c1 l2 c2 : Nat) (z1 z2 : List Int) (w : World) (hz1 : Hid (z1.length = l1)) (hz2 : Hid (z2.length = l2)) (_h1 : l1 ≤ 140737488355328) (_h2 : l2 ≤ 140737488355328) (hne : l1 ≠ l2) :
    Calls Try.prog 16 #[.slice a1 l1 c1, .slice a2 l2 c2] w fun e w' => e = .returned (.bool (Rg.sameB z1 z2)) ∧ ∃ n, w' = w.drewN n := by
  have hd : ((l1 : Int) != (l2 : Int)) = true := by rw [bne_iff_ne]; omega
  go_enter Try.func16, Try.ntmps16
  go_wp2
  go_ret
  exact ⟨ret_bool (Rg.sameB_len z1 z2 (by rw [hz1.out, hz2.out]; exact hne)).symm, 0, rfl⟩

theorem same_nil (a1 a2 : Option Addr) (c1 c2 : Nat) (w : World) :
    Calls Try.prog 16 #[.slice a1 0 c1, .slice a2 0 c2] w fun e w' => e = .returned (.bool (Rg.sameB [] [])) ∧ ∃ n, w' = w.drewN n := by
  go_enter Try.func16, Try.ntmps16
  go_wp2
  refine wp_loop_rounds 1 ?_
  rw [rounds_succ]
  go_wp2
  go_ret
  exact ⟨rfl, 0, rfl⟩

set_option maxHeartbeats 1000000 in
theorem same_some (b1 o1 b2 o2 len c1 c2 : Nat) (z1 z2 : List Int) (w : World) (hz1 : Hid (z1.length = len)) (hz2 : Hid (z2.length = len)) (hl : len ≤ 140737488355328)
    (hc1 : ∀ i, i < len → w.cell? ⟨b1, o1 + i, none⟩ = some (.int .u64 (z1.getD i 0))) (hc2 : ∀ i, i < len → w.cell? ⟨b2, o2 + i, none⟩ = some (.int .u64 (z2.getD i 0))) :
    Calls Try.prog 16 #[.slice (some ⟨b1, o1, none⟩) len c1, .slice (some ⟨b2, o2, none⟩) len c2] w fun e w' => e = .returned (.bool (Rg.sameB z1 z2)) ∧ ∃ n, w' = w.drewN n := by
  have HC1 : Hid (∀ i, i < len → w.cell? ⟨b1, o1 + i, none⟩ = some (.int .u64 (z1.getD i 0))) := hc1
  have HC2 : Hid (∀ i, i < len → w.cell? ⟨b2, o2 + i, none⟩ = some (.int .u64 (z2.getD i 0))) := hc2
  clear hc1 hc2
  go_enter Try.func16, Try.ntmps16
  go_wp2
  go_loopg [5] len (fun g i wr => ∃ m n : Nat, m ≤ len ∧ len - m ≤ g ∧ i = .int .i64 m ∧ wr = w.drewN n ∧ Hid (∀ j, j < m → z1.getD j 0 = z2.getD j 0))
  case atStart => exact ⟨0, 0, Nat.zero_le _, Nat.le_refl _, rfl, rfl, fun j hj => absurd hj (Nat.not_lt_zero _)⟩
  case round =>
    obtain ⟨m, n, hml, hg, rfl, rfl, HK⟩ := hrel
    by_cases hlt : m < len
    · have c0 := HC1.out m hlt
      have c1 := HC2.out m hlt
      obtain ⟨x, hx⟩ : ∃ x, z1.getD m 0 = x := ⟨_, rfl⟩
      obtain ⟨y, hy⟩ : ∃ y, z2.getD m 0 = y := ⟨_, rfl⟩
      rw [hx] at c0; rw [hy] at c1
      have i0 : (m : Int) < (len : Int) := by omega
      have HX : Hid (z1.getD m 0 = x) := hx
      have HY : Hid (z2.getD m 0 = y) := hy
      clear hx hy
      by_cases hxy : x = y
      · subst hxy
        go_wp2_with fail
        go_quiet (fail)
        go_wp2
        go_roundg (len - (m + 1))
        case rel =>
          refine ⟨m + 1, _, by omega, Nat.le_refl _, by go_num, by first | rfl | (simp only [World.drewN_drewN]; rfl), fun j hj => ?_⟩
          by_cases hjm : j < m
          · exact HK.out j hjm
          · obtain rfl : j = m := by omega
            rw [HX.out, HY.out]
        case measure => omega
      · have hd : (x != y) = true := by rw [bne_iff_ne]; exact hxy
        go_wp2_with fail
        go_quiet (fail)
        go_wp2
        go_ret
        exact ⟨ret_bool (Rg.sameB_no z1 z2 m (by rw [HX.out, HY.out]; exact hxy)).symm, _, by first | rfl | (simp only [World.drewN_drewN]; rfl)⟩
    · go_wp2
      go_ret
      exact ⟨ret_bool (Rg.sameB_yes z1 z2 (by rw [hz1.out, hz2.out]) (fun j hj => HK.out j (by have := hz1.out; omega))).symm, _, rfl⟩

theorem same_any (a1 a2 : Option Addr) (l1 c1 l2 c2 : Nat) (z1 z2 : List Int) (w : World) (r1 : Rd w a1 z1) (r2 : Rd w a2 z2) (hz1 : z1.length = l1) (hz2 : z2.length = l2) (h1 : l1 ≤ 140737488355328) (h2 : l2 ≤ 140737488355328) :
    Calls Try.prog 16 #[.slice a1 l1 c1, .slice a2 l2 c2] w fun e w' => e = .returned (.bool (Rg.sameB z1 z2)) ∧ ∃ n, w' = w.drewN n := by
  by_cases hne : l1 = l2
  · subst hne
    rcases r1 with rfl | ⟨b1, o1, rfl, hc1⟩
    · subst hz1
      obtain rfl : z2 = [] := List.eq_nil_of_length_eq_zero hz2
      exact same_nil a1 a2 c1 c2 w
    · rcases r2 with rfl | ⟨b2, o2, rfl, hc2⟩
      · subst hz2
        obtain rfl : z1 = [] := List.eq_nil_of_length_eq_zero hz1
        exact same_nil _ a2 c1 c2 w
      · exact same_some b1 o1 b2 o2 l1 c1 c2 z1 z2 w hz1 hz2 h1 (by rw [← hz1]; exact hc1) (by rw [← hz2]; exact hc2)
  · exact same_len a1 a2 l1 c1 l2 c2 z1 z2 w hz1 hz2 h1 h2 hne

/-! ### zzByFirst -/
set_option maxHeartbeats 1000000 in
theorem byf_some (b off len cap : Nat) (z : List Int) (w : World) (hz : Hid (z.length = len)) (hc : ∀ i, i < len → w.cell? ⟨b, off + i, none⟩ = some (.int .u64 (z.getD i 0))) (hl : len ≤ 140737488355328) :
    Calls Try.prog 19 #[.slice (some ⟨b, off, none⟩) len cap] w fun e w' => e = .returned (.bool (Rg.byfB z)) ∧ ∃ n, w' = w.drewN n := by
  by_cases he : len % 2 = 0
  · have he2 : ((len : Int) % 2 != 0) = false := by rw [bne_eq_false_iff_eq]; omega
    go_enter Try.func19, Try.ntmps19
    go_wp2
    go_loopg [3] len (fun g i wr => ∃ m n : Nat, m % 2 = 0 ∧ m ≤ len ∧ len - m ≤ g ∧ i = .int .i64 m ∧ wr = w.drewN n ∧ Hid (∀ j, j < m → j % 2 = 0 → Rg.okF z j = true))
    case atStart => exact ⟨0, 0, rfl, Nat.zero_le _, Nat.le_refl _, rfl, rfl, fun j hj => absurd hj (Nat.not_lt_zero _)⟩
    case round =>
      obtain ⟨m, n, hm2, hml, hg, rfl, rfl, HK⟩ := hrel
      by_cases hlt : m < len
      · have c0 := hc m hlt
        have c1 := hc (m + 1) (by omega)
        obtain ⟨x, hx⟩ : ∃ x, z.getD m 0 = x := ⟨_, rfl⟩
        obtain ⟨y, hy⟩ : ∃ y, z.getD (m + 1) 0 = y := ⟨_, rfl⟩
        rw [hx] at c0; rw [hy] at c1
        have i0 : (m : Int) < (len : Int) := by omega
        have i1 : (m : Int) + 1 < (len : Int) := by omega
        have HX : Hid (z.getD m 0 = x) := hx
        have HY : Hid (z.getD (m + 1) 0 = y) := hy
        clear hx hy
        by_cases hxy : x ≤ y
        · by_cases h0 : 0 < m
          · have c2 := hc (m - 2) (by omega)
            obtain ⟨u, hu⟩ : ∃ u, z.getD (m - 2) 0 = u := ⟨_, rfl⟩
            rw [hu] at c2
            have HU : Hid (z.getD (m - 2) 0 = u) := hu
            clear hu hc
            have i2 : (0 : Int) < (m : Int) := by omega
            have i3 : (m : Int) - 2 < (len : Int) := by omega
            have i4 : (0 : Int) ≤ (m : Int) - 2 := by omega
            by_cases hux : x < u
            · go_wp2_with fail
              go_quiet (fail)
              go_wp2_with fail
              go_quiet (fail)
              go_wp2
              go_ret
              exact ⟨ret_bool (Rg.byfB_no z m (by rw [hz.out]; exact hlt) hm2 (by unfold Rg.okF; rw [HX.out, HY.out, HU.out]; simp; omega)).symm, _, by first | rfl | (simp only [World.drewN_drewN]; rfl)⟩
            · go_wp2_with fail
              go_quiet (fail)
              go_wp2_with fail
              go_quiet (fail)
              go_wp2
              go_roundg (len - (m + 2))
              case rel =>
                refine ⟨m + 2, _, by omega, by omega, Nat.le_refl _, by go_num, by first | rfl | (simp only [World.drewN_drewN]; rfl), fun j hj h2 => ?_⟩
                by_cases hjm : j < m
                · exact HK.out j hjm h2
                · obtain rfl : j = m := by omega
                  unfold Rg.okF; rw [HX.out, HY.out, HU.out]; simp; omega
              case measure => omega
          · clear hc
            have i2 : decide ((0 : Int) < (m : Int)) = false := decide_eq_false (by omega)
            go_wp2_with fail
            go_quiet (fail)
            go_wp2_with fail
            go_quiet (fail)
            go_wp2
            go_roundg (len - (m + 2))
            case rel =>
              refine ⟨m + 2, _, by omega, by omega, Nat.le_refl _, by go_num, by first | rfl | (simp only [World.drewN_drewN]; rfl), fun j hj h2 => ?_⟩
              obtain rfl : j = m := by omega
              have : j = 0 := by omega
              unfold Rg.okF; rw [HX.out, HY.out]; simp; omega
            case measure => omega
        · clear hc
          go_wp2_with fail
          go_quiet (fail)
          go_wp2
          go_ret
          exact ⟨ret_bool (Rg.byfB_no z m (by rw [hz.out]; exact hlt) hm2 (by unfold Rg.okF; rw [HX.out, HY.out]; simp; omega)).symm, _, by first | rfl | (simp only [World.drewN_drewN]; rfl)⟩
      · clear hc
        go_wp2
        go_ret
        exact ⟨ret_bool (Rg.byfB_yes z (by rw [hz.out]; exact he) (fun j hj h2 => HK.out j (by have := hz.out; omega) h2)).symm, _, rfl⟩
  · go_enter Try.func19, Try.ntmps19
    go_wp2
    go_ret
    exact ⟨ret_bool (Rg.byfB_odd z (by rw [hz.out]; exact he)).symm, 0, rfl⟩

theorem byf_nil (a : Option Addr) (cap : Nat) (w : World) :
    Calls Try.prog 19 #[.slice a 0 cap] w fun e w' => e = .returned (.bool (Rg.byfB [])) ∧ ∃ n, w' = w.drewN n := by
  go_enter Try.func19, Try.ntmps19
  go_wp2
  refine wp_loop_rounds 1 ?_
  rw [rounds_succ]
  go_wp2
  go_ret
  exact ⟨rfl, 0, rfl⟩

theorem byf_any (a : Option Addr) (len cap : Nat) (z : List Int) (w : World) (h : Rd w a z) (hz : z.length = len) (hl : len ≤ 140737488355328) :
    Calls Try.prog 19 #[.slice a len cap] w fun e w' => e = .returned (.bool (Rg.byfB z)) ∧ ∃ n, w' = w.drewN n := by
  rcases h with rfl | ⟨b, off, rfl, hc⟩
  · subst hz; exact byf_nil a cap w
  · exact byf_some b off len cap z w hz (by rw [← hz]; exact hc) hl

end Go.Proofs.Qxb6600453a
