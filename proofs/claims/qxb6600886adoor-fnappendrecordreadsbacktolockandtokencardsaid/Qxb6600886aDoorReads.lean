/-
  THE WALKS OF zzHasSpaceOrNewline (7), zzIndexByteFrom (10), zzSameText (11), zzParseCanonicalDecimal (12).
-/
import Derived.Test.Qxb6600886aDoorPlain
import Derived.Deep.QuietTactic
import Derived.BigQuiet
import Derived.BigRegion
namespace Go.Proofs.Qxb6600886aDoor
open Go.RowKit

/-- no byte of s is a space or a newline -/
def Clean (s : ByteArray) : Prop := ∀ i (h : i < s.size), (s[i].toNat : Int) ≠ 32 ∧ (s[i].toNat : Int) ≠ 10

set_option maxHeartbeats 1000000 in
theorem has_any (s : ByteArray) (w : World) (hl : s.size ≤ 1048576) :
    Calls Tryd.prog 7 #[.string s] w fun e w' => ∃ b, e = .returned (.bool b) ∧ (b = false → Clean s) ∧ w = w' := by
  go_enter Tryd.func7, Tryd.ntmps7
  go_wp2
  go_loopg [3] (s.size + 1) (fun g i wr => ∃ k : Nat, k ≤ s.size ∧ s.size + 1 - k ≤ g ∧ i = .int .i64 k ∧ wr = w ∧ Hid (∀ j (h : j < s.size), j < k → (s[j].toNat : Int) ≠ 32 ∧ (s[j].toNat : Int) ≠ 10))
  case atStart => exact ⟨0, Nat.zero_le _, by omega, rfl, rfl, fun j _ hj => absurd hj (Nat.not_lt_zero _)⟩
  case round =>
    obtain ⟨k, hk, hg, rfl, rfl, HK⟩ := hrel
    by_cases hlt : k < s.size
    · go_wp2
      · go_ret
        exact ⟨true, rfl, fun h => absurd h (by decide), rfl⟩
      · go_ret
        exact ⟨true, rfl, fun h => absurd h (by decide), rfl⟩
      · have hn : ((s[k].toNat : Int) == 32) = false ∧ ((s[k].toNat : Int) == 10) = false := by assumption
        go_roundg (s.size + 1 - (k + 1))
        case rel =>
          refine ⟨k + 1, by omega, Nat.le_refl _, by go_num, rfl, fun j h hj => ?_⟩
          by_cases hjk : j < k
          · exact HK.out j h hjk
          · obtain rfl : j = k := by omega
            exact ⟨by simpa using hn.1, by simpa using hn.2⟩
        case measure => omega
    · go_wp2
      go_ret
      exact ⟨false, rfl, fun _ j h => HK.out j h (by omega), rfl⟩

set_option maxHeartbeats 1000000 in
theorem idx_found (b off len cap : Nat) (z : List Int) (c : Int) (f k : Nat) (w : World) (hc : Hid (∀ i, i < len → w.cell? ⟨b, off + i, none⟩ = some (.int .u8 (z.getD i 0)))) (hl : len ≤ 1073741824) (hfk : f ≤ k) (hk : k < len)
    (hz : Hid (z.getD k 0 = c)) (hn : Hid (∀ j, f ≤ j → j < k → z.getD j 0 ≠ c)) :
    Calls Tryd.prog 10 #[.slice (some ⟨b, off, none⟩) len cap, .int .u8 c, .int .i64 f] w fun e w' => e = .returned (.int .i64 k) ∧ w = w' := by
  go_enter Tryd.func10, Tryd.ntmps10
  go_wp2
  go_loopg [7] (len + 1) (fun g i wr => ∃ m : Nat, f ≤ m ∧ m ≤ k ∧ len + 1 - m ≤ g ∧ i = .int .i64 m ∧ wr = w)
  case atStart => exact ⟨f, Nat.le_refl _, hfk, by omega, rfl, rfl⟩
  case round =>
    obtain ⟨m, hfm, hmk, hg, rfl, rfl⟩ := hrel
    have c0 := hc.out m (by omega)
    obtain ⟨x, hx⟩ : ∃ x, z.getD m 0 = x := ⟨_, rfl⟩
    rw [hx] at c0
    have HX : Hid (z.getD m 0 = x) := hx
    clear hx
    have i0 : (m : Int) < (len : Int) := by omega
    by_cases hm : m = k
    · subst hm
      have e1 : x = c := by rw [← HX.out, hz.out]
      subst e1
      go_wp2
      go_ret
      exact ⟨rfl, rfl⟩
    · have e1 : (x == c) = false := by rw [beq_eq_false_iff_ne, ← HX.out]; exact hn.out m hfm (by omega)
      go_wp2
      go_roundg (len + 1 - (m + 1))
      case rel => exact ⟨m + 1, by omega, by omega, Nat.le_refl _, by go_num, rfl⟩
      case measure => omega

set_option maxHeartbeats 1000000 in
theorem text_same (b off cap : Nat) (s : ByteArray) (w : World) (hc : Hid (∀ i (h : i < s.size), w.cell? ⟨b, off + i, none⟩ = some (.int .u8 (s[i].toNat : Int)))) (hl : s.size ≤ 1048576) :
    Calls Tryd.prog 11 #[.slice (some ⟨b, off, none⟩) s.size cap, .string s] w fun e w' => e = .returned (.bool true) ∧ ∃ n, w' = w.drewN n := by
  go_enter Tryd.func11, Tryd.ntmps11
  go_wp2
  go_loopg [5] (s.size + 1) (fun g i wr => ∃ m n : Nat, m ≤ s.size ∧ s.size + 1 - m ≤ g ∧ i = .int .i64 m ∧ wr = w.drewN n)
  case atStart => exact ⟨0, 0, Nat.zero_le _, by omega, rfl, rfl⟩
  case round =>
    obtain ⟨m, n, hm, hg, rfl, rfl⟩ := hrel
    by_cases hlt : m < s.size
    · have c0 := hc.out m hlt
      have i0 : (m : Int) < (s.size : Int) := by omega
      go_wp2_with fail
      go_quiet (fail)
      go_wp2
      go_roundg (s.size + 1 - (m + 1))
      case rel => exact ⟨m + 1, _, by omega, Nat.le_refl _, by go_num, by first | rfl | (simp only [World.drewN_drewN]; rfl)⟩
      case measure => omega
    · go_wp2
      go_ret
      exact ⟨rfl, _, rfl⟩

set_option maxHeartbeats 1600000 in
theorem parse_any (b off cap u : Nat) (hu64 : u < 18446744073709551616) (w : World) (hc : Hid (∀ i, i < Lib.nDigits u → w.cell? ⟨b, off + i, none⟩ = some (.int .u8 (dI u i : Int)))) :
    Calls Tryd.prog 12 #[.slice (some ⟨b, off, none⟩) (Lib.nDigits u) cap] w fun e w' => e = .returned (.tuple #[.int .u64 u, .bool true]) ∧ w = w' := by
  have hd := Lib.nDigits_le20 u hu64
  have hd1 := Lib.nDigits_pos u
  obtain ⟨N, hN⟩ : ∃ N, Lib.nDigits u = N := ⟨_, rfl⟩
  rw [hN] at hc hd hd1 ⊢
  have HN : Hid (Lib.nDigits u = N) := hN
  clear hN
  have c0 := hc.out 0 (by omega)
  obtain ⟨x0, hx0⟩ : ∃ x, dI u 0 = x := ⟨_, rfl⟩
  rw [hx0] at c0
  have hx1 : 1 < N → x0 ≠ 48 := fun h => by rw [← hx0]; exact first_digit u (by rw [HN.out]; exact h)
  clear hx0
  have en : ((N : Int) == 0) = false := by rw [beq_eq_false_iff_ne]; omega
  have e20 : decide ((20 : Int) < (N : Int)) = false := by rw [decide_eq_false_iff_not]; omega
  by_cases h1 : 1 < N
  · have e0 : ((x0 : Int) == 48) = false := by rw [beq_eq_false_iff_ne]; have := hx1 h1; omega
    have i1 : (0 : Int) < (N : Int) := by omega
    have c0' : w.cell? ⟨b, off, none⟩ = some (.int .u8 (x0 : Int)) := by simpa using c0
    clear hx1 c0
    go_enter Tryd.func12, Tryd.ntmps12
    go_wp2
    go_loopg [4, 5] (N + 1) (fun g v i wr => ∃ k : Nat, k ≤ N ∧ N + 1 - k ≤ g ∧ i = .int .i64 k ∧ v = .int .u64 (pre u k : Int) ∧ wr = w)
    case atStart => exact ⟨0, Nat.zero_le _, by omega, rfl, by rw [pre_zero]; rfl, rfl⟩
    case round =>
      obtain ⟨k, hk, hg, rfl, rfl, rfl⟩ := hrel
      by_cases hlt : k < N
      · have ck := hc.out k hlt
        have hlo := dI_lo u k
        have hs := pre_succ u k (by rw [HN.out]; exact hlt)
        have hpl := pre_le u (k + 1)
        obtain ⟨p', hp'⟩ : ∃ p, pre u (k + 1) = p := ⟨_, rfl⟩
        have HP : Hid (pre u (k + 1) = p') := hp'
        rw [hp'] at hs hpl
        clear hp'
        generalize pre u k = p at hs ⊢
        generalize dI u k = x at hs hlo ck ⊢
        have HS : Hid (p' = p * 10 + (x - 48)) := hs
        have HL : Hid (p' ≤ u) := hpl
        clear hs hpl
        have i0 : (k : Int) < (N : Int) := by omega
        have l0 : decide ((x : Int) < 48) = false := by rw [decide_eq_false_iff_not]; omega
        have l1 : decide ((57 : Int) < (x : Int)) = false := by rw [decide_eq_false_iff_not]; omega
        have hps : p' = p * 10 + (x - 48) := HS.out
        have hpl : p' ≤ u := HL.out
        have l2 : decide ((18446744073709551615 - ((x : Int) - 48)) / 10 < (p : Int)) = false := by rw [decide_eq_false_iff_not]; omega
        have l3 : (p : Int) ≤ (18446744073709551615 - ((x : Int) - 48)) / 10 := by omega
        clear hps hpl
        go_wp2
        go_roundg (N + 1 - (k + 1))
        case rel => exact ⟨k + 1, by omega, Nat.le_refl _, by go_num, by rw [HP.out, HS.out]; congr 1; omega, rfl⟩
        case measure => omega
      · have e9 : k = N := by omega
        subst e9
        go_wp2
        go_ret2
        rw [← HN.out, pre_all]
        exact ⟨rfl, rfl⟩
  · have e0 : decide ((1 : Int) < (N : Int)) = false := by rw [decide_eq_false_iff_not]; omega
    clear hx1 c0
    go_enter Tryd.func12, Tryd.ntmps12
    go_wp2
    go_loopg [4, 5] (N + 1) (fun g v i wr => ∃ k : Nat, k ≤ N ∧ N + 1 - k ≤ g ∧ i = .int .i64 k ∧ v = .int .u64 (pre u k : Int) ∧ wr = w)
    case atStart => exact ⟨0, Nat.zero_le _, by omega, rfl, by rw [pre_zero]; rfl, rfl⟩
    case round =>
      obtain ⟨k, hk, hg, rfl, rfl, rfl⟩ := hrel
      by_cases hlt : k < N
      · have ck := hc.out k hlt
        have hlo := dI_lo u k
        have hs := pre_succ u k (by rw [HN.out]; exact hlt)
        have hpl := pre_le u (k + 1)
        obtain ⟨p', hp'⟩ : ∃ p, pre u (k + 1) = p := ⟨_, rfl⟩
        have HP : Hid (pre u (k + 1) = p') := hp'
        rw [hp'] at hs hpl
        clear hp'
        generalize pre u k = p at hs ⊢
        generalize dI u k = x at hs hlo ck ⊢
        have HS : Hid (p' = p * 10 + (x - 48)) := hs
        have HL : Hid (p' ≤ u) := hpl
        clear hs hpl
        have i0 : (k : Int) < (N : Int) := by omega
        have l0 : decide ((x : Int) < 48) = false := by rw [decide_eq_false_iff_not]; omega
        have l1 : decide ((57 : Int) < (x : Int)) = false := by rw [decide_eq_false_iff_not]; omega
        have hps : p' = p * 10 + (x - 48) := HS.out
        have hpl : p' ≤ u := HL.out
        have l2 : decide ((18446744073709551615 - ((x : Int) - 48)) / 10 < (p : Int)) = false := by rw [decide_eq_false_iff_not]; omega
        have l3 : (p : Int) ≤ (18446744073709551615 - ((x : Int) - 48)) / 10 := by omega
        clear hps hpl
        go_wp2
        go_roundg (N + 1 - (k + 1))
        case rel => exact ⟨k + 1, by omega, Nat.le_refl _, by go_num, by rw [HP.out, HS.out]; congr 1; omega, rfl⟩
        case measure => omega
      · have e9 : k = N := by omega
        subst e9
        go_wp2
        go_ret2
        rw [← HN.out, pre_all]
        exact ⟨rfl, rfl⟩

end Go.Proofs.Qxb6600886aDoor
