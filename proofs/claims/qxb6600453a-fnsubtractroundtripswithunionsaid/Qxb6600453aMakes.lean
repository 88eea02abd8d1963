/-
  THE WALKS OF zzToRanges (24) AND zzFromRanges (22).
-/
import Derived.Test.Qxb6600453aProg
import Derived.Test.Qxb6600453aCells
import Derived.WalkKit
import Derived.WalkSpells
import Derived.StillTactics
import Derived.OwnWalk
import Derived.Laws.Pointers
import Derived.Deep.LoopGhost
import Derived.Deep.RegionHeld3
import Derived.Deep.AppendLies
import Derived.KernelRfl
namespace Go.Proofs.Qxb6600453a
open Go.RowKit

theorem info35 : (Try.prog.info? 35).map (fun i => (i.zero, i.size, i.bytes)) = some (some (.agg #[.int .u64 0, .int .u64 0]), 2, 16) := by kernel_rfl
theorem info23 : (Try.prog.info? 23).map (fun i => (i.zero, i.size, i.bytes)) = some (some (.int .u64 0), 1, 8) := by kernel_rfl

theorem wrap_i64 {n : Int} (h : -9223372036854775808 ≤ n ∧ n ≤ 9223372036854775807) : IntKind.i64.wrap n = n := IntWalk.i64_in n h

set_option maxRecDepth 100000 in
set_option maxHeartbeats 3200000 in
theorem to_some (b off len cap : Nat) (z : List Int) (w : World) (hz : Hid (z.length = len)) (hc : ∀ i, i < len → w.cell? ⟨b, off + i, none⟩ = some (.int .u64 (z.getD i 0))) (hl : len ≤ 1099511627776) (hbw : b < w.heap.size) :
    Calls Try.prog 24 #[.slice (some ⟨b, off, none⟩) len cap] w fun e w' => ∃ a n c, e = .returned (.slice a n c) ∧ RdP w' a (toR z) ∧ n = (toR z).length ∧ n ≤ c ∧ Below w.heap.size w w' := by
  have HC : Hid (∀ i, i < len → w.cell? ⟨b, off + i, none⟩ = some (.int .u64 (z.getD i 0))) := hc
  clear hc
  obtain ⟨i0, hi0, hz0, hz1, hz2⟩ := info_parts info35
  go_enter Try.func24, Try.ntmps24
  go_wp2_with (at_make; refine wpList_make_own _ rfl _ _ 31 rfl w.heap.size 35 i0 _ 2 Try.underlying31 hi0 hz0 hz1 .i64 .i64 _ (len / 2) rfl rfl (by omega) (by rw [hz2]; omega) (by unfold maxLen; omega) (Nat.le_refl _) ?_; intro w1 hown1 hgrow1)
  have hb1 : Below w.heap.size w w1 := (Below.refl _ _).grown hgrow1 (Nat.le_refl _) (fun k e => by cases e)
  clear hgrow1
  go_loopg [3, 4] (len + 1) (fun g v i wr => ∃ k m : Nat, Hid (m = k * 2) ∧ m ≤ len ∧ len + 1 - m ≤ g ∧ i = .int .i64 m ∧ wr.ownsRow w.heap.size 35 2 v k (cel ((toR z).take k)) ∧ Below w.heap.size w wr)
  case atStart => exact ⟨0, 0, rfl, by omega, by omega, rfl, hown1, hb1⟩
  case round =>
    obtain ⟨k, m, HM, hk, hg, rfl, hown, hb⟩ := hrel
    clear hown1 hb1
    by_cases hlt : m + 1 < len
    · have c0 : wr.cell? ⟨b, off + m, none⟩ = some (.int .u64 (z.getD m 0)) := (hb.cell (p := ⟨b, off + m, none⟩) hbw).trans (HC.out _ (by omega))
      have c1 : wr.cell? ⟨b, off + (m + 1), none⟩ = some (.int .u64 (z.getD (m + 1) 0)) := (hb.cell (p := ⟨b, off + (m + 1), none⟩) hbw).trans (HC.out _ (by omega))
      obtain ⟨x, hx⟩ : ∃ x, z.getD m 0 = x := ⟨_, rfl⟩
      obtain ⟨y, hy⟩ : ∃ y, z.getD (m + 1) 0 = y := ⟨_, rfl⟩
      rw [hx] at c0; rw [hy] at c1
      have HX : Hid (z.getD m 0 = x) := hx
      have HY : Hid (z.getD (m + 1) 0 = y) := hy
      clear hx hy
      have j0 : (0 : Int) ≤ (m : Int) := by omega
      have j1 : (m : Int) < (len : Int) := by omega
      have j2 : (m : Int) + 1 < (len : Int) := by omega
      have j3 : (0 : Int) ≤ (m : Int) + 1 := by omega
      have j4 : IntKind.i64.wrap ((m : Int) + 1) = (m : Int) + 1 := wrap_i64 (by omega)
      have j5 : ((m : Int) + 1).toNat = m + 1 := by omega
      have hsz := hb.size
      have hne : u3.ownBlock ≠ some b := fun e => by have := (hown.lt b e).1; omega
      have hk2 : k + 1 ≤ maxLen := by have := HM.out; unfold maxLen; omega
      have hk3 : (k + 1) * 16 ≤ 140737488355328 := by have := HM.out; omega
      have HO : Hid (wr.ownsRow w.heap.size 35 2 u3 k (cel ((toR z).take k))) := hown
      have HB : Hid (Below w.heap.size w wr) := hb
      clear hown hb
      go_wp2_with fail
      go_region_held3 (fun w' => w'.cell? ⟨b, off + m, none⟩ = some (.int .u64 x) ∧ w'.cell? ⟨b, off + (m + 1), none⟩ = some (.int .u64 y))
        (first
          | go_keep
          | (go_split_ands
             refine ⟨?_, ?_⟩
             · (rw [hgrow.cell_far _ (by simp; omega) (Ne.symm hne)]; assumption)
             · (rw [hgrow.cell_far _ (by simp; omega) (Ne.symm hne)]; assumption)))
        ((refine step_append_lies _ (by rfl) _ _ _ (by rfl) w.heap.size 35 i0 _ 2 16 Try.underlying31 hi0 hz0 hz1 hz2 rfl (by omega) u3 k _ (by rfl) ((HO.out.alloc _).drew)
            ⟨wr.heap.size, 0, none⟩ 1 1 [.int .u64 x, .int .u64 y] (by rfl) (by rfl) (World.news_of_block (cs := #[.int .u64 x, .int .u64 y]) (t := 35) (fr := (0, 0)) (heap_alloc_new wr _)) (by simp [Value.oneCell'])
            (by omega) hk2 hk3 (by simp; omega) (wr.heap.size + 1) (by simp) ?_; intro gg cap2 w2 hown2 hgrow hat hlt2))
      go_wp2
      have hkl : k < (toR z).length := by rw [toR_length, hz.out]; have := HM.out; omega
      have e1 : cel ((toR z).take (k + 1)) = cel ((toR z).take k) ++ [.int .u64 x, .int .u64 y] := by
        rw [cel_step _ k hkl, toR_getD z k (by rw [← toR_length]; exact hkl), ← HM.out, HX.out, HY.out]
      have e2 : Below w.heap.size w w2 := ((HB.out.alloc HB.out.size _).drew).grown hgrow (by simp; omega) (fun q e => (HO.out.lt q e).1)
      go_roundg (len + 1 - (m + 2))
      case rel => exact ⟨k + 1, m + 2, by show m + 2 = (k + 1) * 2; have := HM.out; omega, by omega, Nat.le_refl _, by go_num, by rw [e1]; exact hown2, e2⟩
      case measure => omega
    · have hkl : (toR z).take k = toR z := List.take_of_length_le (by rw [toR_length, hz.out]; have := HM.out; omega)
      rw [hkl] at hown
      obtain ⟨a, c, hv, hnc⟩ := own_form hown
      have HO : Hid (wr.ownsRow w.heap.size 35 2 u3 k (cel (toR z))) := hown
      have HB : Hid (Below w.heap.size w wr) := hb
      have HV : Hid (u3 = .slice a k c) := hv
      clear hown hb hv
      go_wp2
      go_ret
      have h1 := HO.out
      rw [HV.out] at h1
      obtain ⟨r1, r2⟩ := rdP_of_own h1
      exact ⟨a, k, c, congrArg Ending.returned HV.out, r1, r2.symm, hnc, HB.out⟩

theorem to_nil (a : Option Addr) (cap : Nat) (w : World) :
    Calls Try.prog 24 #[.slice a 0 cap] w fun e w' => ∃ a' n c, e = .returned (.slice a' n c) ∧ RdP w' a' (toR []) ∧ n = (toR []).length ∧ n ≤ c ∧ Below w.heap.size w w' := by
  obtain ⟨i0, hi0, hz0, hz1, hz2⟩ := info_parts info35
  go_enter Try.func24, Try.ntmps24
  go_wp2_with (at_make; refine wpList_make_own _ rfl _ _ 31 rfl w.heap.size 35 i0 _ 2 Try.underlying31 hi0 hz0 hz1 .i64 .i64 _ 0 rfl rfl (by omega) (by omega) (by unfold maxLen; omega) (Nat.le_refl _) ?_; intro w1 hown1 hgrow1)
  refine wp_loop_rounds 1 ?_
  rw [rounds_succ]
  go_wp2
  go_ret
  exact ⟨_, _, _, rfl, .inl rfl, rfl, Nat.zero_le _, (Below.refl _ _).grown hgrow1 (Nat.le_refl _) (fun k e => by cases e)⟩

theorem to_any (a : Option Addr) (len cap : Nat) (z : List Int) (w : World) (h : Rd w a z) (hz : z.length = len) (hl : len ≤ 1099511627776) :
    Calls Try.prog 24 #[.slice a len cap] w fun e w' => ∃ a' n c, e = .returned (.slice a' n c) ∧ RdP w' a' (toR z) ∧ n = (toR z).length ∧ n ≤ c ∧ Below w.heap.size w w' := by
  rcases h with rfl | ⟨b, off, rfl, hc⟩
  · subst hz; exact to_nil a cap w
  · by_cases h0 : z.length = 0
    · obtain rfl : z = [] := List.eq_nil_of_length_eq_zero h0
      subst hz; exact to_nil _ cap w
    · exact to_some b off len cap z w hz (by rw [← hz]; exact hc) hl (World.block_lt_of_cell? w _ (hc 0 (by omega)))

/-! ### zzFromRanges -/
set_option maxRecDepth 100000 in
set_option maxHeartbeats 3200000 in
theorem from_some (b off len cap : Nat) (rs : Rg.R) (w : World) (hz : Hid (rs.length = len)) (hc : ∀ i, i < len → w.cell? ⟨b, off + i * 2, none⟩ = some (.int .u64 (rs.getD i (0, 0)).1) ∧ w.cell? ⟨b, off + i * 2 + 1, none⟩ = some (.int .u64 (rs.getD i (0, 0)).2)) (hl : len ≤ 1099511627776) (hbw : b < w.heap.size) :
    Calls Try.prog 22 #[.slice (some ⟨b, off, none⟩) len cap] w fun e w' => ∃ a n c, e = .returned (.slice a n c) ∧ Rd w' a (fromR rs) ∧ n = (fromR rs).length ∧ Below w.heap.size w w' := by
  have HC : Hid (∀ i, i < len → w.cell? ⟨b, off + i * 2, none⟩ = some (.int .u64 (rs.getD i (0, 0)).1) ∧ w.cell? ⟨b, off + i * 2 + 1, none⟩ = some (.int .u64 (rs.getD i (0, 0)).2)) := hc
  clear hc
  obtain ⟨i0, hi0, hz0, hz1, hz2⟩ := info_parts info23
  go_enter Try.func22, Try.ntmps22
  go_wp2_with (at_make; refine wpList_make_own _ rfl _ _ 22 rfl w.heap.size 23 i0 _ 1 Try.underlying22 hi0 hz0 hz1 .i64 .i64 _ (2 * len) rfl rfl (by omega) (by rw [hz2]; omega) (by unfold maxLen; omega) (Nat.le_refl _) ?_; intro w1 hown1 hgrow1)
  have hb1 : Below w.heap.size w w1 := (Below.refl _ _).grown hgrow1 (Nat.le_refl _) (fun k e => by cases e)
  clear hgrow1
  go_loopg [3, 12] (len + 1) (fun g v i wr => ∃ k n : Nat, Hid (n = k * 2) ∧ k ≤ len ∧ len + 1 - k ≤ g ∧ i = .int .i64 k ∧ wr.ownsRow w.heap.size 23 1 v n (cei (fromR (rs.take k))) ∧ Below w.heap.size w wr)
  case atStart => exact ⟨0, 0, rfl, by omega, by omega, rfl, hown1, hb1⟩
  case round =>
    obtain ⟨k, n, HN, hk, hg, rfl, hown, hb⟩ := hrel
    clear hown1 hb1
    by_cases hlt : k < len
    · have c0 : wr.cell? ⟨b, off + k * 2, none⟩ = some (.int .u64 (rs.getD k (0, 0)).1) := (hb.cell (p := ⟨b, off + k * 2, none⟩) hbw).trans (HC.out _ hlt).1
      have c1 : wr.cell? ⟨b, off + k * 2 + 1, none⟩ = some (.int .u64 (rs.getD k (0, 0)).2) := (hb.cell (p := ⟨b, off + k * 2 + 1, none⟩) hbw).trans (HC.out _ hlt).2
      obtain ⟨x, hx⟩ : ∃ x, (rs.getD k (0, 0)).1 = x := ⟨_, rfl⟩
      obtain ⟨y, hy⟩ : ∃ y, (rs.getD k (0, 0)).2 = y := ⟨_, rfl⟩
      rw [hx] at c0; rw [hy] at c1
      have HX : Hid ((rs.getD k (0, 0)).1 = x) := hx
      have HY : Hid ((rs.getD k (0, 0)).2 = y) := hy
      clear hx hy
      have HO : Hid (wr.ownsRow w.heap.size 23 1 u3 n (cei (fromR (rs.take k)))) := hown
      have HB : Hid (Below w.heap.size w wr) := hb
      have hsz := hb.size
      have hn1 : n + 1 ≤ maxLen := by have := HN.out; unfold maxLen; omega
      have hn2 : (n + 1) * 8 ≤ 140737488355328 := by have := HN.out; omega
      have hn3 : n + 1 + 1 ≤ maxLen := by have := HN.out; unfold maxLen; omega
      have hn4 : (n + 1 + 1) * 8 ≤ 140737488355328 := by have := HN.out; omega
      have hne : some wr.heap.size ≠ u3.ownBlock := fun e => by have := (hown.lt _ e.symm).2; omega
      clear hown hb
      go_wp2_with (at_builtin; refine wpList_append_lies _ rfl (.tmp 16) (.tmp 19) 22 (by rfl) w.heap.size 23 i0 _ 1 8 Try.underlying22 hi0 hz0 hz1 hz2 rfl (by omega) u3 n _ (by rfl) ((HO.out.alloc _).alloc _) ⟨wr.heap.size + 1, 0, none⟩ 1 1 [.int .u64 x] (by rfl) (by rfl) ?hnA (by simp [Value.oneCell']) (by omega) hn1 hn2 (by simp; omega) (wr.heap.size + 2) (by simp) ?hkA)
      case hnA => exact news_one _ _ _ _ (by simp)
      case hkA =>
        intro g1 cap1 w2 hown2 hgrow2 hat2 hlt2
        have cx : w2.cell? ⟨wr.heap.size, 1, none⟩ = some (.int .u64 y) := by
          rw [hgrow2.cell_far ⟨wr.heap.size, 1, none⟩ (by simp; omega) hne]
          simp
        have hs2 := hgrow2.size
        simp only [World.size_alloc] at hs2
        have HB2 : Hid (Below w.heap.size w w2) := ((HB.out.alloc HB.out.size _).alloc (by simp; omega) _).grown hgrow2 (by simp; omega) (fun q e => (HO.out.lt q e).1)
        have HO2 : Hid (w2.ownsRow w.heap.size 23 1 (Value.slice (some { block := g1, off := 0 }) (n + 1) cap1) (n + 1) (cei (fromR (List.take k rs)) ++ [Value.int IntKind.u64 x])) := hown2
        clear hown2 hgrow2 hat2 HO HB
        go_wp2_with (at_builtin; refine wpList_append_lies _ rfl (.tmp 21) (.tmp 24) 22 (by rfl) w.heap.size 23 i0 _ 1 8 Try.underlying22 hi0 hz0 hz1 hz2 rfl (by omega) _ (n + 1) _ (by rfl) (HO2.out.alloc _) ⟨w2.heap.size, 0, none⟩ 1 1 [.int .u64 y] (by rfl) (by rfl) ?hnB (by simp [Value.oneCell']) (by omega) hn3 hn4 (by simp; omega) (w2.heap.size + 1) (by simp) ?hkB)
        case hnB => exact news_one _ _ _ _ rfl
        case hkB =>
          intro g2 cap2 w3 hown3 hgrow3 hat3 hlt3
          have HB3 : Hid (Below w.heap.size w w3) := ((HB2.out.alloc HB2.out.size _)).grown hgrow3 (by simp; omega) (fun q e => (HO2.out.lt q e).1)
          have e1 : cei (fromR (rs.take (k + 1))) = cei (fromR (rs.take k)) ++ [.int .u64 x, .int .u64 y] := by
            rw [fromR_step rs k (by rw [hz.out]; exact hlt), HX.out, HY.out]
          have HO3 : Hid (w3.ownsRow w.heap.size 23 1 (Value.slice (some { block := g2, off := 0 }) (n + 1 + 1) cap2) (n + 1 + 1) (cei (fromR (rs.take (k + 1))))) := by rw [e1]; exact hown3
          clear hown3 hgrow3 hat3 e1
          go_wp2
          go_roundg (len + 1 - (k + 1))
          case rel => exact ⟨k + 1, n + 1 + 1, by show n + 1 + 1 = (k + 1) * 2; have := HN.out; omega, by omega, Nat.le_refl _, by go_num, HO3.out, HB3.out⟩
          case measure => omega
    · have hkl : rs.take k = rs := List.take_of_length_le (by rw [hz.out]; omega)
      rw [hkl] at hown
      obtain ⟨a, c, hv, hnc⟩ := own_form hown
      have HO : Hid (wr.ownsRow w.heap.size 23 1 u3 n (cei (fromR rs))) := hown
      have HB : Hid (Below w.heap.size w wr) := hb
      have HV : Hid (u3 = .slice a n c) := hv
      clear hown hb hv
      go_wp2
      go_ret
      have h1 := HO.out
      rw [HV.out] at h1
      obtain ⟨r1, r2⟩ := rd_of_own h1
      exact ⟨a, n, c, congrArg Ending.returned HV.out, r1, r2.symm, HB.out⟩

theorem from_nil (a : Option Addr) (cap : Nat) (w : World) :
    Calls Try.prog 22 #[.slice a 0 cap] w fun e w' => ∃ a' n c, e = .returned (.slice a' n c) ∧ Rd w' a' (fromR []) ∧ n = (fromR []).length ∧ Below w.heap.size w w' := by
  obtain ⟨i0, hi0, hz0, hz1, hz2⟩ := info_parts info23
  go_enter Try.func22, Try.ntmps22
  go_wp2_with (at_make; refine wpList_make_own _ rfl _ _ 22 rfl w.heap.size 23 i0 _ 1 Try.underlying22 hi0 hz0 hz1 .i64 .i64 _ 0 rfl rfl (by omega) (by omega) (by unfold maxLen; omega) (Nat.le_refl _) ?_; intro w1 hown1 hgrow1)
  refine wp_loop_rounds 1 ?_
  rw [rounds_succ]
  go_wp2
  go_ret
  exact ⟨_, _, _, rfl, .inl rfl, rfl, (Below.refl _ _).grown hgrow1 (Nat.le_refl _) (fun k e => by cases e)⟩

theorem from_any (a : Option Addr) (len cap : Nat) (rs : Rg.R) (w : World) (h : RdP w a rs) (hz : rs.length = len) (hl : len ≤ 1099511627776) :
    Calls Try.prog 22 #[.slice a len cap] w fun e w' => ∃ a' n c, e = .returned (.slice a' n c) ∧ Rd w' a' (fromR rs) ∧ n = (fromR rs).length ∧ Below w.heap.size w w' := by
  rcases h with rfl | ⟨b, off, rfl, hc⟩
  · subst hz; exact from_nil a cap w
  · by_cases h0 : rs.length = 0
    · obtain rfl : rs = [] := List.eq_nil_of_length_eq_zero h0
      subst hz; exact from_nil _ cap w
    · exact from_some b off len cap rs w hz (by rw [← hz]; exact hc) hl (World.block_lt_of_cell? w _ (hc 0 (by omega)).1)

end Go.Proofs.Qxb6600453a
