/-
  THE WALK OF FnAppendRecordReadsBackToLockAndToken (3), OUT OF THE CONTRACTS.
-/
import Derived.Test.Qxb6600886aDoorReads
import Derived.Test.Qxb6600886aDoorRecNew
namespace Go.Proofs.Qxb6600886aDoor
open Go.RowKit

theorem bytes6_yes (a : Option Addr) (la ca : Nat) (t r : ByteArray) (x : Int) (w : World) (h : la + t.size + r.size ≤ 1048576) :
    Calls Tryd.prog 6 #[.slice a la ca, .string t, .string r, .int .u64 x] w fun e w' => e = .returned (.bool true) ∧ w = w' := by
  go_enter Tryd.func6, Tryd.ntmps6
  go_wp2
  go_ret
  exact ⟨rfl, rfl⟩
theorem bytes6_no (a : Option Addr) (la ca : Nat) (t r : ByteArray) (x : Int) (w : World) (h : ¬ la + t.size + r.size ≤ 1048576) :
    Calls Tryd.prog 6 #[.slice a la ca, .string t, .string r, .int .u64 x] w fun e w' => e = .returned (.bool false) ∧ w = w' := by
  go_enter Tryd.func6, Tryd.ntmps6
  go_wp2
  all_goals
    go_ret
    exact ⟨rfl, rfl⟩

/-- a record as numbers -/
def numOf : Value → Int
  | .int _ x => x
  | _ => 0
def recZ (t r : ByteArray) (u : Nat) : List Int := (recCells t r u).map numOf
theorem recZ_at {t r : ByteArray} {u i : Nat} {x : Int} (h : (recCells t r u)[i]? = some (.int .u8 x)) : (recZ t r u).getD i 0 = x := by
  simp [recZ, List.getD, h, numOf]
theorem rec_all (t r : ByteArray) (u i : Nat) (h : i < recLen t r u) : (recCells t r u)[i]? = some (.int .u8 ((recZ t r u).getD i 0)) := by
  have hx : ∃ x, (recCells t r u)[i]? = some (.int .u8 x) := by
    rw [recLen_eq] at h
    by_cases h1 : i < t.size
    · exact ⟨_, rec_get_t t r u i h1⟩
    by_cases h2 : i = t.size
    · subst h2; exact ⟨_, rec_get_s1 t r u⟩
    by_cases h3 : i < t.size + 1 + r.size
    · obtain ⟨k, rfl⟩ : ∃ k, i = t.size + 1 + k := ⟨i - (t.size + 1), by omega⟩
      exact ⟨_, rec_get_r t r u k (by omega)⟩
    by_cases h4 : i = t.size + 1 + r.size
    · subst h4; exact ⟨_, rec_get_s2 t r u⟩
    by_cases h5 : i < t.size + 1 + r.size + 1 + Lib.nDigits u
    · obtain ⟨k, rfl⟩ : ∃ k, i = t.size + 1 + r.size + 1 + k := ⟨i - (t.size + 1 + r.size + 1), by omega⟩
      exact ⟨_, rec_get_d t r u k (by omega)⟩
    obtain rfl : i = t.size + 1 + r.size + 1 + Lib.nDigits u := by omega
    exact ⟨_, rec_get_end t r u⟩
  obtain ⟨x, hx⟩ := hx
  rw [recZ_at hx, hx]
theorem own_form {w : World} {B n : Nat} {v : Value} {xs : List Value} (h : w.ownsRow B 5 1 v n xs) (hn : 0 < n) : ∃ g c, v = .slice (some ⟨g, 0, none⟩) n c ∧ n ≤ c ∧ ∀ i x, xs[i]? = some x → w.cell? ⟨g, i, none⟩ = some x := by
  rcases h.2 with ⟨_, h0⟩ | ⟨g, c, cur, rfl, _, _, hc, _⟩
  · omega
  · exact ⟨g, c, rfl, hc, fun i x hx => by have := h.cells (g := g) rfl i x hx; rw [Addr.add_lit] at this; simpa using this⟩

set_option maxRecDepth 100000 in
set_option maxHeartbeats 3200000 in
theorem law3 (a : Option Addr) (len cap : Nat) (z : List Int) (t r : ByteArray) (u : Nat) (hu64 : u < 18446744073709551616) (w : World) (h : Hid (Inp w a len z)) (htab : Hid (Lib.TabIs Tryd.prog w "internal/strconv.uint64pow10" .u64 Lib.pow10Tab)) :
    Calls Tryd.prog 3 #[.slice a len cap, .string t, .string r, .int .u64 u] w fun e w' => e = .returned (.bool true) ∧ Below w.heap.size w w' := by
  by_cases hs : ¬ len + t.size + r.size ≤ 1048576
  · go_enter Tryd.func3, Tryd.ntmps3
    go_wp2_with fail
    refine (bytes6_no a len cap t r u _ hs).mono ?_
    rintro e w1 ⟨rfl, rfl⟩
    go_wp2_with fail
    go_ret
    exact ⟨rfl, Below.refl _ _⟩
  replace hs : len + t.size + r.size ≤ 1048576 := by omega
  by_cases h0 : 262144 < len
  · go_enter Tryd.func3, Tryd.ntmps3
    go_wp2_with fail
    refine (bytes6_yes a len cap t r u _ hs).mono ?_
    rintro e w1 ⟨rfl, rfl⟩
    go_wp2_with fail
    go_ret
    exact ⟨rfl, Below.refl _ _⟩
  by_cases h1 : 262144 < t.size
  · go_enter Tryd.func3, Tryd.ntmps3
    go_wp2_with fail
    refine (bytes6_yes a len cap t r u _ hs).mono ?_
    rintro e w1 ⟨rfl, rfl⟩
    go_wp2_with fail
    go_ret
    exact ⟨rfl, Below.refl _ _⟩
  by_cases h2 : 262144 < r.size
  · go_enter Tryd.func3, Tryd.ntmps3
    go_wp2_with fail
    refine (bytes6_yes a len cap t r u _ hs).mono ?_
    rintro e w1 ⟨rfl, rfl⟩
    go_wp2_with fail
    go_ret
    exact ⟨rfl, Below.refl _ _⟩
  go_enter Tryd.func3, Tryd.ntmps3
  go_wp2_with fail
  refine (bytes6_yes a len cap t r u _ hs).mono ?_
  rintro e w1 ⟨rfl, rfl⟩
  go_wp2_with fail
  refine (has_any t _ (by omega)).mono ?_
  rintro e w1 ⟨b0, rfl, hct, rfl⟩
  cases b0 with
  | true =>
    go_wp2_with fail
    go_ret
    exact ⟨rfl, Below.refl _ _⟩
  | false =>
  have HCT : Hid (Clean t) := hct rfl
  clear hct
  go_wp2_with fail
  refine (has_any r _ (by omega)).mono ?_
  rintro e w1 ⟨b0, rfl, hcr, rfl⟩
  cases b0 with
  | true =>
    go_wp2_with fail
    go_ret
    exact ⟨rfl, Below.refl _ _⟩
  | false =>
  have HCR : Hid (Clean r) := hcr rfl
  clear hcr
  go_wp2_with fail
  refine (clone_new a len cap z _ h.out (by omega)).mono ?_
  rintro e w1 ⟨a1, c1, rfl, o1, b1, G, hG, hGc⟩
  have HO1 : Hid (Dst w1 w1.heap.size (.slice a1 len c1) len (cei z)) := o1
  have HB1 : Hid (Below w.heap.size w w1) := b1
  have hs1 : w.heap.size ≤ w1.heap.size := b1.size
  have HZ : Hid (z.length = len) := h.out.2.1
  have HG : Hid ((0 < len → a1 = some ⟨G, 0, none⟩) ∧ ∀ j, j < len → w1.cell? ⟨G, j, none⟩ = some (.int .u8 (z.getD j 0))) := ⟨hG, hGc⟩
  clear o1 b1 h hG hGc
  go_wp2_with fail
  refine (zrec_new w1.heap.size len u hu64 (.slice a1 len c1) (cei z) t r _ HO1 (Nat.le_refl _) (by omega) (by omega) (by omega) ((Lib.tabBelow_of_tabIs (Lib.tabBelow_of_tabIs htab.out _ HB1.out)))).mono ?_
  rintro e w2 ⟨v2, rfl, o2, b2, k2⟩
  have hd := Lib.nDigits_le20 u hu64
  have hd1 := Lib.nDigits_pos u
  have hRe := recLen_eq t r u
  obtain ⟨g, c2, rfl, hc2, hcells⟩ := own_form o2 (by omega)
  have HB2 : Hid (Below w.heap.size w w2) := HB1.out.trans (b2.mono hs1)
  have HGG : Hid ((0 < len → a1 = some ⟨G, 0, none⟩) ∧ ∀ j, j < len → w2.cell? ⟨G, j, none⟩ = some (.int .u8 (z.getD j 0))) :=
    ⟨HG.out.1, fun j hj => (b2.cell (p := ⟨G, j, none⟩) (World.block_lt_of_cell? w1 _ (HG.out.2 j hj))).trans (HG.out.2 j hj)⟩
  have HZZ : Hid (∀ j, j < len → w2.cell? ⟨g, j, none⟩ = some (.int .u8 (z.getD j 0))) := fun j hj => by
    refine hcells j _ ?_
    rw [List.getElem?_append_left (by simp [cei]; have := HZ.out; omega), cei_get z j (by have := HZ.out; omega)]
  have HRR : Hid (∀ i x, (recCells t r u)[i]? = some x → w2.cell? ⟨g, len + i, none⟩ = some x) := fun i x hx => by
    refine hcells (len + i) _ ?_
    have hzl : (cei z).length = len := by simp [cei, HZ.out]
    rw [List.getElem?_append_right (by omega), hzl, show len + i - len = i from by omega]
    exact hx
  clear o2 b2 k2 hcells HO1 HG HB1
  generalize hR : recLen t r u = R at hRe hc2 ⊢
  have HR : Hid (recLen t r u = R) := hR
  have HRe : Hid (R = t.size + 1 + r.size + 1 + Lib.nDigits u + 1) := hRe
  have hRb : R ≤ 1073741824 := by omega
  have hRl : t.size + r.size + 4 ≤ R := by omega
  have hR1 : decide ((len : Int) + (R : Int) < (len : Int) + 1) = false := by rw [decide_eq_false_iff_not]; omega
  clear hR hRe
  go_wp2_with fail
  go_loopg [11] (len + 1) (fun g i wr => ∃ m n : Nat, m ≤ len ∧ len + 1 - m ≤ g ∧ i = .int .i64 m ∧ wr = w2.drewN n)
  case atStart => exact ⟨0, 0, Nat.zero_le _, by omega, rfl, rfl⟩
  case round =>
    obtain ⟨m, n, hm, hg, rfl, rfl⟩ := hrel
    by_cases hlt : m < len
    · obtain rfl := HGG.out.1 (by omega)
      have d0 := HGG.out.2 m hlt
      have d1 := HZZ.out m hlt
      have i0 : (m : Int) < (len : Int) := by omega
      obtain ⟨x, hx⟩ : ∃ x, z.getD m 0 = x := ⟨_, rfl⟩
      rw [hx] at d0 d1
      clear hx
      go_wp2_with fail
      go_quiet (fail)
      go_wp2
      go_roundg (len + 1 - (m + 1))
      case rel => exact ⟨m + 1, _, by omega, Nat.le_refl _, by go_num, by first | rfl | (simp only [World.drewN_drewN]; rfl)⟩
      case measure => omega
    · obtain rfl : m = len := by omega
      have HBW : Hid (Below w.heap.size w (w2.drewN n)) := below_drewN HB2.out n
      have HRW : Hid (∀ i x, (recCells t r u)[i]? = some x → (w2.drewN n).cell? ⟨g, m + i, none⟩ = some x) := fun i x hx => by rw [World.cell?_drewN]; exact HRR.out i x hx
      clear HRR HZZ HGG HB2
      generalize w2.drewN n = W at HBW HRW ⊢
      have cl : W.cell? ⟨g, m + (R - 1), none⟩ = some (.int .u8 10) := HRW.out _ _ (by rw [show R - 1 = t.size + 1 + r.size + 1 + Lib.nDigits u from by have := HRe.out; omega]; exact rec_get_end t r u)
      have HZW : Hid (∀ i, i < R → W.cell? ⟨g, m + i, none⟩ = some (.int .u8 ((recZ t r u).getD i 0))) := fun i hi => HRW.out i _ (rec_all t r u i (by rw [HR.out]; exact hi))
      have HI1 : Hid ((recZ t r u).getD t.size 0 = 32 ∧ ∀ j, 0 ≤ j → j < t.size → (recZ t r u).getD j 0 ≠ 32) := ⟨recZ_at (rec_get_s1 t r u), fun j _ hj => by rw [recZ_at (rec_get_t t r u j hj)]; exact (HCT.out j hj).1⟩
      have HI2 : Hid ((recZ t r u).getD (t.size + 1 + r.size) 0 = 32 ∧ ∀ j, t.size + 1 ≤ j → j < t.size + 1 + r.size → (recZ t r u).getD j 0 ≠ 32) := ⟨recZ_at (rec_get_s2 t r u), fun j h1 hj => by
        obtain ⟨k, rfl⟩ : ∃ k, j = t.size + 1 + k := ⟨j - (t.size + 1), by omega⟩
        rw [recZ_at (rec_get_r t r u k (by omega))]; exact (HCR.out k (by omega)).1⟩
      go_wp2_with fail
      refine (idx_found g m R _ (recZ t r u) 32 0 t.size _ HZW hRb (Nat.zero_le _) (by omega) HI1.out.1 HI1.out.2).mono ?_
      rintro e w3 ⟨rfl, rfl⟩
      go_wp2_with fail
      refine (idx_found g m R _ (recZ t r u) 32 (t.size + 1) (t.size + 1 + r.size) _ HZW hRb (by omega) (by omega) HI2.out.1 HI2.out.2).mono ?_
      rintro e w3 ⟨rfl, rfl⟩
      go_wp2_with fail
      refine (text_same g m _ t _ (fun i hi => HRW.out i _ (rec_get_t t r u i hi)) (by omega)).mono ?_
      rintro e w3 ⟨rfl, n3, rfl⟩
      have HBV : Hid (Below w.heap.size w (W.drewN n3)) := below_drewN HBW.out n3
      have HRV : Hid (∀ i x, (recCells t r u)[i]? = some x → (W.drewN n3).cell? ⟨g, m + i, none⟩ = some x) := fun i x hx => by rw [World.cell?_drewN]; exact HRW.out i x hx
      clear HBW HRW HZW HI1 HI2 cl
      generalize W.drewN n3 = V at HBV HRV ⊢
      go_wp2_with fail
      refine (text_same g (m + (t.size + 1)) _ r _ (fun i hi => by rw [Nat.add_assoc]; exact HRV.out (t.size + 1 + i) _ (rec_get_r t r u i hi)) (by omega)).mono ?_
      rintro e w3 ⟨rfl, n4, rfl⟩
      have HBX : Hid (Below w.heap.size w (V.drewN n4)) := below_drewN HBV.out n4
      have HRX : Hid (∀ i x, (recCells t r u)[i]? = some x → (V.drewN n4).cell? ⟨g, m + i, none⟩ = some x) := fun i x hx => by rw [World.cell?_drewN]; exact HRV.out i x hx
      clear HBV HRV
      generalize V.drewN n4 = X at HBX HRX ⊢
      go_wp2_with fail
      have HP := Lib.hid (parse_any g (m + (t.size + 1 + r.size + 1)) (c2 - m - (t.size + 1 + r.size + 1)) u hu64 X (fun i hi => by rw [Nat.add_assoc]; exact HRX.out (t.size + 1 + r.size + 1 + i) _ (rec_get_d t r u i hi)))
      have HN : Hid (R - 1 - (t.size + 1 + r.size + 1) = Lib.nDigits u) := by have := HRe.out; show _ = _; omega
      rw [HN.out]
      refine HP.out.mono ?_
      rintro e w3 ⟨rfl, rfl⟩
      clear HP HN
      go_wp2_with fail
      go_ret
      exact ⟨rfl, HBX.out⟩

end Go.Proofs.Qxb6600886aDoor
