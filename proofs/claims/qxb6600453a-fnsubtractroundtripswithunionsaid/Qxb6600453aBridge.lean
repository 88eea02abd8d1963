/-
  FROM FLAT LISTS TO RANGE LISTS: what zzDisjoint, zzCanonical, zzByFirst, zzHas say of the range list that a flat list is. Plain.
-/
import Derived.Test.Qxb6600453aCells
namespace Go.Proofs.Qxb6600453a
open Rg

theorem toR_nil : toR [] = [] := rfl
theorem toR_one (a : Int) : toR [a] = [] := by simp [toR]
theorem toR_cons (a b : Int) (t : List Int) : toR (a :: b :: t) = (a, b) :: toR t := by
  unfold toR
  rw [show (a :: b :: t).length / 2 = t.length / 2 + 1 from by simp only [List.length_cons]; omega, List.range_succ_eq_map, List.map_cons, List.map_map]
  refine congrArg (List.cons (a, b)) (List.map_congr_left fun k _ => ?_)
  show ((a :: b :: t).getD ((k + 1) * 2) 0, (a :: b :: t).getD ((k + 1) * 2 + 1) 0) = _
  rw [show (k + 1) * 2 = k * 2 + 1 + 1 from by omega]
  rfl

theorem ch_head {g a b : Int} {t : R} (hg : 0 ≤ g) : Ch g ((a, b) :: t) ↔ a ≤ b ∧ (∀ r s, t = r :: s → b + g ≤ r.1) ∧ Ch g t := by
  rw [ch_cons]
  constructor
  · rintro ⟨h1, h2, h3⟩
    exact ⟨h1, fun r s e => h2 r (by rw [e]; exact List.mem_cons_self), h3⟩
  · rintro ⟨h1, h2, h3⟩
    refine ⟨h1, fun s hs => ?_, h3⟩
    cases t with
    | nil => cases hs
    | cons r t =>
      have k := h2 r t rfl
      obtain ⟨p1, p2, p3⟩ := ch_cons.1 h3
      rcases List.mem_cons.1 hs with rfl | hs
      · exact k
      · have := p2 s hs
        have k' : b + g ≤ r.1 := k
        show b + g ≤ s.1
        omega
theorem byf_head {a b : Int} {t : R} : ByF ((a, b) :: t) ↔ a ≤ b ∧ (∀ r s, t = r :: s → a ≤ r.1) ∧ ByF t := by
  rw [byF_cons]
  constructor
  · rintro ⟨h1, h2, h3⟩
    exact ⟨h1, fun r s e => h2 r (by rw [e]; exact List.mem_cons_self), h3⟩
  · rintro ⟨h1, h2, h3⟩
    refine ⟨h1, fun s hs => ?_, h3⟩
    cases t with
    | nil => cases hs
    | cons r t =>
      have k := h2 r t rfl
      obtain ⟨p1, p2, p3⟩ := byF_cons.1 h3
      rcases List.mem_cons.1 hs with rfl | hs
      · exact k
      · have := p2 s hs
        have k' : a ≤ r.1 := k
        show a ≤ s.1
        omega

theorem okD_next (a b : Int) (t : List Int) (m : Nat) (hm : 0 < m) : okD (a :: b :: t) (m + 2) = okD t m := by
  obtain ⟨k, rfl⟩ : ∃ k, m = k + 1 := ⟨m - 1, by omega⟩
  rfl
theorem okF_next (a b : Int) (t : List Int) (m : Nat) (hm : 1 < m) : okF (a :: b :: t) (m + 2) = okF t m := by
  obtain ⟨k, rfl⟩ : ∃ k, m = k + 2 := ⟨m - 2, by omega⟩
  rfl
theorem okC_next (a b : Int) (t : List Int) (m : Nat) (hm : 0 < m) : okC (a :: b :: t) (m + 2) = okC t m := by
  obtain ⟨k, rfl⟩ : ∃ k, m = k + 1 := ⟨m - 1, by omega⟩
  rfl

theorem disB_cons (a b : Int) (t : List Int) : disB (a :: b :: t) = true ↔ a ≤ b ∧ (0 < t.length → b < t.getD 0 0) ∧ disB t = true := by
  rw [disB_iff, disB_iff]
  constructor
  · rintro ⟨h1, h2⟩
    have k0 := h2 0 (by simp) rfl
    refine ⟨by simpa [okD] using k0, fun hl => ?_, by simp only [List.length_cons] at h1; omega, fun m hm h3 => ?_⟩
    · have := h2 2 (by simp only [List.length_cons]; omega) rfl
      simp only [okD, Bool.and_eq_true, Bool.or_eq_true, decide_eq_true_eq] at this
      rcases this.2 with h | h
      · simp at h
      · exact h
    · have := h2 (m + 2) (by simp only [List.length_cons]; omega) (by omega)
      by_cases h0 : m = 0
      · subst h0
        simp only [okD, Bool.and_eq_true, decide_eq_true_eq] at this ⊢
        exact ⟨this.1, by simp⟩
      · rw [okD_next a b t m (by omega)] at this
        exact this
  · rintro ⟨h1, h2, h3, h4⟩
    refine ⟨by simp only [List.length_cons]; omega, fun m hm h5 => ?_⟩
    match m, hm, h5 with
    | 0, _, _ => simpa [okD] using h1
    | 1, _, h5 => simp at h5
    | 2, hm, _ =>
      simp only [List.length_cons] at hm
      have := h4 0 (by omega) rfl
      simp only [okD, Bool.and_eq_true, Bool.or_eq_true, decide_eq_true_eq] at this ⊢
      exact ⟨this.1, .inr (h2 (by omega))⟩
    | m + 3, hm, h5 =>
      simp only [List.length_cons] at hm
      rw [show m + 3 = (m + 1) + 2 from rfl, okD_next a b t (m + 1) (by omega)]
      exact h4 (m + 1) (by omega) (by omega)

theorem byfB_cons (a b : Int) (t : List Int) : byfB (a :: b :: t) = true ↔ a ≤ b ∧ (0 < t.length → a ≤ t.getD 0 0) ∧ byfB t = true := by
  rw [byfB_iff, byfB_iff]
  constructor
  · rintro ⟨h1, h2⟩
    have k0 := h2 0 (by simp) rfl
    refine ⟨by simpa [okF] using k0, fun hl => ?_, by simp only [List.length_cons] at h1; omega, fun m hm h3 => ?_⟩
    · have := h2 2 (by simp only [List.length_cons]; omega) rfl
      simp only [okF, Bool.and_eq_true, Bool.or_eq_true, decide_eq_true_eq] at this
      rcases this.2 with h | h
      · simp at h
      · exact h
    · have := h2 (m + 2) (by simp only [List.length_cons]; omega) (by omega)
      by_cases h0 : m = 0
      · subst h0
        simp only [okF, Bool.and_eq_true, decide_eq_true_eq] at this ⊢
        exact ⟨this.1, by simp⟩
      · rw [okF_next a b t m (by omega)] at this
        exact this
  · rintro ⟨h1, h2, h3, h4⟩
    refine ⟨by simp only [List.length_cons]; omega, fun m hm h5 => ?_⟩
    match m, hm, h5 with
    | 0, _, _ => simpa [okF] using h1
    | 1, _, h5 => simp at h5
    | 2, hm, _ =>
      simp only [List.length_cons] at hm
      have := h4 0 (by omega) rfl
      simp only [okF, Bool.and_eq_true, Bool.or_eq_true, decide_eq_true_eq] at this ⊢
      exact ⟨this.1, .inr (h2 (by omega))⟩
    | 3, _, h5 => simp at h5
    | m + 4, hm, h5 =>
      simp only [List.length_cons] at hm
      rw [show m + 4 = (m + 2) + 2 from rfl, okF_next a b t (m + 2) (by omega)]
      exact h4 (m + 2) (by omega) (by omega)

theorem canB_cons (a b : Int) (t : List Int) : canB (a :: b :: t) = true ↔ a ≤ b ∧ (0 < t.length → b + 2 ≤ t.getD 0 0) ∧ canB t = true := by
  rw [canB_iff, canB_iff, disB_cons]
  constructor
  · rintro ⟨⟨h1, h2, h3⟩, h4⟩
    refine ⟨h1, fun hl => ?_, h3, fun m hm h5 => ?_⟩
    · have := h4 2 (by simp only [List.length_cons]; omega) rfl
      simp only [okC, Bool.or_eq_true, decide_eq_true_eq] at this
      rcases this with h | h
      · simp at h
      · have h' : 2 ≤ t.getD 0 0 - b := h
        omega
    · by_cases h0 : m = 0
      · subst h0; rfl
      · rw [← okC_next a b t m (by omega)]
        exact h4 (m + 2) (by simp only [List.length_cons]; omega) (by omega)
  · rintro ⟨h1, h2, h3, h4⟩
    refine ⟨⟨h1, fun hl => by have := h2 hl; omega, h3⟩, fun m hm h5 => ?_⟩
    match m, hm, h5 with
    | 0, _, _ => rfl
    | 1, _, h5 => simp at h5
    | 2, hm, _ =>
      simp only [List.length_cons] at hm
      have := h2 (by omega)
      simp only [okC, Bool.or_eq_true, decide_eq_true_eq]
      right
      show 2 ≤ t.getD 0 0 - b
      omega
    | m + 3, hm, h5 =>
      simp only [List.length_cons] at hm
      rw [show m + 3 = (m + 1) + 2 from rfl, okC_next a b t (m + 1) (by omega)]
      exact h4 (m + 1) (by omega) (by omega)

theorem head_of {t : List Int} {r : Int × Int} {s : R} (e : toR t = r :: s) : 0 < t.length ∧ r.1 = t.getD 0 0 := by
  match t, e with
  | [], e => cases e
  | [a], e => rw [toR_one] at e; cases e
  | a :: b :: t, e =>
    rw [toR_cons] at e
    cases e
    exact ⟨by simp, rfl⟩
theorem head_to {t : List Int} (h0 : 0 < t.length) (h2 : t.length % 2 = 0) : ∃ r s, toR t = r :: s ∧ r.1 = t.getD 0 0 := by
  match t, h0, h2 with
  | [_], _, h2 => simp at h2
  | a :: b :: t, _, _ => exact ⟨(a, b), toR t, toR_cons a b t, rfl⟩

theorem dis_ch : ∀ z : List Int, disB z = true ↔ z.length % 2 = 0 ∧ Ch 1 (toR z)
  | [] => ⟨fun _ => ⟨rfl, ch_nil 1⟩, fun _ => rfl⟩
  | [a] => ⟨fun h => by simp [disB] at h, fun h => by simp at h⟩
  | a :: b :: t => by
    rw [disB_cons, toR_cons, ch_head (by omega), dis_ch t]
    constructor
    · rintro ⟨h1, h2, h3, h4⟩
      refine ⟨by simp only [List.length_cons]; omega, h1, fun r s e => ?_, h4⟩
      obtain ⟨p1, p2⟩ := head_of e
      rw [p2]; have := h2 p1; omega
    · rintro ⟨h1, h2, h3, h4⟩
      have h1' : t.length % 2 = 0 := by simp only [List.length_cons] at h1; omega
      refine ⟨h2, fun h0 => ?_, h1', h4⟩
      obtain ⟨r, s, e, p⟩ := head_to h0 h1'
      have := h3 r s e
      omega
theorem can_ch : ∀ z : List Int, canB z = true ↔ z.length % 2 = 0 ∧ Ch 2 (toR z)
  | [] => ⟨fun _ => ⟨rfl, ch_nil 2⟩, fun _ => rfl⟩
  | [a] => ⟨fun h => by simp [canB, disB] at h, fun h => by simp at h⟩
  | a :: b :: t => by
    rw [canB_cons, toR_cons, ch_head (by omega), can_ch t]
    constructor
    · rintro ⟨h1, h2, h3, h4⟩
      refine ⟨by simp only [List.length_cons]; omega, h1, fun r s e => ?_, h4⟩
      obtain ⟨p1, p2⟩ := head_of e
      rw [p2]; exact h2 p1
    · rintro ⟨h1, h2, h3, h4⟩
      have h1' : t.length % 2 = 0 := by simp only [List.length_cons] at h1; omega
      refine ⟨h2, fun h0 => ?_, h1', h4⟩
      obtain ⟨r, s, e, p⟩ := head_to h0 h1'
      have := h3 r s e
      omega
theorem byf_ch : ∀ z : List Int, byfB z = true ↔ z.length % 2 = 0 ∧ ByF (toR z)
  | [] => ⟨fun _ => ⟨rfl, byF_nil⟩, fun _ => rfl⟩
  | [a] => ⟨fun h => by simp [byfB] at h, fun h => by simp at h⟩
  | a :: b :: t => by
    rw [byfB_cons, toR_cons, byf_head, byf_ch t]
    constructor
    · rintro ⟨h1, h2, h3, h4⟩
      refine ⟨by simp only [List.length_cons]; omega, h1, fun r s e => ?_, h4⟩
      obtain ⟨p1, p2⟩ := head_of e
      rw [p2]; exact h2 p1
    · rintro ⟨h1, h2, h3, h4⟩
      have h1' : t.length % 2 = 0 := by simp only [List.length_cons] at h1; omega
      refine ⟨h2, fun h0 => ?_, h1', h4⟩
      obtain ⟨r, s, e, p⟩ := head_to h0 h1'
      have := h3 r s e
      omega

theorem hasB_cons (a b : Int) (t : List Int) (x : Int) : hasB (a :: b :: t) x = true ↔ (a ≤ x ∧ x ≤ b) ∨ hasB t x = true := by
  rw [hasB_iff, hasB_iff]
  constructor
  · rintro ⟨m, h1, h2, h3⟩
    match m, h1, h2, h3 with
    | 0, _, _, h3 => left; simpa [okH] using h3
    | 1, h1, _, _ => simp at h1
    | m + 2, h1, h2, h3 =>
      simp only [List.length_cons] at h2
      exact .inr ⟨m, by omega, by omega, h3⟩
  · rintro (h | ⟨m, h1, h2, h3⟩)
    · exact ⟨0, rfl, by simp, by simpa [okH] using h⟩
    · exact ⟨m + 2, by omega, by simp only [List.length_cons]; omega, h3⟩
theorem has_iff : ∀ (z : List Int) (x : Int), hasB z x = true ↔ Has (toR z) x
  | [], x => ⟨fun h => by simp [hasB] at h, fun h => absurd h (Rg.has_nil _)⟩
  | [a], x => ⟨fun h => by simp [hasB] at h, fun h => by rw [toR_one] at h; exact absurd h (Rg.has_nil _)⟩
  | a :: b :: t, x => by rw [hasB_cons, toR_cons, has_cons, has_iff t x]

theorem toR_fromR : ∀ rs : R, toR (fromR rs) = rs
  | [] => rfl
  | r :: t => by rw [fromR, toR_cons, toR_fromR t]
theorem fromR_toR : ∀ z : List Int, z.length % 2 = 0 → fromR (toR z) = z
  | [], _ => rfl
  | [a], h => by simp at h
  | a :: b :: t, h => by
    rw [toR_cons, fromR, fromR_toR t (by simp only [List.length_cons] at h; omega)]

theorem u64_cons {a : Int} {t : List Int} : U64 (a :: t) ↔ (0 ≤ a ∧ a ≤ 18446744073709551615) ∧ U64 t := by
  constructor
  · exact fun h => ⟨h 0, fun i => h (i + 1)⟩
  · rintro ⟨h1, h2⟩ i
    match i with
    | 0 => exact h1
    | i + 1 => exact h2 i
theorem u64_nil : U64 [] := fun i => by simp
theorem bd_toR : ∀ z : List Int, U64 z → Bd (toR z)
  | [], _ => fun _ h => absurd h List.not_mem_nil
  | [a], _ => by rw [toR_one]; exact fun _ h => absurd h List.not_mem_nil
  | a :: b :: t, h => by
    obtain ⟨h1, h2⟩ := u64_cons.1 h
    obtain ⟨h3, h4⟩ := u64_cons.1 h2
    rw [toR_cons]
    exact bd_cons.2 ⟨⟨h1, h3⟩, bd_toR t h4⟩
theorem u64_fromR : ∀ rs : R, Bd rs → U64 (fromR rs)
  | [], _ => u64_nil
  | r :: t, h => by
    obtain ⟨h1, h2⟩ := bd_cons.1 h
    exact u64_cons.2 ⟨h1.1, u64_cons.2 ⟨h1.2, u64_fromR t h2⟩⟩

end Go.Proofs.Qxb6600453a
