/-
  FLAT LISTS: what the law's own readers (zzDisjoint, zzCanonical, zzByFirst, zzHas, zzSame) answer, as plain functions; and what they say of range lists.
-/
import Derived.Test.Qxb6600453aMath
namespace Go.Proofs.Qxb6600453a.Rg

/-- the check of zzDisjoint at the even place m -/
def okD (z : List Int) (m : Nat) : Bool := decide (z.getD m 0 ≤ z.getD (m + 1) 0) && (m == 0 || decide (z.getD (m - 1) 0 < z.getD m 0))
def disB (z : List Int) : Bool := z.length % 2 == 0 && (List.range z.length).all (fun m => m % 2 == 1 || okD z m)

theorem disB_odd (z : List Int) (h : z.length % 2 ≠ 0) : disB z = false := by simp [disB, h]
theorem disB_no (z : List Int) (m : Nat) (h : m < z.length) (h2 : m % 2 = 0) (hk : okD z m = false) : disB z = false := by
  have : (List.range z.length).all (fun m => m % 2 == 1 || okD z m) = false := by
    rw [List.all_eq_false]
    exact ⟨m, List.mem_range.2 h, by simp [h2, hk]⟩
  simp [disB, this]
theorem disB_yes (z : List Int) (h : z.length % 2 = 0) (hk : ∀ m, m < z.length → m % 2 = 0 → okD z m = true) : disB z = true := by
  simp only [disB, h, Bool.and_eq_true, List.all_eq_true, List.mem_range, Bool.or_eq_true]
  refine ⟨by simp, fun m hm => ?_⟩
  rcases Nat.mod_two_eq_zero_or_one m with h0 | h1
  · exact .inr (hk m hm h0)
  · exact .inl (by simp [h1])
theorem disB_iff (z : List Int) : disB z = true ↔ z.length % 2 = 0 ∧ ∀ m, m < z.length → m % 2 = 0 → okD z m = true := by
  constructor
  · intro h
    simp only [disB, Bool.and_eq_true, List.all_eq_true, List.mem_range, Bool.or_eq_true, beq_iff_eq] at h
    refine ⟨h.1, fun m hm h2 => ?_⟩
    rcases h.2 m hm with h3 | h3
    · omega
    · exact h3
  · exact fun h => disB_yes z h.1 h.2

/-- the check of zzCanonical at the even place m -/
def okC (z : List Int) (m : Nat) : Bool := m == 0 || decide (2 ≤ z.getD m 0 - z.getD (m - 1) 0)
def canB (z : List Int) : Bool := disB z && (List.range z.length).all (fun m => m % 2 == 1 || okC z m)
theorem canB_dis (z : List Int) (h : disB z = false) : canB z = false := by simp [canB, h]
theorem canB_no (z : List Int) (m : Nat) (h : m < z.length) (h2 : m % 2 = 0) (hk : okC z m = false) : canB z = false := by
  have : (List.range z.length).all (fun m => m % 2 == 1 || okC z m) = false := by
    rw [List.all_eq_false]
    exact ⟨m, List.mem_range.2 h, by simp [h2, hk]⟩
  simp [canB, this]
theorem canB_yes (z : List Int) (h : disB z = true) (hk : ∀ m, m < z.length → m % 2 = 0 → okC z m = true) : canB z = true := by
  simp only [canB, h, Bool.and_eq_true, List.all_eq_true, List.mem_range, Bool.or_eq_true]
  refine ⟨trivial, fun m hm => ?_⟩
  rcases Nat.mod_two_eq_zero_or_one m with h0 | h1
  · exact .inr (hk m hm h0)
  · exact .inl (by simp [h1])
theorem canB_iff (z : List Int) : canB z = true ↔ disB z = true ∧ ∀ m, m < z.length → m % 2 = 0 → okC z m = true := by
  constructor
  · intro h
    simp only [canB, Bool.and_eq_true, List.all_eq_true, List.mem_range, Bool.or_eq_true, beq_iff_eq] at h
    refine ⟨h.1, fun m hm h2 => ?_⟩
    rcases h.2 m hm with h3 | h3
    · omega
    · exact h3
  · exact fun h => canB_yes z h.1 h.2

/-- the check of zzByFirst at the even place m -/
def okF (z : List Int) (m : Nat) : Bool := decide (z.getD m 0 ≤ z.getD (m + 1) 0) && (m == 0 || decide (z.getD (m - 2) 0 ≤ z.getD m 0))
def byfB (z : List Int) : Bool := z.length % 2 == 0 && (List.range z.length).all (fun m => m % 2 == 1 || okF z m)
theorem byfB_odd (z : List Int) (h : z.length % 2 ≠ 0) : byfB z = false := by simp [byfB, h]
theorem byfB_no (z : List Int) (m : Nat) (h : m < z.length) (h2 : m % 2 = 0) (hk : okF z m = false) : byfB z = false := by
  have : (List.range z.length).all (fun m => m % 2 == 1 || okF z m) = false := by
    rw [List.all_eq_false]
    exact ⟨m, List.mem_range.2 h, by simp [h2, hk]⟩
  simp [byfB, this]
theorem byfB_yes (z : List Int) (h : z.length % 2 = 0) (hk : ∀ m, m < z.length → m % 2 = 0 → okF z m = true) : byfB z = true := by
  simp only [byfB, h, Bool.and_eq_true, List.all_eq_true, List.mem_range, Bool.or_eq_true]
  refine ⟨by simp, fun m hm => ?_⟩
  rcases Nat.mod_two_eq_zero_or_one m with h0 | h1
  · exact .inr (hk m hm h0)
  · exact .inl (by simp [h1])
theorem byfB_iff (z : List Int) : byfB z = true ↔ z.length % 2 = 0 ∧ ∀ m, m < z.length → m % 2 = 0 → okF z m = true := by
  constructor
  · intro h
    simp only [byfB, Bool.and_eq_true, List.all_eq_true, List.mem_range, Bool.or_eq_true, beq_iff_eq] at h
    refine ⟨h.1, fun m hm h2 => ?_⟩
    rcases h.2 m hm with h3 | h3
    · omega
    · exact h3
  · exact fun h => byfB_yes z h.1 h.2

/-- zzHas -/
def okH (z : List Int) (x : Int) (m : Nat) : Bool := decide (z.getD m 0 ≤ x) && decide (x ≤ z.getD (m + 1) 0)
def hasB (z : List Int) (x : Int) : Bool := (List.range z.length).any (fun m => m % 2 == 0 && decide (m + 1 < z.length) && okH z x m)
theorem hasB_yes (z : List Int) (x : Int) (m : Nat) (h2 : m % 2 = 0) (h : m + 1 < z.length) (hk : okH z x m = true) : hasB z x = true := by
  simp only [hasB, List.any_eq_true, List.mem_range]
  exact ⟨m, by omega, by simp [h2, h, hk]⟩
theorem hasB_no (z : List Int) (x : Int) (hk : ∀ m, m % 2 = 0 → m + 1 < z.length → okH z x m = false) : hasB z x = false := by
  simp only [hasB, List.any_eq_false, List.mem_range]
  intro m hm
  by_cases h2 : m % 2 = 0
  · by_cases h : m + 1 < z.length
    · simp [hk m h2 h]
    · simp [h]
  · simp [h2]
theorem hasB_iff (z : List Int) (x : Int) : hasB z x = true ↔ ∃ m, m % 2 = 0 ∧ m + 1 < z.length ∧ okH z x m = true := by
  constructor
  · intro h
    simp only [hasB, List.any_eq_true, List.mem_range, Bool.and_eq_true, beq_iff_eq, decide_eq_true_eq] at h
    obtain ⟨m, _, ⟨h1, h2⟩, h3⟩ := h
    exact ⟨m, h1, h2, h3⟩
  · rintro ⟨m, h1, h2, h3⟩
    exact hasB_yes z x m h1 h2 h3

/-- zzSame -/
def sameB (p q : List Int) : Bool := decide (p = q)
theorem sameB_len (p q : List Int) (h : p.length ≠ q.length) : sameB p q = false := by
  simp only [sameB, decide_eq_false_iff_not]; intro e; exact h (by rw [e])
theorem sameB_no (p q : List Int) (i : Nat) (h : p.getD i 0 ≠ q.getD i 0) : sameB p q = false := by
  simp only [sameB, decide_eq_false_iff_not]; intro e; exact h (by rw [e])
theorem sameB_yes (p q : List Int) (hl : p.length = q.length) (h : ∀ i, i < p.length → p.getD i 0 = q.getD i 0) : sameB p q = true := by
  simp only [sameB, decide_eq_true_eq]
  refine List.ext_getElem hl (fun i h1 h2 => ?_)
  have := h i h1
  rw [List.getD_eq_getElem?_getD, List.getD_eq_getElem?_getD, List.getElem?_eq_getElem h1, List.getElem?_eq_getElem h2] at this
  simpa using this

end Go.Proofs.Qxb6600453a.Rg
