/-
  THE PLAIN MATHEMATICS OF RANGE LISTS: no Go in sight. A range list is a 'List (Int × Int)'.
-/
namespace Go.Proofs.Qxb6600453a.Rg

abbrev R := List (Int × Int)

/-- some range of rs holds x -/
def Has (rs : R) (x : Int) : Prop := ∃ r ∈ rs, r.1 ≤ x ∧ x ≤ r.2
/-- every range is in order, and between two ranges there is a gap of at least g -/
def Ch (g : Int) (rs : R) : Prop := (∀ r ∈ rs, r.1 ≤ r.2) ∧ rs.Pairwise (fun r s => r.2 + g ≤ s.1)
/-- every range is in order, firsts never fall -/
def ByF (rs : R) : Prop := (∀ r ∈ rs, r.1 ≤ r.2) ∧ rs.Pairwise (fun r s => r.1 ≤ s.1)
/-- every number is a uint64 -/
def Bd (rs : R) : Prop := ∀ r ∈ rs, (0 ≤ r.1 ∧ r.1 ≤ 18446744073709551615) ∧ 0 ≤ r.2 ∧ r.2 ≤ 18446744073709551615

theorem has_nil (x : Int) : ¬ Has [] x := by rintro ⟨r, h, _⟩; cases h
theorem has_cons (r : Int × Int) (t : R) (x : Int) : Has (r :: t) x ↔ (r.1 ≤ x ∧ x ≤ r.2) ∨ Has t x := by
  constructor
  · rintro ⟨s, hs, h⟩
    rcases List.mem_cons.1 hs with rfl | hs
    · exact .inl h
    · exact .inr ⟨s, hs, h⟩
  · rintro (h | ⟨s, hs, h⟩)
    · exact ⟨r, List.mem_cons_self, h⟩
    · exact ⟨s, List.mem_cons_of_mem _ hs, h⟩
theorem has_append (a b : R) (x : Int) : Has (a ++ b) x ↔ Has a x ∨ Has b x := by
  constructor
  · rintro ⟨s, hs, h⟩
    rcases List.mem_append.1 hs with hs | hs
    · exact .inl ⟨s, hs, h⟩
    · exact .inr ⟨s, hs, h⟩
  · rintro (⟨s, hs, h⟩ | ⟨s, hs, h⟩)
    · exact ⟨s, List.mem_append.2 (.inl hs), h⟩
    · exact ⟨s, List.mem_append.2 (.inr hs), h⟩

theorem ch_nil (g : Int) : Ch g [] := ⟨fun _ h => absurd h List.not_mem_nil, List.Pairwise.nil⟩
theorem ch_cons {g : Int} {r : Int × Int} {t : R} : Ch g (r :: t) ↔ r.1 ≤ r.2 ∧ (∀ s ∈ t, r.2 + g ≤ s.1) ∧ Ch g t := by
  unfold Ch
  rw [List.pairwise_cons]
  constructor
  · rintro ⟨h1, h2, h3⟩
    exact ⟨h1 r List.mem_cons_self, h2, fun s hs => h1 s (List.mem_cons_of_mem _ hs), h3⟩
  · rintro ⟨h1, h2, h3, h4⟩
    refine ⟨fun s hs => ?_, h2, h4⟩
    rcases List.mem_cons.1 hs with rfl | hs
    · exact h1
    · exact h3 s hs
theorem ch_mono {g h : Int} (hgh : h ≤ g) : ∀ {rs : R}, Ch g rs → Ch h rs
  | [], _ => ch_nil h
  | r :: t, c => by
    obtain ⟨h1, h2, h3⟩ := ch_cons.1 c
    exact ch_cons.2 ⟨h1, fun s hs => by have := h2 s hs; omega, ch_mono hgh h3⟩
theorem ch_append {g : Int} {a b : R} : Ch g (a ++ b) ↔ Ch g a ∧ Ch g b ∧ ∀ r ∈ a, ∀ s ∈ b, r.2 + g ≤ s.1 := by
  unfold Ch
  rw [List.pairwise_append]
  constructor
  · rintro ⟨h1, h2, h3, h4⟩
    exact ⟨⟨fun s hs => h1 s (List.mem_append.2 (.inl hs)), h2⟩, ⟨fun s hs => h1 s (List.mem_append.2 (.inr hs)), h3⟩, h4⟩
  · rintro ⟨⟨h1, h2⟩, ⟨h3, h4⟩, h5⟩
    refine ⟨fun s hs => ?_, h2, h4, h5⟩
    rcases List.mem_append.1 hs with hs | hs
    · exact h1 s hs
    · exact h3 s hs
theorem ch_one {g : Int} {r : Int × Int} (h : r.1 ≤ r.2) : Ch g [r] :=
  ch_cons.2 ⟨h, fun _ hs => by simp at hs, ch_nil g⟩
/-! ### A canonical list is told by its set -/
theorem can_unique : ∀ (a b : R), Ch 2 a → Ch 2 b → (∀ x, Has a x ↔ Has b x) → a = b
  | [], [], _, _, _ => rfl
  | [], s :: b, _, hb, h => by
    have := (ch_cons.1 hb).1
    exact absurd ((h s.1).2 ((has_cons _ _ _).2 (.inl ⟨Int.le_refl _, this⟩))) (has_nil _)
  | r :: a, [], ha, _, h => by
    have := (ch_cons.1 ha).1
    exact absurd ((h r.1).1 ((has_cons _ _ _).2 (.inl ⟨Int.le_refl _, this⟩))) (has_nil _)
  | r :: a, s :: b, ha, hb, h => by
    obtain ⟨hr, hra, hca⟩ := ch_cons.1 ha
    obtain ⟨hs, hsb, hcb⟩ := ch_cons.1 hb
    have la : ∀ x, Has a x → r.2 + 2 ≤ x := by rintro x ⟨t, ht, h1, _⟩; have := hra t ht; omega
    have lb : ∀ x, Has b x → s.2 + 2 ≤ x := by rintro x ⟨t, ht, h1, _⟩; have := hsb t ht; omega
    have loA : ∀ x, Has (r :: a) x → r.1 ≤ x := by
      intro x hx; rcases (has_cons _ _ _).1 hx with hx | hx
      · exact hx.1
      · have := la x hx; omega
    have loB : ∀ x, Has (s :: b) x → s.1 ≤ x := by
      intro x hx; rcases (has_cons _ _ _).1 hx with hx | hx
      · exact hx.1
      · have := lb x hx; omega
    have e1 : r.1 = s.1 := by
      have p1 := loB r.1 ((h r.1).1 ((has_cons _ _ _).2 (.inl ⟨Int.le_refl _, hr⟩)))
      have p2 := loA s.1 ((h s.1).2 ((has_cons _ _ _).2 (.inl ⟨Int.le_refl _, hs⟩)))
      omega
    have e2 : r.2 = s.2 := by
      rcases Int.lt_trichotomy r.2 s.2 with hlt | he | hlt
      · have := (h (r.2 + 1)).2 ((has_cons _ _ _).2 (.inl ⟨by omega, by omega⟩))
        rcases (has_cons _ _ _).1 this with hx | hx
        · omega
        · have := la _ hx; omega
      · exact he
      · have := (h (s.2 + 1)).1 ((has_cons _ _ _).2 (.inl ⟨by omega, by omega⟩))
        rcases (has_cons _ _ _).1 this with hx | hx
        · omega
        · have := lb _ hx; omega
    have hrs : r = s := Prod.ext e1 e2
    subst hrs
    have : a = b := by
      refine can_unique a b hca hcb (fun x => ⟨fun hx => ?_, fun hx => ?_⟩)
      · have l := la x hx
        rcases (has_cons _ _ _).1 ((h x).1 ((has_cons _ _ _).2 (.inr hx))) with hy | hy
        · omega
        · exact hy
      · have l := lb x hx
        rcases (has_cons _ _ _).1 ((h x).2 ((has_cons _ _ _).2 (.inr hx))) with hy | hy
        · omega
        · exact hy
    rw [this]

/-! ### subtract -/
/-- what is left of r when the ranges of b are cut out (b sorted; each ends at or behind r's first) -/
def cutR : Int × Int → R → R
  | r, [] => [r]
  | r, c :: b =>
    if r.2 < c.1 then [r]
    else (if r.1 < c.1 then [(r.1, c.1 - 1)] else []) ++ (if r.2 ≤ c.2 then [] else cutR (c.2 + 1, r.2) b)
def skip (f : Int) : R → R
  | [] => []
  | c :: b => if c.2 < f then skip f b else c :: b
def sub : R → R → R
  | [], _ => []
  | r :: a, b => cutR r (skip r.1 b) ++ sub a (skip r.1 b)

theorem skip_suffix (f : Int) : ∀ b : R, ∃ t, b = t ++ skip f b ∧ ∀ c ∈ t, c.2 < f
  | [] => ⟨[], rfl, fun _ h => by cases h⟩
  | c :: b => by
    unfold skip
    by_cases h : c.2 < f
    · obtain ⟨t, e, ht⟩ := skip_suffix f b
      refine ⟨c :: t, by rw [if_pos h, List.cons_append, ← e], fun s hs => ?_⟩
      rcases List.mem_cons.1 hs with rfl | hs
      · exact h
      · exact ht s hs
    · exact ⟨[], by rw [if_neg h]; rfl, fun _ h => by cases h⟩
theorem skip_ge {f : Int} : ∀ {b : R}, Ch 1 b → ∀ c ∈ skip f b, f ≤ c.2
  | [], _, c, h => by cases h
  | d :: b, hb, c, h => by
    obtain ⟨h1, h2, h3⟩ := ch_cons.1 hb
    unfold skip at h
    by_cases hd : d.2 < f
    · rw [if_pos hd] at h; exact skip_ge h3 c h
    · rw [if_neg hd] at h
      rcases List.mem_cons.1 h with rfl | h
      · omega
      · have := h2 c h; have := h3.1 c h; omega
theorem skip_ch {g f : Int} {b : R} (h : Ch g b) : Ch g (skip f b) := by
  obtain ⟨t, e, _⟩ := skip_suffix f b
  rw [e] at h
  exact (ch_append.1 h).2.1

/-- each piece lies in r -/
theorem cut_in : ∀ (b : R) (r : Int × Int), r.1 ≤ r.2 → Ch 1 b → (∀ c ∈ b, r.1 ≤ c.2) → ∀ s ∈ cutR r b, r.1 ≤ s.1 ∧ s.1 ≤ s.2 ∧ s.2 ≤ r.2
  | [], r, hr, _, _, s, hs => by simp [cutR] at hs; subst hs; omega
  | c :: b, r, hr, hb, hc, s, hs => by
    obtain ⟨h1, h2, h3⟩ := ch_cons.1 hb
    have h4 := hc c List.mem_cons_self
    unfold cutR at hs
    by_cases g1 : r.2 < c.1
    · rw [if_pos g1] at hs; simp at hs; subst hs; omega
    · rw [if_neg g1] at hs
      rcases List.mem_append.1 hs with hs | hs
      · by_cases g2 : r.1 < c.1
        · rw [if_pos g2] at hs; simp at hs; subst hs; exact ⟨Int.le_refl _, by show r.1 ≤ c.1 - 1; omega, by show c.1 - 1 ≤ r.2; omega⟩
        · rw [if_neg g2] at hs; cases hs
      · by_cases g3 : r.2 ≤ c.2
        · rw [if_pos g3] at hs; cases hs
        · rw [if_neg g3] at hs
          have := cut_in b (c.2 + 1, r.2) (by show c.2 + 1 ≤ r.2; omega) h3 (fun d hd => by have := h2 d hd; have := h3.1 d hd; show c.2 + 1 ≤ d.2; omega) s hs
          have h5 : c.2 + 1 ≤ s.1 := this.1
          have h6 : s.2 ≤ r.2 := this.2.2
          exact ⟨by omega, this.2.1, h6⟩
theorem cut_has : ∀ (b : R) (r : Int × Int), r.1 ≤ r.2 → Ch 1 b → (∀ c ∈ b, r.1 ≤ c.2) → ∀ x, Has (cutR r b) x ↔ (r.1 ≤ x ∧ x ≤ r.2) ∧ ¬ Has b x
  | [], r, hr, _, _, x => by
    rw [show cutR r [] = [r] from rfl, has_cons]
    exact ⟨fun h => h.elim (fun h => ⟨h, has_nil _⟩) (fun h => absurd h (has_nil _)), fun h => .inl h.1⟩
  | c :: b, r, hr, hb, hc, x => by
    obtain ⟨h1, h2, h3⟩ := ch_cons.1 hb
    have h4 := hc c List.mem_cons_self
    have lb : ∀ y, Has b y → c.2 + 1 ≤ y := by rintro y ⟨t, ht, p1, _⟩; have := h2 t ht; omega
    unfold cutR
    by_cases g1 : r.2 < c.1
    · rw [if_pos g1, has_cons]
      constructor
      · rintro (h | h)
        · refine ⟨h, fun hx => ?_⟩
          rcases (has_cons _ _ _).1 hx with hx | hx
          · omega
          · have := lb x hx; omega
        · exact absurd h (has_nil _)
      · exact fun h => .inl h.1
    · rw [if_neg g1, has_append]
      have left : Has (if r.1 < c.1 then [(r.1, c.1 - 1)] else []) x ↔ (r.1 ≤ x ∧ x < c.1) := by
        by_cases g2 : r.1 < c.1
        · rw [if_pos g2, has_cons]
          constructor
          · rintro (h | h)
            · have h5 : x ≤ c.1 - 1 := h.2
              exact ⟨h.1, by omega⟩
            · exact absurd h (has_nil _)
          · exact fun h => .inl ⟨h.1, by show x ≤ c.1 - 1; omega⟩
        · rw [if_neg g2]
          exact ⟨fun h => absurd h (has_nil _), fun h => by omega⟩
      rw [left, has_cons]
      by_cases g3 : r.2 ≤ c.2
      · rw [if_pos g3]
        constructor
        · rintro (h | h)
          · refine ⟨⟨h.1, by omega⟩, ?_⟩
            rintro (hx | hx)
            · omega
            · have := lb x hx; omega
          · exact absurd h (has_nil _)
        · rintro ⟨h5, h6⟩
          refine .inl ⟨h5.1, ?_⟩
          by_cases hx : x < c.1
          · exact hx
          · exact absurd (.inl ⟨by omega, by omega⟩) h6
      · rw [if_neg g3, cut_has b (c.2 + 1, r.2) (by show c.2 + 1 ≤ r.2; omega) h3 (fun d hd => by have := h2 d hd; have := h3.1 d hd; show c.2 + 1 ≤ d.2; omega) x]
        show _ ∨ (c.2 + 1 ≤ x ∧ x ≤ r.2) ∧ ¬ Has b x ↔ _
        constructor
        · rintro (h | ⟨h5, h6⟩)
          · refine ⟨⟨h.1, by omega⟩, ?_⟩
            rintro (hx | hx)
            · omega
            · have := lb x hx; omega
          · exact ⟨⟨by omega, h5.2⟩, fun hx => hx.elim (fun hx => by omega) h6⟩
        · rintro ⟨h5, h6⟩
          by_cases hx : x < c.1
          · exact .inl ⟨h5.1, hx⟩
          · refine .inr ⟨⟨?_, h5.2⟩, fun hb => h6 (.inr hb)⟩
            by_cases hx2 : x ≤ c.2
            · exact absurd (.inl ⟨by omega, hx2⟩) h6
            · omega
theorem cut_ch : ∀ (b : R) (r : Int × Int), r.1 ≤ r.2 → Ch 1 b → (∀ c ∈ b, r.1 ≤ c.2) → Ch 2 (cutR r b)
  | [], r, hr, _, _ => ch_one hr
  | c :: b, r, hr, hb, hc => by
    obtain ⟨h1, h2, h3⟩ := ch_cons.1 hb
    have h4 := hc c List.mem_cons_self
    unfold cutR
    by_cases g1 : r.2 < c.1
    · rw [if_pos g1]; exact ch_one hr
    · rw [if_neg g1]
      refine ch_append.2 ⟨?_, ?_, ?_⟩
      · by_cases g2 : r.1 < c.1
        · rw [if_pos g2]; exact ch_one (by show r.1 ≤ c.1 - 1; omega)
        · rw [if_neg g2]; exact ch_nil 2
      · by_cases g3 : r.2 ≤ c.2
        · rw [if_pos g3]; exact ch_nil 2
        · rw [if_neg g3]
          exact cut_ch b (c.2 + 1, r.2) (by show c.2 + 1 ≤ r.2; omega) h3 (fun d hd => by have := h2 d hd; have := h3.1 d hd; show c.2 + 1 ≤ d.2; omega)
      · intro p hp s hs
        by_cases g2 : r.1 < c.1
        · rw [if_pos g2] at hp; simp at hp; subst hp
          by_cases g3 : r.2 ≤ c.2
          · rw [if_pos g3] at hs; cases hs
          · rw [if_neg g3] at hs
            have := (cut_in b (c.2 + 1, r.2) (by show c.2 + 1 ≤ r.2; omega) h3 (fun d hd => by have := h2 d hd; have := h3.1 d hd; show c.2 + 1 ≤ d.2; omega) s hs).1
            have h5 : c.2 + 1 ≤ s.1 := this
            show c.1 - 1 + 2 ≤ s.1
            omega
        · rw [if_neg g2] at hp; cases hp
theorem cut_len : ∀ (b : R) (r : Int × Int), r.1 ≤ r.2 → Ch 1 b → (∀ c ∈ b, r.1 ≤ c.2) → (cutR r b).length ≤ 1 + b.countP (fun c => decide (r.1 < c.1 ∧ c.1 ≤ r.2))
  | [], r, _, _, _ => by simp [cutR]
  | c :: b, r, hr, hb, hc => by
    obtain ⟨h1, h2, h3⟩ := ch_cons.1 hb
    have h4 := hc c List.mem_cons_self
    unfold cutR
    by_cases g1 : r.2 < c.1
    · rw [if_pos g1]; simp
    · rw [if_neg g1, List.length_append, List.countP_cons]
      have l1 : (if r.1 < c.1 then [(r.1, c.1 - 1)] else []).length ≤ (if decide (r.1 < c.1 ∧ c.1 ≤ r.2) = true then 1 else 0) := by
        by_cases g2 : r.1 < c.1
        · rw [if_pos g2, if_pos (by simp; omega)]; simp
        · rw [if_neg g2]; simp
      by_cases g3 : r.2 ≤ c.2
      · rw [if_pos g3]; simp only [List.length_nil]; omega
      · rw [if_neg g3]
        have ih := cut_len b (c.2 + 1, r.2) (by show c.2 + 1 ≤ r.2; omega) h3 (fun d hd => by have := h2 d hd; have := h3.1 d hd; show c.2 + 1 ≤ d.2; omega)
        have mono : b.countP (fun d => decide ((c.2 + 1, r.2).1 < d.1 ∧ d.1 ≤ (c.2 + 1, r.2).2)) ≤ b.countP (fun d => decide (r.1 < d.1 ∧ d.1 ≤ r.2)) := by
          refine List.countP_mono_left (fun d hd p => ?_)
          have p' : c.2 + 1 < d.1 ∧ d.1 ≤ r.2 := of_decide_eq_true p
          exact decide_eq_true ⟨by omega, p'.2⟩
        omega

theorem sub_in : ∀ (a b : R), Ch 1 a → Ch 1 b → ∀ s ∈ sub a b, (∃ r ∈ a, r.1 ≤ s.1 ∧ s.2 ≤ r.2) ∧ s.1 ≤ s.2
  | [], _, _, _, s, hs => by cases hs
  | r :: a, b, ha, hb, s, hs => by
    obtain ⟨h1, h2, h3⟩ := ch_cons.1 ha
    unfold sub at hs
    rcases List.mem_append.1 hs with hs | hs
    · have := cut_in _ r h1 (skip_ch hb) (skip_ge hb) s hs
      exact ⟨⟨r, List.mem_cons_self, this.1, this.2.2⟩, this.2.1⟩
    · obtain ⟨⟨t, ht, h⟩, h5⟩ := sub_in a _ h3 (skip_ch hb) s hs
      exact ⟨⟨t, List.mem_cons_of_mem _ ht, h⟩, h5⟩
theorem sub_has : ∀ (a b : R), Ch 1 a → Ch 1 b → ∀ x, Has (sub a b) x ↔ Has a x ∧ ¬ Has b x
  | [], b, _, _, x => ⟨fun h => absurd h (has_nil _), fun h => absurd h.1 (has_nil _)⟩
  | r :: a, b, ha, hb, x => by
    obtain ⟨h1, h2, h3⟩ := ch_cons.1 ha
    unfold sub
    rw [has_append, cut_has _ r h1 (skip_ch hb) (skip_ge hb), sub_has a _ h3 (skip_ch hb) x, has_cons]
    obtain ⟨t, e, ht⟩ := skip_suffix r.1 b
    have same : r.1 ≤ x → (Has b x ↔ Has (skip r.1 b) x) := by
      intro hx
      have : Has b x ↔ Has (t ++ skip r.1 b) x := by rw [← e]
      rw [this, has_append]
      refine ⟨fun h => h.elim (fun ⟨c, hc, p⟩ => ?_) id, .inr⟩
      have := ht c hc
      omega
    have la : Has a x → r.1 ≤ x := by rintro ⟨s, hs, p, _⟩; have := h2 s hs; omega
    constructor
    · rintro (⟨h, g⟩ | ⟨h, g⟩)
      · exact ⟨.inl h, fun k => g ((same h.1).1 k)⟩
      · exact ⟨.inr h, fun k => g ((same (la h)).1 k)⟩
    · rintro ⟨h | h, g⟩
      · exact .inl ⟨h, fun k => g ((same h.1).2 k)⟩
      · exact .inr ⟨h, fun k => g ((same (la h)).2 k)⟩
theorem sub_ch {g : Int} (hg1 : 1 ≤ g) (hg2 : g ≤ 2) : ∀ (a b : R), Ch g a → Ch 1 b → Ch g (sub a b)
  | [], _, _, _ => ch_nil g
  | r :: a, b, ha, hb => by
    obtain ⟨h1, h2, h3⟩ := ch_cons.1 ha
    unfold sub
    refine ch_append.2 ⟨ch_mono hg2 (cut_ch _ r h1 (skip_ch hb) (skip_ge hb)), sub_ch hg1 hg2 a _ h3 (skip_ch hb), fun p hp s hs => ?_⟩
    have q1 := cut_in _ r h1 (skip_ch hb) (skip_ge hb) p hp
    obtain ⟨⟨t, ht, q2⟩, _⟩ := sub_in a _ (ch_mono hg1 h3) (skip_ch hb) s hs
    have := h2 t ht
    omega
theorem sub_len_lo : ∀ (a b : R) (lo : Int), Ch 1 a → Ch 1 b → (∀ r ∈ a, lo ≤ r.1) → (sub a b).length ≤ a.length + b.countP (fun c => decide (lo < c.1))
  | [], _, _, _, _, _ => by simp [sub]
  | r :: a, b, lo, ha, hb, hlo => by
    obtain ⟨h1, h2, h3⟩ := ch_cons.1 ha
    unfold sub
    rw [List.length_append, List.length_cons]
    have i1 := cut_len _ r h1 (skip_ch (f := r.1) hb) (skip_ge hb)
    have i2 := sub_len_lo a (skip r.1 b) r.2 h3 (skip_ch hb) (fun s hs => by have := h2 s hs; omega)
    have h5 := hlo r List.mem_cons_self
    have key : ∀ l : R, l.countP (fun c => decide (r.1 < c.1 ∧ c.1 ≤ r.2)) + l.countP (fun c => decide (r.2 < c.1)) ≤ l.countP (fun c => decide (lo < c.1)) := by
      intro l
      induction l with
      | nil => simp
      | cons c l ih =>
        rw [List.countP_cons, List.countP_cons, List.countP_cons]
        by_cases p1 : r.2 < c.1
        · rw [if_neg (by simp; omega), if_pos (by simpa using p1), if_pos (by simp; omega)]; omega
        · by_cases p2 : r.1 < c.1
          · rw [if_pos (by simp; omega), if_neg (by simpa using p1), if_pos (by simp; omega)]; omega
          · rw [if_neg (by simp; omega), if_neg (by simpa using p1)]; omega
    have k1 := key (skip r.1 b)
    obtain ⟨t, e, _⟩ := skip_suffix r.1 b
    have k2 : (skip r.1 b).countP (fun c => decide (lo < c.1)) ≤ b.countP (fun c => decide (lo < c.1)) := by
      have : b.countP (fun c => decide (lo < c.1)) = (t ++ skip r.1 b).countP (fun c => decide (lo < c.1)) := by rw [← e]
      rw [this, List.countP_append]; omega
    omega
theorem sub_len (a b : R) (ha : Ch 1 a) (hb : Ch 1 b) : (sub a b).length ≤ a.length + b.length := by
  cases a with
  | nil => simp [sub]
  | cons r a =>
    obtain ⟨h1, h2, h3⟩ := ch_cons.1 ha
    have := sub_len_lo (r :: a) b r.1 ha hb (fun s hs => by
      rcases List.mem_cons.1 hs with rfl | hs
      · exact Int.le_refl _
      · have := h2 s hs; omega)
    have := List.countP_le_length (p := fun c : Int × Int => decide (r.1 < c.1)) (l := b)
    omega
theorem sub_bd (a b : R) (ha : Ch 1 a) (hb : Ch 1 b) (h : Bd a) : Bd (sub a b) := by
  intro s hs
  obtain ⟨⟨r, hr, h1, h2⟩, h3⟩ := sub_in a b ha hb s hs
  have := h r hr
  omega

/-! ### union -/
def push (out : R) (r : Int × Int) : R :=
  match out.getLast? with
  | none => out ++ [r]
  | some l => if r.1 ≤ l.2 ∨ r.1 - 1 = l.2 then out.dropLast ++ [(l.1, max l.2 r.2)] else out ++ [r]
/-- the merge by firsts, each range pushed; n: at least so many ranges as there are -/
def uniN : Nat → R → R → R → R
  | 0, out, _, _ => out
  | _ + 1, out, [], [] => out
  | n + 1, out, r :: a, [] => uniN n (push out r) a []
  | n + 1, out, [], s :: b => uniN n (push out s) [] b
  | n + 1, out, r :: a, s :: b => if r.1 ≤ s.1 then uniN n (push out r) a (s :: b) else uniN n (push out s) (r :: a) b
def uni (a b : R) : R := uniN (a.length + b.length) [] a b

theorem push_split (out : R) (r : Int × Int) : (out = [] ∧ push out r = [r]) ∨ ∃ t l, out = t ++ [l] ∧
    push out r = if r.1 ≤ l.2 ∨ r.1 - 1 = l.2 then t ++ [(l.1, max l.2 r.2)] else out ++ [r] := by
  rcases List.eq_nil_or_concat out with rfl | ⟨t, l, rfl⟩
  · exact .inl ⟨rfl, rfl⟩
  · refine .inr ⟨t, l, by simp, ?_⟩
    simp [push]

theorem push_facts (out : R) (r : Int × Int) (ho : Ch 2 out) (hr : r.1 ≤ r.2) (hlo : ∀ l ∈ out, l.1 ≤ r.1) :
    Ch 2 (push out r) ∧ (∀ x, Has (push out r) x ↔ Has out x ∨ (r.1 ≤ x ∧ x ≤ r.2)) ∧ (∀ l ∈ push out r, l.1 ≤ r.1) ∧ (push out r).length ≤ out.length + 1 := by
  rcases push_split out r with ⟨rfl, e⟩ | ⟨t, l, rfl, e⟩
  · rw [e]
    refine ⟨ch_one hr, fun x => ?_, fun l hl => ?_, by simp⟩
    · rw [has_cons]
      exact ⟨fun h => h.elim .inr (fun h => absurd h (has_nil _)), fun h => h.elim (fun h => absurd h (has_nil _)) .inl⟩
    · simp at hl; subst hl; exact Int.le_refl _
  · obtain ⟨c1, c2, c3⟩ := ch_append.1 ho
    have hl : l.1 ≤ l.2 := c2.1 l (by simp)
    have hlr : l.1 ≤ r.1 := hlo l (by simp)
    rw [e]
    by_cases g : r.1 ≤ l.2 ∨ r.1 - 1 = l.2
    · rw [if_pos g]
      have e3 : (max l.2 r.2 = l.2 ∧ r.2 ≤ l.2) ∨ (max l.2 r.2 = r.2 ∧ l.2 ≤ r.2) := by omega
      refine ⟨ch_append.2 ⟨c1, ch_one (by show l.1 ≤ max l.2 r.2; omega), fun p hp s hs => ?_⟩, fun x => ?_, fun m hm => ?_, by simp⟩
      · simp at hs; subst hs
        exact c3 p hp l (by simp)
      · rw [has_append, has_append, has_cons, has_cons]
        show Has t x ∨ (l.1 ≤ x ∧ x ≤ max l.2 r.2) ∨ _ ↔ _
        have hn := has_nil x
        constructor
        · rintro (h | h | h)
          · exact .inl (.inl h)
          · by_cases hx : x ≤ l.2
            · exact .inl (.inr (.inl ⟨h.1, hx⟩))
            · exact .inr ⟨by omega, by omega⟩
          · exact absurd h hn
        · rintro ((h | h | h) | h)
          · exact .inl h
          · exact .inr (.inl ⟨h.1, by omega⟩)
          · exact absurd h hn
          · exact .inr (.inl ⟨by omega, by omega⟩)
      · rcases List.mem_append.1 hm with hm | hm
        · exact hlo m (List.mem_append.2 (.inl hm))
        · simp at hm; subst hm; exact hlr
    · rw [if_neg g]
      refine ⟨ch_append.2 ⟨ho, ch_one hr, fun p hp s hs => ?_⟩, fun x => ?_, fun m hm => ?_, by simp⟩
      · simp at hs; subst hs
        rcases List.mem_append.1 hp with hp | hp
        · have := c3 p hp l (by simp); omega
        · simp at hp; subst hp; omega
      · rw [has_append, has_cons]
        exact ⟨fun h => h.elim .inl (fun h => h.elim .inr (fun h => absurd h (has_nil _))), fun h => h.elim .inl (fun h => .inr (.inl h))⟩
      · rcases List.mem_append.1 hm with hm | hm
        · exact hlo m hm
        · simp at hm; subst hm; exact Int.le_refl _

theorem byF_cons {r : Int × Int} {t : R} : ByF (r :: t) ↔ r.1 ≤ r.2 ∧ (∀ s ∈ t, r.1 ≤ s.1) ∧ ByF t := by
  unfold ByF
  rw [List.pairwise_cons]
  constructor
  · rintro ⟨h1, h2, h3⟩
    exact ⟨h1 r List.mem_cons_self, h2, fun s hs => h1 s (List.mem_cons_of_mem _ hs), h3⟩
  · rintro ⟨h1, h2, h3, h4⟩
    refine ⟨fun s hs => ?_, h2, h4⟩
    rcases List.mem_cons.1 hs with rfl | hs
    · exact h1
    · exact h3 s hs
theorem byF_nil : ByF [] := ⟨fun _ h => absurd h List.not_mem_nil, List.Pairwise.nil⟩
theorem ch_byF {g : Int} (hg : 0 ≤ g) : ∀ {rs : R}, Ch g rs → ByF rs
  | [], _ => byF_nil
  | r :: t, c => by
    obtain ⟨h1, h2, h3⟩ := ch_cons.1 c
    exact byF_cons.2 ⟨h1, fun s hs => by have := h2 s hs; omega, ch_byF hg h3⟩

theorem uniN_facts : ∀ (n : Nat) (out a b : R), a.length + b.length ≤ n → Ch 2 out → ByF a → ByF b → (∀ l ∈ out, (∀ r ∈ a, l.1 ≤ r.1) ∧ ∀ r ∈ b, l.1 ≤ r.1) →
    Ch 2 (uniN n out a b) ∧ (∀ x, Has (uniN n out a b) x ↔ Has out x ∨ Has a x ∨ Has b x) ∧ (uniN n out a b).length ≤ out.length + a.length + b.length
  | 0, out, a, b, hn, ho, _, _, _ => by
    have ha0 : a = [] := List.eq_nil_of_length_eq_zero (by omega)
    have hb0 : b = [] := List.eq_nil_of_length_eq_zero (by omega)
    subst ha0; subst hb0
    exact ⟨ho, fun x => ⟨.inl, fun h => h.elim id (fun h => absurd (h.elim id id) (has_nil _))⟩, by simp [uniN]⟩
  | n + 1, out, [], [], _, ho, _, _, _ =>
    ⟨ho, fun x => ⟨.inl, fun h => h.elim id (fun h => absurd (h.elim id id) (has_nil _))⟩, by simp [uniN]⟩
  | n + 1, out, r :: a, [], hn, ho, ha, hb, hl => by
    obtain ⟨h1, h2, h3⟩ := byF_cons.1 ha
    obtain ⟨p1, p2, p3, p4⟩ := push_facts out r ho h1 (fun l h => (hl l h).1 r List.mem_cons_self)
    obtain ⟨q1, q2, q3⟩ := uniN_facts n (push out r) a [] (by simp at hn ⊢; omega) p1 h3 hb (fun l h => ⟨fun s hs => by have := p3 l h; have := h2 s hs; omega, fun s hs => by cases hs⟩)
    refine ⟨q1, fun x => ?_, by simp only [List.length_cons]; simp only [uniN]; omega⟩
    show Has (uniN n (push out r) a []) x ↔ _
    rw [q2, p2, has_cons]
    constructor
    · rintro ((h | h) | h | h)
      · exact .inl h
      · exact .inr (.inl (.inl h))
      · exact .inr (.inl (.inr h))
      · exact .inr (.inr h)
    · rintro (h | (h | h) | h)
      · exact .inl (.inl h)
      · exact .inl (.inr h)
      · exact .inr (.inl h)
      · exact .inr (.inr h)
  | n + 1, out, [], s :: b, hn, ho, ha, hb, hl => by
    obtain ⟨h1, h2, h3⟩ := byF_cons.1 hb
    obtain ⟨p1, p2, p3, p4⟩ := push_facts out s ho h1 (fun l h => (hl l h).2 s List.mem_cons_self)
    obtain ⟨q1, q2, q3⟩ := uniN_facts n (push out s) [] b (by simp at hn ⊢; omega) p1 ha h3 (fun l h => ⟨fun s hs => absurd hs List.not_mem_nil, fun t ht => by have := p3 l h; have := h2 t ht; omega⟩)
    refine ⟨q1, fun x => ?_, by simp only [List.length_cons]; simp only [uniN]; omega⟩
    show Has (uniN n (push out s) [] b) x ↔ _
    rw [q2, p2, has_cons]
    constructor
    · rintro ((h | h) | h | h)
      · exact .inl h
      · exact .inr (.inr (.inl h))
      · exact .inr (.inl h)
      · exact .inr (.inr (.inr h))
    · rintro (h | h | (h | h))
      · exact .inl (.inl h)
      · exact .inr (.inl h)
      · exact .inl (.inr h)
      · exact .inr (.inr h)
  | n + 1, out, r :: a, s :: b, hn, ho, ha, hb, hl => by
    obtain ⟨h1, h2, h3⟩ := byF_cons.1 ha
    obtain ⟨g1, g2, g3⟩ := byF_cons.1 hb
    unfold uniN
    by_cases c : r.1 ≤ s.1
    · rw [if_pos c]
      obtain ⟨p1, p2, p3, p4⟩ := push_facts out r ho h1 (fun l h => (hl l h).1 r List.mem_cons_self)
      obtain ⟨q1, q2, q3⟩ := uniN_facts n (push out r) a (s :: b) (by simp at hn ⊢; omega) p1 h3 hb (fun l h => ⟨fun t ht => by have := p3 l h; have := h2 t ht; omega, fun t ht => by
        have := p3 l h
        rcases List.mem_cons.1 ht with rfl | ht
        · omega
        · have := g2 t ht; omega⟩)
      refine ⟨q1, fun x => ?_, by simp only [List.length_cons] at q3 ⊢; omega⟩
      rw [q2, p2, has_cons r]
      constructor
      · rintro ((h | h) | h | h)
        · exact .inl h
        · exact .inr (.inl (.inl h))
        · exact .inr (.inl (.inr h))
        · exact .inr (.inr h)
      · rintro (h | (h | h) | h)
        · exact .inl (.inl h)
        · exact .inl (.inr h)
        · exact .inr (.inl h)
        · exact .inr (.inr h)
    · rw [if_neg c]
      obtain ⟨p1, p2, p3, p4⟩ := push_facts out s ho g1 (fun l h => (hl l h).2 s List.mem_cons_self)
      obtain ⟨q1, q2, q3⟩ := uniN_facts n (push out s) (r :: a) b (by simp at hn ⊢; omega) p1 ha g3 (fun l h => ⟨fun t ht => by
        have := p3 l h
        rcases List.mem_cons.1 ht with rfl | ht
        · omega
        · have := h2 t ht; omega, fun t ht => by have := p3 l h; have := g2 t ht; omega⟩)
      refine ⟨q1, fun x => ?_, by simp only [List.length_cons] at q3 ⊢; omega⟩
      rw [q2, p2, has_cons s]
      constructor
      · rintro ((h | h) | h | h)
        · exact .inl h
        · exact .inr (.inr (.inl h))
        · exact .inr (.inl h)
        · exact .inr (.inr (.inr h))
      · rintro (h | h | (h | h))
        · exact .inl (.inl h)
        · exact .inr (.inl h)
        · exact .inl (.inr h)
        · exact .inr (.inr h)

theorem uni_ch (a b : R) (ha : ByF a) (hb : ByF b) : Ch 2 (uni a b) :=
  (uniN_facts _ [] a b (Nat.le_refl _) (ch_nil 2) ha hb (fun _ h => by cases h)).1
theorem uni_has (a b : R) (ha : ByF a) (hb : ByF b) (x : Int) : Has (uni a b) x ↔ Has a x ∨ Has b x := by
  rw [uni, (uniN_facts _ [] a b (Nat.le_refl _) (ch_nil 2) ha hb (fun _ h => by cases h)).2.1 x]
  exact ⟨fun h => h.elim (fun h => absurd h (has_nil _)) id, .inr⟩
theorem uni_len (a b : R) (ha : ByF a) (hb : ByF b) : (uni a b).length ≤ a.length + b.length := by
  have := (uniN_facts _ [] a b (Nat.le_refl _) (ch_nil 2) ha hb (fun _ h => by cases h)).2.2
  simpa [uni] using this

theorem push_bd (out : R) (r : Int × Int) (ho : Bd out) (hr : (0 ≤ r.1 ∧ r.1 ≤ 18446744073709551615) ∧ 0 ≤ r.2 ∧ r.2 ≤ 18446744073709551615) : Bd (push out r) := by
  intro s hs
  rcases push_split out r with ⟨rfl, e⟩ | ⟨t, l, rfl, e⟩
  · rw [e] at hs; simp at hs; subst hs; exact hr
  · rw [e] at hs
    have hl := ho l (by simp)
    by_cases g : r.1 ≤ l.2 ∨ r.1 - 1 = l.2
    · rw [if_pos g] at hs
      rcases List.mem_append.1 hs with hs | hs
      · exact ho s (List.mem_append.2 (.inl hs))
      · simp at hs; subst hs
        show (0 ≤ l.1 ∧ l.1 ≤ _) ∧ 0 ≤ max l.2 r.2 ∧ max l.2 r.2 ≤ _
        omega
    · rw [if_neg g] at hs
      rcases List.mem_append.1 hs with hs | hs
      · exact ho s hs
      · simp at hs; subst hs; exact hr
theorem bd_cons {r : Int × Int} {t : R} : Bd (r :: t) ↔ ((0 ≤ r.1 ∧ r.1 ≤ 18446744073709551615) ∧ 0 ≤ r.2 ∧ r.2 ≤ 18446744073709551615) ∧ Bd t := by
  constructor
  · exact fun h => ⟨h r List.mem_cons_self, fun s hs => h s (List.mem_cons_of_mem _ hs)⟩
  · rintro ⟨h1, h2⟩ s hs
    rcases List.mem_cons.1 hs with rfl | hs
    · exact h1
    · exact h2 s hs
theorem uniN_bd : ∀ (n : Nat) (out a b : R), Bd out → Bd a → Bd b → Bd (uniN n out a b)
  | 0, _, _, _, ho, _, _ => ho
  | _ + 1, _, [], [], ho, _, _ => ho
  | n + 1, out, r :: a, [], ho, ha, hb => uniN_bd n (push out r) a [] (push_bd out r ho (bd_cons.1 ha).1) (bd_cons.1 ha).2 hb
  | n + 1, out, [], s :: b, ho, ha, hb => uniN_bd n (push out s) [] b (push_bd out s ho (bd_cons.1 hb).1) ha (bd_cons.1 hb).2
  | n + 1, out, r :: a, s :: b, ho, ha, hb => by
    unfold uniN
    by_cases c : r.1 ≤ s.1
    · rw [if_pos c]; exact uniN_bd n (push out r) a (s :: b) (push_bd out r ho (bd_cons.1 ha).1) (bd_cons.1 ha).2 hb
    · rw [if_neg c]; exact uniN_bd n (push out s) (r :: a) b (push_bd out s ho (bd_cons.1 hb).1) ha (bd_cons.1 hb).2
theorem uni_bd (a b : R) (ha : Bd a) (hb : Bd b) : Bd (uni a b) := uniN_bd _ _ _ _ (fun _ h => by cases h) ha hb

end Go.Proofs.Qxb6600453a.Rg
