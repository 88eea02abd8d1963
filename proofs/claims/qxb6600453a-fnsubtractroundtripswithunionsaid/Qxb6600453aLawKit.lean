/-
  WHAT ALL THE LAWS' WALKS SHARE: an argument's view; the bounds on total length (zzBytes_..); the copy that is laid first.
-/
import Derived.Test.Qxb6600453aReads
import Derived.Test.Qxb6600453aZSub
import Derived.Laws.CopyOwn
import Derived.WalkSpells
namespace Go.Proofs.Qxb6600453a
open Go.RowKit

/-- an argument as it came in -/
def Inp (w : World) (a : Option Addr) (l : Nat) (z : List Int) : Prop := Rd w a z ∧ z.length = l ∧ U64 z ∧ l ≤ maxLen ∧ (a = none → l = 0)
theorem inp_of {w : World} {a : Option Addr} {len cap : Nat} {zs : List Int}
    (h : (a = none ∧ len = 0 ∧ cap = 0 ∧ zs = []) ∨ ∃ x, a = some x ∧ len ≤ cap ∧ cap ≤ maxLen ∧ zs.length = cap ∧ (∀ i, i < zs.length → w.cell? (x.add i) = some (.int .u64 (zs.getD i 0))) ∧ ∀ n ∈ zs, (Lit.int .u64 n).wf = true) :
    ∃ z, Inp w a len z := by
  rcases h with ⟨rfl, rfl, rfl, rfl⟩ | ⟨x, rfl, hlc, hcm, hz, hc, hwf⟩
  · exact ⟨[], .inl rfl, rfl, u64_nil, Nat.zero_le _, fun _ => rfl⟩
  · have hu : ∀ n ∈ zs, 0 ≤ n ∧ n ≤ 18446744073709551615 := fun n hn => by
      have := hwf n hn
      simp [Lit.wf, IntKind.min, IntKind.max, IntKind.signed, IntKind.bits] at this
      omega
    have hut : ∀ t : List Int, (∀ n ∈ t, 0 ≤ n ∧ n ≤ 18446744073709551615) → U64 t := by
      intro t
      induction t with
      | nil => exact fun _ => u64_nil
      | cons a t ih => exact fun h => u64_cons.2 ⟨h a List.mem_cons_self, ih fun n hn => h n (List.mem_cons_of_mem _ hn)⟩
    refine ⟨zs.take len, ?_, by rw [List.length_take]; omega, hut _ fun n hn => hu n (List.mem_of_mem_take hn), by omega, fun e => by cases e⟩
    by_cases h0 : zs.length = 0
    · left
      rw [List.eq_nil_of_length_eq_zero h0]
      simp
    · obtain ⟨b, off, spot⟩ := x
      have hs : spot = none := by simpa [Addr.add] using World.cell?_spot (hc 0 (by omega))
      subst hs
      refine .inr ⟨b, off, rfl, fun i hi => ?_⟩
      rw [List.length_take] at hi
      have := hc i (by omega)
      rw [show (⟨b, off, none⟩ : Addr).add i = ⟨b, off + i, none⟩ from by unfold Addr.add; split <;> simp_all] at this
      rw [this]
      congr 2
      simp [show i < len from by omega]

/-! ### 'zzc := make([]uint64, len(a)); copy(zzc, a)' -/
theorem copy_src {w : World} {a : Option Addr} {z : List Int} (h : Rd w a z) : 0 < (cei z).length → ∃ ad, a = some ad ∧ ∀ j v, (cei z)[j]? = some v → w.cell? (ad.add j) = some v := by
  intro h0
  rcases h with rfl | ⟨b, off, rfl, hc⟩
  · simp [cei] at h0
  · refine ⟨_, rfl, fun j v hj => ?_⟩
    have hl : j < z.length := by
      have := (List.getElem?_eq_some_iff.1 hj).1
      simpa [cei] using this
    rw [show (⟨b, off, none⟩ : Addr).add j = ⟨b, off + j, none⟩ from by unfold Addr.add; split <;> simp_all, hc j hl, ← cei_get z j hl, hj]
theorem rd_grown {w w' : World} {a : Option Addr} {z : List Int} (h : Rd w a z) (hg : w.grownBy w' none) : Rd w' a z :=
  h.below ((Below.refl _ _).grown hg (Nat.le_refl _) (fun k e => by cases e))
theorem made_row {w : World} {base g n cap : Nat} {xs : List Value} (h : w.ownsRow base 23 1 (.slice (some ⟨g, 0, none⟩) n cap) n xs) (hc : cap = n) : base ≤ g ∧ ∃ cur : List Value, cur.length = n ∧ w.heap[g]? = some (.cells cur.toArray 23 (0, 0)) := by
  rcases h.2 with ⟨h, _⟩ | ⟨g', c', cur, hv, hb, hg, _, _, hs, _⟩
  · cases h
  · simp only [Value.slice.injEq, Option.some.injEq, Addr.mk.injEq, and_true, true_and] at hv
    obtain ⟨rfl, rfl⟩ := hv
    exact ⟨hb, cur.toList, by simp [hs, hc], by simpa using hg⟩
theorem rd_of_splice {w : World} {g : Nat} {cur : List Value} {z : List Int} (h : w.heap[g]? = some (.cells (splice cur 0 (cei z)).toArray 23 (0, 0))) (hl : cur.length = z.length) : Rd w (some ⟨g, 0, none⟩) z := by
  refine .inr ⟨g, 0, rfl, fun i hi => ?_⟩
  have e : splice cur 0 (cei z) = cei z := by simp [splice, cei, hl]
  rw [e] at h
  rw [Nat.zero_add, cell_of_row w g i _ 23 (0, 0) h]
  have := cei_get z i hi
  simpa using this
theorem cei_length (z : List Int) : (cei z).length = z.length := by simp [cei]
theorem cei_oneCell (z : List Int) : ∀ v ∈ cei z, v.oneCell' = true := by
  intro v hv
  simp only [cei, List.mem_map] at hv
  obtain ⟨n, _, rfl⟩ := hv
  rfl
theorem info23l : (Try.prog.info? 23).map (fun i => (i.zero, i.size, i.bytes)) = some (some (.int .u64 0), 1, 8) := by kernel_rfl
theorem size23 : (Try.prog.info? 23).map (·.size) = some 1 := by kernel_rfl

theorem bytes9_yes (a b : Option Addr) (la ca lb cb : Nat) (x : Int) (w : World) (h : la + lb ≤ 1048576) :
    Calls Try.prog 9 #[.slice a la ca, .slice b lb cb, .int .u64 x] w fun e w' => e = .returned (.bool true) ∧ w = w' := by
  go_enter Try.func9, Try.ntmps9
  go_wp2
  go_ret
  exact ⟨rfl, rfl⟩
theorem bytes9_no (a b : Option Addr) (la ca lb cb : Nat) (x : Int) (w : World) (h : ¬ la + lb ≤ 1048576) :
    Calls Try.prog 9 #[.slice a la ca, .slice b lb cb, .int .u64 x] w fun e w' => e = .returned (.bool false) ∧ w = w' := by
  go_enter Try.func9, Try.ntmps9
  go_wp2
  all_goals
    go_ret
    exact ⟨rfl, rfl⟩

end Go.Proofs.Qxb6600453a
