/-
  THE WALK OF subtract (23).
-/
import Derived.Test.Qxb6600453aProg
import Derived.Test.Qxb6600453aCells
import Derived.WalkKit
import Derived.WalkSpells
import Derived.StillTactics
import Derived.OwnWalk
import Derived.Laws.Pointers
import Derived.Deep.LoopGhost
import Derived.Deep.QuietTactic
import Derived.BigQuiet
import Derived.Deep.DeepCutAuto
import Derived.Deep.CutBlock
import Derived.Deep.AppendLies
import Derived.KernelRfl
namespace Go.Proofs.Qxb6600453a
open Go.RowKit

theorem info35s : (Try.prog.info? 35).map (fun i => (i.zero, i.size, i.bytes)) = some (some (.agg #[.int .u64 0, .int .u64 0]), 2, 16) := by kernel_rfl

theorem skip_on {x p q : Int} {t b : Rg.R} (h : Rg.skip x ((p, q) :: t) = Rg.skip x b) (hq : q < x) : Rg.skip x t = Rg.skip x b := by
  rw [← h]; simp only [Rg.skip]; rw [if_pos hq]
theorem skip_off {x p q : Int} {t b : Rg.R} (h : Rg.skip x ((p, q) :: t) = Rg.skip x b) (hq : x ≤ q) : (p, q) :: t = Rg.skip x b := by
  rw [← h]; simp only [Rg.skip]; rw [if_neg (by omega)]

theorem sub_step {ra rb b b2 out : Rg.R} {k : Nat} {x y : Int} (h : out ++ Rg.sub (ra.drop k) b = Rg.sub ra rb) (hs : b2 = Rg.skip x b) (hx : (ra.getD k (0, 0)).1 = x) (hy : (ra.getD k (0, 0)).2 = y) (hk : k < ra.length) :
    (out ++ Rg.cutR (x, y) b2) ++ Rg.sub (ra.drop (k + 1)) b2 = Rg.sub ra rb := by
  rw [← h, drop_at ra k hk, show ra.getD k (0, 0) = (x, y) from Prod.ext hx hy, hs, List.append_assoc]
  rfl
/-- what is left of r at the loop's end: r itself, if no cut has reached its end -/
def leftR (lf : Bool) (r : Int × Int) : Rg.R := match lf with
  | true => [r]
  | false => []
theorem cut_end {out T L : Rg.R} {x y : Int} (h : out ++ Rg.cutR (x, y) L = T) (hd : L = []) : out ++ leftR true (x, y) = T := by
  rw [hd] at h; exact h
theorem cut_A {out T L t : Rg.R} {x y p q : Int} (h : out ++ Rg.cutR (x, y) L = T) (hd : L = (p, q) :: t) (hA : y < p) : out ++ leftR true (x, y) = T := by
  rw [hd] at h; simp only [Rg.cutR] at h; rw [if_pos hA] at h; exact h
theorem cut_B1a {out T L t : Rg.R} {x y p q : Int} (h : out ++ Rg.cutR (x, y) L = T) (hd : L = (p, q) :: t) (hA : ¬ y < p) (hB : x < p) (hC : y ≤ q) : out ++ [(x, p - 1)] ++ leftR false (x, y) = T := by
  rw [hd] at h; simp only [Rg.cutR] at h; rw [if_neg hA, if_pos hB, if_pos hC] at h; simpa [leftR] using h
theorem cut_B1b {out T L t : Rg.R} {x y p q : Int} (h : out ++ Rg.cutR (x, y) L = T) (hd : L = (p, q) :: t) (hA : ¬ y < p) (hB : x < p) (hC : ¬ y ≤ q) : out ++ [(x, p - 1)] ++ Rg.cutR (q + 1, y) t = T := by
  rw [hd] at h; simp only [Rg.cutR] at h; rw [if_neg hA, if_pos hB, if_neg hC] at h; simpa using h
theorem cut_B2a {out T L t : Rg.R} {x y p q : Int} (h : out ++ Rg.cutR (x, y) L = T) (hd : L = (p, q) :: t) (hA : ¬ y < p) (hB : ¬ x < p) (hC : y ≤ q) : out ++ leftR false (x, y) = T := by
  rw [hd] at h; simp only [Rg.cutR] at h; rw [if_neg hA, if_neg hB, if_pos hC] at h; simpa [leftR] using h
theorem cut_B2b {out T L t : Rg.R} {x y p q : Int} (h : out ++ Rg.cutR (x, y) L = T) (hd : L = (p, q) :: t) (hA : ¬ y < p) (hB : ¬ x < p) (hC : ¬ y ≤ q) : out ++ Rg.cutR (q + 1, y) t = T := by
  rw [hd] at h; simp only [Rg.cutR] at h; rw [if_neg hA, if_neg hB, if_neg hC] at h; simpa using h
theorem cut_len {out T L t S U : Rg.R} {x y p q : Int} (h : out ++ Rg.cutR (x, y) L = T) (hd : L = (p, q) :: t) (hA : ¬ y < p) (hB : x < p) (hs : T ++ S = U) (hu : U.length ≤ 1099511627776) : out.length + 1 ≤ 1099511627776 := by
  rw [hd] at h; simp only [Rg.cutR] at h; rw [if_neg hA, if_pos hB] at h
  rw [← hs, ← h] at hu
  simp only [List.length_append, List.length_cons] at hu
  omega

section
variable {w w3 : World} {vo : Value} {R : Nat} {out : Rg.R} {x y : Int}
/-- behind 'cut := b[j]' -/
theorem sub_cut {p q : Int} (ho : w3.ownsRow w.heap.size 35 2 vo out.length (cel out)) (hb : Below w.heap.size w w3) (hn : vo.ownBlock ≠ some R)
    (r0 : w3.cell? ⟨R, 0, none⟩ = some (.int .u64 x)) (r1 : w3.cell? ⟨R, 1, none⟩ = some (.int .u64 y)) (r2 : w3.frozen? ⟨R, 0, none⟩ = false) (r3 : R < w3.heap.size) :
    (w3.alloc (.cells #[.int .u64 p, .int .u64 q] 35)).cell? ⟨R, 0, none⟩ = some (.int .u64 x) ∧ (w3.alloc (.cells #[.int .u64 p, .int .u64 q] 35)).cell? ⟨R, 1, none⟩ = some (.int .u64 y) ∧
    (w3.alloc (.cells #[.int .u64 p, .int .u64 q] 35)).frozen? ⟨R, 0, none⟩ = false ∧ R < (w3.alloc (.cells #[.int .u64 p, .int .u64 q] 35)).heap.size ∧
    Hid ((w3.alloc (.cells #[.int .u64 p, .int .u64 q] 35)).ownsRow w.heap.size 35 2 vo out.length (cel out)) ∧ Hid (Below w.heap.size w (w3.alloc (.cells #[.int .u64 p, .int .u64 q] 35))) ∧ Hid (vo.ownBlock ≠ some R) := by
  have hbl := Below.heap_alloc w3 (.cells #[.int .u64 p, .int .u64 q] 35) R r3
  refine ⟨?_, ?_, ?_, by simp; omega, ho.alloc _, hb.alloc hb.size _, hn⟩
  · rw [World.cell?_of_block (w := w3) (a := ⟨R, 0, none⟩) hbl]; exact r0
  · rw [World.cell?_of_block (w := w3) (a := ⟨R, 1, none⟩) hbl]; exact r1
  · rw [World.frozen?_of_block (w := w3) (a := ⟨R, 0, none⟩) hbl]; exact r2
/-- behind 'out = append(out, seqRange{r.first, cut.first - 1})' -/
theorem sub_grown {p q u v : Int} {o2 : Obj} {w5 : World} {g cap : Nat} (ho : w3.ownsRow w.heap.size 35 2 vo out.length (cel out)) (hb : Below w.heap.size w w3) (hn : vo.ownBlock ≠ some R)
    (r0 : w3.cell? ⟨R, 0, none⟩ = some (.int .u64 x)) (r1 : w3.cell? ⟨R, 1, none⟩ = some (.int .u64 y)) (r2 : w3.frozen? ⟨R, 0, none⟩ = false) (r3 : R < w3.heap.size)
    (hown : w5.ownsRow w.heap.size 35 2 (.slice (some ⟨g, 0, none⟩) (out.length + 1) cap) (out.length + 1) (cel out ++ [.int .u64 u, .int .u64 v]))
    (hgr : ((w3.alloc (.cells #[.int .u64 p, .int .u64 q] 35)).alloc o2).grownBy w5 vo.ownBlock) (hat : vo.ownBlock = some g ∨ g = w3.heap.size + 2) :
    w5.cell? ⟨R, 0, none⟩ = some (.int .u64 x) ∧ w5.cell? ⟨R, 1, none⟩ = some (.int .u64 y) ∧ w5.frozen? ⟨R, 0, none⟩ = false ∧ R < w5.heap.size ∧ w5.cell? ⟨w3.heap.size, 1, none⟩ = some (.int .u64 q) ∧
    Hid (w5.ownsRow w.heap.size 35 2 (.slice (some ⟨g, 0, none⟩) (out.length + 1) cap) (out ++ [(u, v)]).length (cel (out ++ [(u, v)]))) ∧ Hid (Below w.heap.size w w5) ∧ Hid ((Value.slice (some ⟨g, 0, none⟩) (out.length + 1) cap).ownBlock ≠ some R) := by
  have hs := hgr.size
  simp only [World.size_alloc] at hs
  have hbs := hb.size
  have hbR : w5.heap[R]? = w3.heap[R]? := by
    rw [hgr.block R (by simp; omega) (Ne.symm hn), Below.heap_alloc _ _ _ (by simp; omega), Below.heap_alloc _ _ _ r3]
  have hne : vo.ownBlock ≠ some w3.heap.size := fun e => by have := (ho.lt _ e).2; omega
  refine ⟨?_, ?_, ?_, by omega, ?_, own_snoc hown, ((hb.alloc hb.size _).alloc (by simp; omega) _).grown hgr (by simp; omega) (fun z e => (ho.lt z e).1), ?_⟩
  · rw [World.cell?_of_block (w := w3) (a := ⟨R, 0, none⟩) hbR]; exact r0
  · rw [World.cell?_of_block (w := w3) (a := ⟨R, 1, none⟩) hbR]; exact r1
  · rw [World.frozen?_of_block (w := w3) (a := ⟨R, 0, none⟩) hbR]; exact r2
  · rw [hgr.cell_far ⟨w3.heap.size, 1, none⟩ (by simp; omega) (Ne.symm hne)]
    simp
  · show (Value.slice (some ⟨g, 0, none⟩) (out.length + 1) cap).ownBlock ≠ some R
    intro e
    have e' : g = R := by simpa [Value.ownBlock] using e
    rcases hat with h | h
    · rw [e'] at h; exact hn h
    · omega
/-- behind 'r.first = ..' -/
theorem sub_stored (z : Int) (ho : w3.ownsRow w.heap.size 35 2 vo out.length (cel out)) (hb : Below w.heap.size w w3) (hn : vo.ownBlock ≠ some R)
    (r0 : w3.cell? ⟨R, 0, none⟩ = some (.int .u64 x)) (r1 : w3.cell? ⟨R, 1, none⟩ = some (.int .u64 y)) (r2 : w3.frozen? ⟨R, 0, none⟩ = false) (r3 : R < w3.heap.size) (hR : w.heap.size ≤ R) :
    (w3.setCell ⟨R, 0, none⟩ (.int .u64 z)).cell? ⟨R, 0, none⟩ = some (.int .u64 z) ∧ (w3.setCell ⟨R, 0, none⟩ (.int .u64 z)).cell? ⟨R, 1, none⟩ = some (.int .u64 y) ∧
    (w3.setCell ⟨R, 0, none⟩ (.int .u64 z)).frozen? ⟨R, 0, none⟩ = false ∧ R < (w3.setCell ⟨R, 0, none⟩ (.int .u64 z)).heap.size ∧
    Hid ((w3.setCell ⟨R, 0, none⟩ (.int .u64 z)).ownsRow w.heap.size 35 2 vo out.length (cel out)) ∧ Hid (Below w.heap.size w (w3.setCell ⟨R, 0, none⟩ (.int .u64 z))) := by
  have hgr : w3.grownBy (w3.setCell ⟨R, 0, none⟩ (.int .u64 z)) (some R) :=
    ⟨rfl, rfl, rfl, by simp [World.setCell], fun k _ hk => Below.heap_setCell _ _ _ _ (fun e => hk (by rw [e]))⟩
  refine ⟨?_, ?_, ?_, by simpa [World.setCell] using r3, ho.kept hgr (.inr hn), hb.setCell hR _⟩
  · go_simp
  · go_simp
  · go_simp
end

/-- behind 'r := a[k]': the round's own block bears r -/
theorem sub_start {w wr : World} {vo : Value} {out : Rg.R} {x y : Int} (ho : wr.ownsRow w.heap.size 35 2 vo out.length (cel out)) (hb : Below w.heap.size w wr) :
    (wr.alloc (.cells #[.int .u64 x, .int .u64 y] 35)).cell? ⟨wr.heap.size, 0, none⟩ = some (.int .u64 x) ∧ (wr.alloc (.cells #[.int .u64 x, .int .u64 y] 35)).cell? ⟨wr.heap.size, 1, none⟩ = some (.int .u64 y) ∧
    (wr.alloc (.cells #[.int .u64 x, .int .u64 y] 35)).frozen? ⟨wr.heap.size, 0, none⟩ = false ∧ wr.heap.size < (wr.alloc (.cells #[.int .u64 x, .int .u64 y] 35)).heap.size ∧
    Hid ((wr.alloc (.cells #[.int .u64 x, .int .u64 y] 35)).ownsRow w.heap.size 35 2 vo out.length (cel out)) ∧ Hid (Below w.heap.size w (wr.alloc (.cells #[.int .u64 x, .int .u64 y] 35))) ∧ Hid (vo.ownBlock ≠ some wr.heap.size ∧ w.heap.size ≤ wr.heap.size) := by
  refine ⟨by simp, by simp, by simp, by simp, ho.alloc _, hb.alloc hb.size _, fun e => ?_, hb.size⟩
  have := (ho.lt _ e).2
  omega

set_option maxRecDepth 100000 in
set_option maxHeartbeats 3200000 in
theorem sub_some (ba oa na ca : Nat) (ab : Option Addr) (nb cb : Nat) (ra rb : Rg.R) (w : World) (hza : Hid (ra.length = na))
    (hca : ∀ i, i < na → w.cell? ⟨ba, oa + i * 2, none⟩ = some (.int .u64 (ra.getD i (0, 0)).1) ∧ w.cell? ⟨ba, oa + i * 2 + 1, none⟩ = some (.int .u64 (ra.getD i (0, 0)).2))
    (hBa : Hid (Rg.Bd ra)) (hb : Hid (Lst w ab nb cb rb)) (hna : na ≤ 1099511627776) (hnb : nb ≤ 1099511627776) (hbw : ba < w.heap.size) (hlen : Hid ((Rg.sub ra rb).length ≤ 1099511627776)) :
    Calls Try.prog 23 #[.slice (some ⟨ba, oa, none⟩) na ca, .slice ab nb cb] w fun e w' => ∃ a n c, e = .returned (.slice a n c) ∧ RdP w' a (Rg.sub ra rb) ∧ n = (Rg.sub ra rb).length ∧ Below w.heap.size w w' := by
  have HC : Hid (∀ i, i < na → w.cell? ⟨ba, oa + i * 2, none⟩ = some (.int .u64 (ra.getD i (0, 0)).1) ∧ w.cell? ⟨ba, oa + i * 2 + 1, none⟩ = some (.int .u64 (ra.getD i (0, 0)).2)) := hca
  clear hca
  obtain ⟨i0, hi0, hz0, hz1, hz2⟩ := info_parts info35s
  go_enter Try.func23, Try.ntmps23
  go_wp2
  go_loopg [1, 5, 13] (na + 1) (fun g vb vo i wr => ∃ (k : Nat) (a : Option Addr) (l c : Nat) (b out : Rg.R), k ≤ na ∧ na + 1 - k ≤ g ∧ i = .int .i64 k ∧ vb = .slice a l c ∧ l ≤ nb ∧ Hid (Lst w a l c b) ∧
    Hid (wr.ownsRow w.heap.size 35 2 vo out.length (cel out)) ∧ Hid (Below w.heap.size w wr) ∧ Hid (out ++ Rg.sub (ra.drop k) b = Rg.sub ra rb))
  case atStart => exact ⟨0, _, _, _, rb, [], Nat.zero_le _, by omega, rfl, rfl, Nat.le_refl _, hb, World.ownsRow_nil _ _ _ _, Below.refl _ _, rfl⟩
  case round =>
    obtain ⟨k, a, l, c, b, out, hk, hg, rfl, rfl, hln, HL, HO, HB, HE⟩ := hrel
    by_cases hlt : k < na
    · have c0 : wr.cell? ⟨ba, oa + k * 2, none⟩ = some (.int .u64 (ra.getD k (0, 0)).1) := (HB.out.cell (p := ⟨ba, oa + k * 2, none⟩) hbw).trans (HC.out _ hlt).1
      have c1 : wr.cell? ⟨ba, oa + k * 2 + 1, none⟩ = some (.int .u64 (ra.getD k (0, 0)).2) := (HB.out.cell (p := ⟨ba, oa + k * 2 + 1, none⟩) hbw).trans (HC.out _ hlt).2
      obtain ⟨x, hx⟩ : ∃ x, (ra.getD k (0, 0)).1 = x := ⟨_, rfl⟩
      obtain ⟨y, hy⟩ : ∃ y, (ra.getD k (0, 0)).2 = y := ⟨_, rfl⟩
      rw [hx] at c0; rw [hy] at c1
      have HX : Hid ((ra.getD k (0, 0)).1 = x) := hx
      have HY : Hid ((ra.getD k (0, 0)).2 = y) := hy
      clear hx hy
      have hsz := HB.out.size
      go_upto_block 2 with fail
      obtain ⟨f0, f1, f2, f3, HO1, HB1, HNE⟩ := sub_start (x := x) (y := y) HO.out HB.out
      generalize wr.alloc (.cells #[.int .u64 x, .int .u64 y] 35) = W1 at f0 f1 f2 f3 HO1 HB1 ⊢
      generalize wr.heap.size = R at f0 f1 f2 f3 HNE ⊢
      clear c0 c1 HO HB hsz
      go_cut [1] (fun vb wc => ∃ (a2 : Option Addr) (l2 c2 : Nat) (b2 : Rg.R) (n : Nat), vb = .slice a2 l2 c2 ∧ l2 ≤ nb ∧ Hid (Lst w a2 l2 c2 b2) ∧ Hid (b2 = Rg.skip x b) ∧ wc = W1.drewN n)
      case first =>
        go_wp2_with fail
        go_loopg [1] (l + 1) (fun g vb w2 => ∃ (a2 : Option Addr) (l2 c2 : Nat) (b2 : Rg.R) (n : Nat), vb = .slice a2 l2 c2 ∧ l2 + 1 ≤ g ∧ l2 ≤ nb ∧ Hid (Lst w a2 l2 c2 b2) ∧ Hid (Rg.skip x b2 = Rg.skip x b) ∧ w2 = W1.drewN n)
        case atStart => exact ⟨a, l, c, b, 0, rfl, Nat.le_refl _, hln, HL, rfl, rfl⟩
        case round =>
          obtain ⟨a2, l2, c2, b2, n, rfl, hg2, hl2, HL2, HS, rfl⟩ := hrel
          cases b2 with
          | nil =>
            obtain rfl : l2 = 0 := HL2.out.1.symm
            go_wp2_with fail
            go_quiet (fail)
            go_wp2_with fail
            go_meet
            case rel => exact ⟨_, _, _, _, _, rfl, hl2, HL2, HS.out, by first | rfl | (simp only [World.drewN_drewN]; rfl)⟩
          | cons d t =>
            obtain ⟨p, q⟩ := d
            obtain ⟨m, rfl⟩ : ∃ m, l2 = m + 1 := ⟨t.length, by have := HL2.out.1; simpa using this.symm⟩
            obtain ⟨bb, ob, rfl, hbc⟩ : ∃ bb ob, a2 = some ⟨bb, ob, none⟩ ∧ w.cell? ⟨bb, ob + 1, none⟩ = some (.int .u64 q) := by
              rcases HL2.out.2.2.1 with h | ⟨bb, ob, h1, h2⟩
              · cases h
              · exact ⟨bb, ob, h1, by simpa using (h2 0 (by simp)).2⟩
            have hbb : bb < w.heap.size := World.block_lt_of_cell? w _ hbc
            have e1 : W1.cell? ⟨bb, ob + 1, none⟩ = some (.int .u64 q) := (HB1.out.cell (p := ⟨bb, ob + 1, none⟩) hbb).trans hbc
            have hlc := HL2.out.2.1
            have i1 : (0 : Int) < (m : Int) + 1 := by omega
            clear hbc
            by_cases hqx : q < x
            · go_wp2_with fail
              go_quiet (fail)
              go_wp2
              all_goals
                go_roundg (m + 1)
                case rel => exact ⟨_, _, _, t, _, rfl, Nat.le_refl _, by omega, by first | exact lst_tail HL2.out | exact lst_one HL2.out (by omega) _ _ (by omega), skip_on HS.out (by omega), by first | rfl | (simp only [World.drewN_drewN]; rfl)⟩
                case measure => omega
            · go_wp2_with fail
              go_quiet (fail)
              go_wp2_with fail
              go_meet
              case rel => exact ⟨_, _, _, _, _, rfl, hl2, HL2, skip_off HS.out (by omega), by first | rfl | (simp only [World.drewN_drewN]; rfl)⟩
      case rest =>
        obtain ⟨a2, l2, c2, b2, n, rfl, hl2, HL2, HS, rfl⟩ := hcut
        clear HL
        have g0 : (W1.drewN n).cell? ⟨R, 0, none⟩ = some (.int .u64 x) := f0
        have g1 : (W1.drewN n).cell? ⟨R, 1, none⟩ = some (.int .u64 y) := f1
        have g2 : (W1.drewN n).frozen? ⟨R, 0, none⟩ = false := f2
        have g3 : R < (W1.drewN n).heap.size := f3
        have HO2 : Hid ((W1.drewN n).ownsRow w.heap.size 35 2 u5 out.length (cel out)) := HO1
        have HB2 : Hid (Below w.heap.size w (W1.drewN n)) := below_drewN HB1.out n
        clear f0 f1 f2 f3 HO1 HB1
        obtain ⟨hx0, hx1, hy0, hy1⟩ : 0 ≤ x ∧ x ≤ 18446744073709551615 ∧ 0 ≤ y ∧ y ≤ 18446744073709551615 := by
          have := bd_at hBa.out k (by rw [hza.out]; exact hlt)
          rw [HX.out, HY.out] at this
          omega
        have HST : Hid ((out ++ Rg.cutR (x, y) b2) ++ Rg.sub (ra.drop (k + 1)) b2 = Rg.sub ra rb) := sub_step HE.out HS.out HX.out HY.out (by rw [hza.out]; exact hlt)
        clear HE
        go_upto_block 4 with fail
        generalize W1.drewN n = W2 at g0 g1 g2 g3 HO2 HB2 ⊢
        go_cut [5, 8] (fun vo vl wc => ∃ (out' : Rg.R) (x' : Int) (lf : Bool), vl = .bool lf ∧ wc.cell? ⟨R, 0, none⟩ = some (.int .u64 x') ∧ wc.cell? ⟨R, 1, none⟩ = some (.int .u64 y) ∧
          Hid (wc.ownsRow w.heap.size 35 2 vo out'.length (cel out')) ∧ Hid (Below w.heap.size w wc) ∧ Hid (out' ++ leftR lf (x', y) = out ++ Rg.cutR (x, y) b2))
        case first =>
          have hb2 : b2 = [] ∨ ∃ bb ob, a2 = some ⟨bb, ob, none⟩ ∧ bb < w.heap.size ∧ Hid (∀ i, i < l2 → w.cell? ⟨bb, ob + i * 2, none⟩ = some (.int .u64 (b2.getD i (0, 0)).1) ∧ w.cell? ⟨bb, ob + i * 2 + 1, none⟩ = some (.int .u64 (b2.getD i (0, 0)).2)) := lst_cases HL2.out
          rcases hb2 with hb2 | ⟨bb, ob, rfl, hbb, HCb⟩
          · have hl0 : l2 = 0 := by rw [← HL2.out.1, hb2]; rfl
            subst hl0
            have HBE : Hid (b2 = []) := hb2
            clear hb2
            go_wp2_with fail
            refine wp_loop_rounds 1 ?_
            rw [rounds_succ]
            go_wp2_with fail
            go_meet
            case rel => exact ⟨out, x, true, rfl, g0, g1, HO2, HB2, by rw [HBE.out]; rfl⟩
          · go_wp2_with fail
            go_loopg [5, 8, 33] (l2 + 1) (fun g vo vl vi w3 => ∃ (j : Nat) (out' : Rg.R) (x' : Int), j ≤ l2 ∧ l2 + 1 - j ≤ g ∧ vi = .int .i64 j ∧ vl = .bool true ∧ 0 ≤ x' ∧ x' ≤ 18446744073709551615 ∧
              w3.cell? ⟨R, 0, none⟩ = some (.int .u64 x') ∧ w3.cell? ⟨R, 1, none⟩ = some (.int .u64 y) ∧ w3.frozen? ⟨R, 0, none⟩ = false ∧ R < w3.heap.size ∧
              Hid (w3.ownsRow w.heap.size 35 2 vo out'.length (cel out')) ∧ Hid (Below w.heap.size w w3) ∧ Hid (vo.ownBlock ≠ some R) ∧ Hid (out' ++ Rg.cutR (x', y) (b2.drop j) = out ++ Rg.cutR (x, y) b2))
            case atStart => exact ⟨0, out, x, Nat.zero_le _, by omega, rfl, rfl, hx0, hx1, g0, g1, g2, g3, HO2, HB2, HNE.out.1, rfl⟩
            case round =>
              obtain ⟨j, out', x', hj, hgj, rfl, rfl, hx0', hx1', r0, r1, r2, r3, HO3, HB3, HN3, HE3⟩ := hrel
              clear g0 g1 g2 g3 HO2 HB2
              by_cases hjl : j < l2
              · have e0 : wr.cell? ⟨bb, ob + j * 2, none⟩ = some (.int .u64 (b2.getD j (0, 0)).1) := (HB3.out.cell (p := ⟨bb, ob + j * 2, none⟩) hbb).trans (HCb.out _ hjl).1
                have e1 : wr.cell? ⟨bb, ob + j * 2 + 1, none⟩ = some (.int .u64 (b2.getD j (0, 0)).2) := (HB3.out.cell (p := ⟨bb, ob + j * 2 + 1, none⟩) hbb).trans (HCb.out _ hjl).2
                have HD : Hid (b2.drop j = b2.getD j (0, 0) :: b2.drop (j + 1)) := drop_at b2 j (by rw [HL2.out.1]; exact hjl)
                have hbd := bd_at HL2.out.2.2.2 j (by rw [HL2.out.1]; exact hjl)
                generalize b2.getD j (0, 0) = d at e0 e1 HD hbd
                obtain ⟨p, q⟩ := d
                simp only at e0 e1 hbd
                obtain ⟨⟨p0, p1⟩, q0, q1⟩ := hbd
                have hbig := HB3.out.size
                by_cases hA : y < p
                · obtain ⟨s0, s1, s2, s3, HO6, HB6, HN6⟩ := sub_cut (p := p) (q := q) HO3.out HB3.out HN3.out r0 r1 r2 r3
                  go_wp2_with fail
                  go_meet
                  case rel => exact ⟨out', x', true, rfl, s0, s1, HO6, HB6, cut_A HE3.out HD.out hA⟩
                · by_cases hB : x' < p
                  · have HLn : Hid (out'.length + 1 ≤ 1099511627776) := cut_len HE3.out HD.out hA hB HST.out hlen.out
                    have hn1 : out'.length + 1 ≤ maxLen := by have := HLn.out; unfold maxLen; omega
                    have hn2 : (out'.length + 1) * 16 ≤ 140737488355328 := by have := HLn.out; omega
                    by_cases hC : y ≤ q
                    · go_wp2_with (at_builtin; refine wpList_append_lies _ rfl (.tmp 47) (.tmp 54) 31 (by rfl) w.heap.size 35 i0 _ 2 16 Try.underlying31 hi0 hz0 hz1 hz2 rfl (by omega) u5 out'.length _ (by rfl) ((HO3.out.alloc _).alloc _) ⟨wr.heap.size + 1, 0, none⟩ 1 1 [.int .u64 x', .int .u64 (p - 1)] (by rfl) (by rfl) (by exact news_two _ _ _ _ _ (by simp)) (by simp [Value.oneCell']) (by omega) hn1 hn2 (by simp; omega) (wr.heap.size + 2) (by simp) ?hkF)
                      case hkF =>
                        intro g5 cap5 w5 hown5 hgrow5 hat5 hlt5
                        obtain ⟨s0, s1, s2, s3, s4, HO6, HB6, HN6⟩ := sub_grown HO3.out HB3.out HN3.out r0 r1 r2 r3 hown5 hgrow5 hat5
                        clear hown5 hgrow5 hat5 hlt5
                        go_wp2_with fail
                        go_meet
                        case rel => exact ⟨out' ++ [(x', p - 1)], x', false, rfl, s0, s1, HO6, HB6, cut_B1a HE3.out HD.out (by omega) (by omega) (by omega)⟩
                    · go_wp2_with (at_builtin; refine wpList_append_lies _ rfl (.tmp 47) (.tmp 54) 31 (by rfl) w.heap.size 35 i0 _ 2 16 Try.underlying31 hi0 hz0 hz1 hz2 rfl (by omega) u5 out'.length _ (by rfl) ((HO3.out.alloc _).alloc _) ⟨wr.heap.size + 1, 0, none⟩ 1 1 [.int .u64 x', .int .u64 (p - 1)] (by rfl) (by rfl) (by exact news_two _ _ _ _ _ (by simp)) (by simp [Value.oneCell']) (by omega) hn1 hn2 (by simp; omega) (wr.heap.size + 2) (by simp) ?hkG)
                      case hkG =>
                        intro g5 cap5 w5 hown5 hgrow5 hat5 hlt5
                        obtain ⟨s0, s1, s2, s3, s4, HO6, HB6, HN6⟩ := sub_grown HO3.out HB3.out HN3.out r0 r1 r2 r3 hown5 hgrow5 hat5
                        obtain ⟨t0, t1, t2, t3, HO7, HB7⟩ := sub_stored (q + 1) HO6.out HB6.out HN6.out s0 s1 s2 s3 HNE.out.2
                        clear hown5 hgrow5 hat5 hlt5
                        go_wp2_with fail
                        go_roundg (l2 + 1 - (j + 1))
                        case rel => exact ⟨j + 1, out' ++ [(x', p - 1)], q + 1, by omega, Nat.le_refl _, by go_num, rfl, by omega, by omega, t0, t1, t2, t3, HO7, HB7, HN6, cut_B1b HE3.out HD.out (by omega) (by omega) (by omega)⟩
                        case measure => omega
                  · by_cases hC : y ≤ q
                    · obtain ⟨s0, s1, s2, s3, HO6, HB6, HN6⟩ := sub_cut (p := p) (q := q) HO3.out HB3.out HN3.out r0 r1 r2 r3
                      go_wp2_with fail
                      go_meet
                      case rel => exact ⟨out', x', false, rfl, s0, s1, HO6, HB6, cut_B2a HE3.out HD.out (by omega) (by omega) (by omega)⟩
                    · obtain ⟨s0, s1, s2, s3, HO6, HB6⟩ := sub_stored (q + 1) HO3.out HB3.out HN3.out r0 r1 r2 r3 HNE.out.2
                      obtain ⟨t0, t1, t2, t3, HO7, HB7, HN6⟩ := sub_cut (p := p) (q := q) HO6.out HB6.out HN3.out s0 s1 s2 s3
                      go_wp2_with fail
                      go_roundg (l2 + 1 - (j + 1))
                      case rel => exact ⟨j + 1, out', q + 1, by omega, Nat.le_refl _, by go_num, rfl, by omega, by omega, t0, t1, t2, t3, HO7, HB7, HN6, cut_B2b HE3.out HD.out (by omega) (by omega) (by omega)⟩
                      case measure => omega
              · go_wp2_with fail
                go_meet
                case rel => exact ⟨out', x', true, rfl, r0, r1, HO3, HB3, cut_end HE3.out (List.drop_eq_nil_of_le (by rw [HL2.out.1]; omega))⟩
        case rest =>
          obtain ⟨out', x', lf, rfl, q0, q1, HO4, HB4, HE4⟩ := hcut
          clear g0 g1 g2 g3 HO2 HB2
          cases lf with
          | true =>
            have HLn : Hid (out'.length + 1 ≤ 1099511627776) := by
              have h := hlen.out
              rw [← HST.out, ← HE4.out] at h
              simp only [leftR, List.length_append, List.length_cons, List.length_nil] at h
              show out'.length + 1 ≤ _
              omega
            have hn1 : out'.length + 1 ≤ maxLen := by have := HLn.out; unfold maxLen; omega
            have hn2 : (out'.length + 1) * 16 ≤ 140737488355328 := by have := HLn.out; omega
            have hbig := HB4.out.size
            go_wp2_with (at_builtin; refine wpList_append_lies _ rfl (.tmp 67) (.tmp 69) 31 (by rfl) w.heap.size 35 i0 _ 2 16 Try.underlying31 hi0 hz0 hz1 hz2 rfl (by omega) u5 out'.length _ (by rfl) (HO4.out.alloc _) ⟨wc.heap.size, 0, none⟩ 1 1 [.int .u64 x', .int .u64 y] (by rfl) (by rfl) (by exact news_two _ _ _ _ _ rfl) (by simp [Value.oneCell']) (by omega) hn1 hn2 (by simp; omega) (wc.heap.size + 1) (by simp) ?hkE)
            case hkE =>
              intro g5 cap5 w5 hown5 hgrow5 hat5 hlt5
              have HB5 : Hid (Below w.heap.size w w5) := (HB4.out.alloc HB4.out.size _).grown hgrow5 (by simp; omega) (fun z e => (HO4.out.lt z e).1)
              have HO5 : Hid (w5.ownsRow w.heap.size 35 2 (.slice (some ⟨g5, 0, none⟩) (out'.length + 1) cap5) (out' ++ [(x', y)]).length (cel (out' ++ [(x', y)]))) := own_snoc hown5
              clear hown5 hgrow5 hat5 hlt5
              go_wp2
              go_roundg (na + 1 - (k + 1))
              case rel => exact ⟨k + 1, _, _, _, b2, out' ++ [(x', y)], by omega, Nat.le_refl _, by go_num, rfl, hl2, HL2, HO5, HB5, by have h := HST.out; rw [← HE4.out] at h; exact h⟩
              case measure => omega
          | false =>
            go_wp2
            go_roundg (na + 1 - (k + 1))
            case rel => exact ⟨k + 1, _, _, _, b2, out', by omega, Nat.le_refl _, by go_num, rfl, hl2, HL2, HO4, HB4, by have h := HST.out; rw [← HE4.out, show leftR false (x', y) = [] from rfl, List.append_nil] at h; exact h⟩
            case measure => omega
    · obtain ⟨a', c', hv, hlc'⟩ := own_form HO.out
      have HV : Hid (u5 = .slice a' out.length c') := hv
      clear hv
      have he : out = Rg.sub ra rb := by have h := HE.out; rw [List.drop_eq_nil_of_le (by rw [hza.out]; omega)] at h; simpa [Rg.sub] using h
      have HF : Hid (out = Rg.sub ra rb) := he
      clear he
      go_wp2
      go_ret
      have h1 := HO.out
      rw [HV.out] at h1
      obtain ⟨r1, r2⟩ := rdP_of_own h1
      exact ⟨a', out.length, c', congrArg Ending.returned HV.out, by rw [← HF.out]; exact r1, by rw [← HF.out], HB.out⟩

theorem sub_nil (a : Option Addr) (ca : Nat) (ab : Option Addr) (nb cb : Nat) (rb : Rg.R) (w : World) :
    Calls Try.prog 23 #[.slice a 0 ca, .slice ab nb cb] w fun e w' => ∃ a n c, e = .returned (.slice a n c) ∧ RdP w' a (Rg.sub [] rb) ∧ n = (Rg.sub [] rb).length ∧ Below w.heap.size w w' := by
  go_enter Try.func23, Try.ntmps23
  go_wp2
  refine wp_loop_rounds 1 ?_
  rw [rounds_succ]
  go_wp2
  go_ret
  exact ⟨_, _, _, rfl, .inl rfl, rfl, Below.refl _ _⟩

theorem sub_any (a : Option Addr) (na ca : Nat) (ab : Option Addr) (nb cb : Nat) (ra rb : Rg.R) (w : World) (ha : Lst w a na ca ra) (hb : Lst w ab nb cb rb) (hna : na ≤ 1099511627776) (hnb : nb ≤ 1099511627776) (hlen : (Rg.sub ra rb).length ≤ 1099511627776) :
    Calls Try.prog 23 #[.slice a na ca, .slice ab nb cb] w fun e w' => ∃ a n c, e = .returned (.slice a n c) ∧ RdP w' a (Rg.sub ra rb) ∧ n = (Rg.sub ra rb).length ∧ Below w.heap.size w w' := by
  rcases lst_cases ha with rfl | ⟨bb, ob, rfl, hbb, hc⟩
  · have h0 : na = 0 := ha.1.symm
    subst h0
    exact sub_nil a ca ab nb cb rb w
  · exact sub_some bb ob na ca ab nb cb ra rb w ha.1 hc.out ha.2.2.2 hb hna hnb hbb hlen

end Go.Proofs.Qxb6600453a
