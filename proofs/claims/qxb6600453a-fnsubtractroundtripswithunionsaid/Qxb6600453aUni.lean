/-
  THE WALK OF union (25).
-/
import Derived.Test.Qxb6600453aProg
import Derived.Test.Qxb6600453aCells
import Derived.WalkKit
import Derived.WalkSpells
import Derived.StillTactics
import Derived.OwnWalk
import Derived.Laws.Pointers
import Derived.Deep.LoopGhost
import Derived.Deep.QuietTactic
import Derived.BigQuiet
import Derived.BigRegion
import Derived.Deep.DeepCutAuto
import Derived.Deep.CutBlock
import Derived.Deep.AppendLies
import Derived.WalkLawsBesides
import Derived.KernelRfl
namespace Go.Proofs.Qxb6600453a
open Go.RowKit

theorem info35u : (Try.prog.info? 35).map (fun i => (i.zero, i.size, i.bytes)) = some (some (.agg #[.int .u64 0, .int .u64 0]), 2, 16) := by kernel_rfl

/-- the call hands back a slice of ranges that reads as rs; nothing old has turned -/
def ResR (w : World) (rs : Rg.R) (e : Ending) (w' : World) : Prop := ∃ a n c, e = .returned (.slice a n c) ∧ RdP w' a rs ∧ n = rs.length ∧ Below w.heap.size w w'

/-- is the next range taken from the first list? -/
def tk : Rg.R → Rg.R → Bool
  | _, [] => true
  | [], _ :: _ => false
  | r :: _, s :: _ => decide (r.1 ≤ s.1)

/-- a first element's cells -/
theorem lst_first {w : World} {a : Option Addr} {m c : Nat} {d : Int × Int} {t : Rg.R} (h : Lst w a (m + 1) c (d :: t)) : ∃ bb ob, a = some ⟨bb, ob, none⟩ ∧ bb < w.heap.size ∧
    w.cell? ⟨bb, ob, none⟩ = some (.int .u64 d.1) ∧ w.cell? ⟨bb, ob + 1, none⟩ = some (.int .u64 d.2) := by
  rcases h.2.2.1 with h | ⟨bb, ob, h1, h2⟩
  · cases h
  · have := h2 0 (by simp)
    refine ⟨bb, ob, h1, World.block_lt_of_cell? w _ this.1, by simpa using this.1, by simpa using this.2⟩

/-- behind 'var r seqRange' -/
theorem uni_start {w wr : World} {vo : Value} {out : Rg.R} (ho : wr.ownsRow w.heap.size 35 2 vo out.length (cel out)) (hb : Below w.heap.size w wr) :
    (∃ v, (wr.alloc (.cells #[.int .u64 0, .int .u64 0] 35)).cell? ⟨wr.heap.size, 0, none⟩ = some v) ∧ (∃ v, (wr.alloc (.cells #[.int .u64 0, .int .u64 0] 35)).cell? ⟨wr.heap.size, 1, none⟩ = some v) ∧
    (wr.alloc (.cells #[.int .u64 0, .int .u64 0] 35)).frozen? ⟨wr.heap.size, 0, none⟩ = false ∧ (wr.alloc (.cells #[.int .u64 0, .int .u64 0] 35)).frozen? ⟨wr.heap.size, 1, none⟩ = false ∧ wr.heap.size < (wr.alloc (.cells #[.int .u64 0, .int .u64 0] 35)).heap.size ∧
    Hid ((wr.alloc (.cells #[.int .u64 0, .int .u64 0] 35)).ownsRow w.heap.size 35 2 vo out.length (cel out)) ∧ Hid (Below w.heap.size w (wr.alloc (.cells #[.int .u64 0, .int .u64 0] 35))) ∧ Hid (vo.ownBlock ≠ some wr.heap.size ∧ w.heap.size ≤ wr.heap.size) := by
  refine ⟨⟨.int .u64 0, by simp⟩, ⟨.int .u64 0, by simp⟩, by simp, by simp, by simp, ho.alloc _, hb.alloc hb.size _, fun e => ?_, hb.size⟩
  have := (ho.lt _ e).2
  omega

/-- behind 'r, a = a[0], a[1:]' -/
theorem uni_stored {w W : World} {vo v0 v1 : Value} {R : Nat} {out : Rg.R} {x y : Int} (ho : W.ownsRow w.heap.size 35 2 vo out.length (cel out)) (hb : Below w.heap.size w W) (hn : vo.ownBlock ≠ some R) (hR : w.heap.size ≤ R)
    (g0 : W.cell? ⟨R, 0, none⟩ = some v0) (g1 : W.cell? ⟨R, 1, none⟩ = some v1) (g4 : R < W.heap.size) :
    ((W.setCell ⟨R, 0, none⟩ (.int .u64 x)).setCell ⟨R, 1, none⟩ (.int .u64 y)).drew.cell? ⟨R, 0, none⟩ = some (.int .u64 x) ∧ ((W.setCell ⟨R, 0, none⟩ (.int .u64 x)).setCell ⟨R, 1, none⟩ (.int .u64 y)).drew.cell? ⟨R, 1, none⟩ = some (.int .u64 y) ∧
    R < ((W.setCell ⟨R, 0, none⟩ (.int .u64 x)).setCell ⟨R, 1, none⟩ (.int .u64 y)).drew.heap.size ∧
    Hid (((W.setCell ⟨R, 0, none⟩ (.int .u64 x)).setCell ⟨R, 1, none⟩ (.int .u64 y)).drew.ownsRow w.heap.size 35 2 vo out.length (cel out)) ∧ Hid (Below w.heap.size w ((W.setCell ⟨R, 0, none⟩ (.int .u64 x)).setCell ⟨R, 1, none⟩ (.int .u64 y)).drew) := by
  have hgr : ∀ (X : World) (j : Nat) (z : Value), X.grownBy (X.setCell ⟨R, j, none⟩ z) (some R) := fun X j z =>
    ⟨rfl, rfl, rfl, by simp [World.setCell], fun k _ hk => Below.heap_setCell _ _ _ _ (fun e => hk (by rw [e]))⟩
  refine ⟨?_, ?_, by simpa [World.setCell, World.drew] using g4, ((ho.kept (hgr _ _ _) (.inr hn)).kept (hgr _ _ _) (.inr hn)).drew, ((hb.setCell hR _).setCell hR _).drew⟩
  · go_simp
  · go_simp
theorem uni_stepA {ra rb out t ry : Rg.R} {k lb : Nat} {r : Int × Int} (h : Rg.uniN (k + 1 + lb) out (r :: t) ry = Rg.uni ra rb) (ht : tk (r :: t) ry = true) : Rg.uniN (k + lb) (Rg.push out r) t ry = Rg.uni ra rb := by
  rw [show k + 1 + lb = (k + lb) + 1 from by omega] at h
  rw [← h]
  cases ry with
  | nil => simp only [Rg.uniN]
  | cons s ry =>
    simp only [Rg.uniN]
    rw [if_pos (of_decide_eq_true ht)]
theorem uni_stepB {ra rb out rx t : Rg.R} {la k : Nat} {r : Int × Int} (h : Rg.uniN (la + (k + 1)) out rx (r :: t) = Rg.uni ra rb) (ht : tk rx (r :: t) = false) : Rg.uniN (la + k) (Rg.push out r) rx t = Rg.uni ra rb := by
  rw [show la + (k + 1) = (la + k) + 1 from by omega] at h
  rw [← h]
  cases rx with
  | nil => simp only [Rg.uniN]
  | cons s rx =>
    simp only [Rg.uniN]
    rw [if_neg (of_decide_eq_false ht)]
/-- the last range of out, and a store into it -/
theorem own_last {W : World} {base lo co : Nat} {ao : Option Addr} {t : Rg.R} {u v : Int} (h : W.ownsRow base 35 2 (.slice ao lo co) (t ++ [(u, v)]).length (cel (t ++ [(u, v)]))) :
    ∃ g, ao = some ⟨g, 0, none⟩ ∧ base ≤ g ∧ g < W.heap.size ∧ W.cell? ⟨g, t.length * 2 + 1, none⟩ = some (.int .u64 v) ∧ W.frozen? ⟨g, t.length * 2 + 1, none⟩ = false ∧
      Hid (∀ z : Int, (W.setCell ⟨g, t.length * 2 + 1, none⟩ (.int .u64 z)).ownsRow base 35 2 (.slice (some ⟨g, 0, none⟩) lo co) (t ++ [(u, z)]).length (cel (t ++ [(u, z)]))) := by
  obtain ⟨g, cap, hv, hb, hl⟩ := h.form (by simp)
  have hlo : (t ++ [(u, v)]).length = lo := by simp only [Value.slice.injEq] at hv; exact hv.2.1.symm
  have hco : cap = co := by simp only [Value.slice.injEq] at hv; exact hv.2.2.symm
  have hao : ao = some ⟨g, 0, none⟩ := by simp only [Value.slice.injEq] at hv; exact hv.1
  subst hao hco
  rw [hlo] at h
  have hlen : t.length + 1 = lo := by simpa using hlo
  refine ⟨g, rfl, hb, hl, ?_, h.frozenAt _, fun z => ?_⟩
  · rw [h.cellAt _ (by omega), (cel_get _ t.length (by simp)).2]
    simp
  · have := (h.stored (t.length * 2 + 1) (.int .u64 z)).1
    have e : (cel (t ++ [(u, v)])).set (t.length * 2 + 1) (.int .u64 z) = cel (t ++ [(u, z)]) := by
      rw [cel_append, cel_append, List.set_append_right _ _ (by rw [cel_length]; omega), cel_length, show t.length * 2 + 1 - t.length * 2 = 1 from by omega]
      rfl
    rw [e] at this
    rw [show (t ++ [(u, z)]).length = lo from by simpa using hlen]
    exact this

theorem own_snoc_n {w : World} {base g cap n : Nat} {out : Rg.R} {x y : Int} (h : w.ownsRow base 35 2 (.slice (some ⟨g, 0, none⟩) (n + 1) cap) (n + 1) (cel out ++ [.int .u64 x, .int .u64 y])) (hn : n = out.length) :
    w.ownsRow base 35 2 (.slice (some ⟨g, 0, none⟩) (n + 1) cap) (out ++ [(x, y)]).length (cel (out ++ [(x, y)])) := by
  subst hn; exact own_snoc h
theorem snoc_len {n : Nat} {out : Rg.R} {r : Int × Int} (h : n = out.length) : n + 1 = (out ++ [r]).length := by rw [h]; simp
theorem last_len {n : Nat} {t : Rg.R} {r s : Int × Int} (h : n = (t ++ [r]).length) : n = (t ++ [s]).length := by rw [h]; simp
theorem push_join {t : Rg.R} {u v x y : Int} (h : x ≤ v ∨ x - 1 = v) : Rg.push (t ++ [(u, v)]) (x, y) = t ++ [(u, max v y)] := by
  simp [Rg.push, h]
theorem push_new {t : Rg.R} {u v x y : Int} (h1 : ¬ x ≤ v) (h2 : ¬ x - 1 = v) : Rg.push (t ++ [(u, v)]) (x, y) = (t ++ [(u, v)]) ++ [(x, y)] := by
  simp [Rg.push, h1, h2]

set_option maxRecDepth 100000 in
set_option maxHeartbeats 3200000 in
theorem uni_any (a : Option Addr) (na ca : Nat) (b : Option Addr) (nb cb : Nat) (ra rb : Rg.R) (w : World) (ha : Hid (Lst w a na ca ra)) (hb : Hid (Lst w b nb cb rb)) (hn : na + nb ≤ 1099511627776) :
    Calls Try.prog 25 #[.slice a na ca, .slice b nb cb] w fun e w' => ResR w (Rg.uni ra rb) e w' := by
  obtain ⟨i0, hi0, hz0, hz1, hz2⟩ := info_parts info35u
  go_enter Try.func25, Try.ntmps25
  go_wp2
  go_loopg [0, 1, 5] (na + nb + 1) (fun g va vb vo wr => ∃ (a : Option Addr) (la ca : Nat) (rx : Rg.R) (b : Option Addr) (lb cb : Nat) (ry : Rg.R) (ao : Option Addr) (lo co : Nat) (out : Rg.R), va = .slice a la ca ∧ vb = .slice b lb cb ∧ vo = .slice ao lo co ∧
    la + lb + 1 ≤ g ∧ lo + la + lb ≤ na + nb ∧ Hid (Lst w a la ca rx) ∧ Hid (Lst w b lb cb ry) ∧ Hid (lo = out.length) ∧ Hid (wr.ownsRow w.heap.size 35 2 (.slice ao lo co) out.length (cel out)) ∧ Hid (Below w.heap.size w wr) ∧ Hid (Rg.Bd out) ∧ Hid (Rg.uniN (la + lb) out rx ry = Rg.uni ra rb))
  case atStart => exact ⟨a, na, ca, ra, b, nb, cb, rb, none, 0, 0, [], rfl, rfl, rfl, Nat.le_refl _, by omega, ha, hb, rfl, World.ownsRow_nil _ _ _ _, Below.refl _ _, fun _ h => absurd h List.not_mem_nil, by rw [← ha.out.1, ← hb.out.1]; rfl⟩
  case round =>
    obtain ⟨a, la, ca, rx, b, lb, cb, ry, ao, lo, co, out, rfl, rfl, rfl, hg, hsum, HA, HBx, HLO, HO, HB, HBd, HE⟩ := hrel
    clear ha hb
    by_cases hz : la + lb = 0
    · obtain rfl : la = 0 := by omega
      obtain rfl : lb = 0 := by omega
      go_wp2
      go_ret
      obtain ⟨r1, r2⟩ := rdP_of_own HO.out
      have he : out = Rg.uni ra rb := HE.out
      exact ⟨ao, lo, co, rfl, by rw [← he]; exact r1, by rw [← he]; exact HLO.out, HB.out⟩
    · go_upto_region 2 with fail
      go_cut [15] (fun v wc => v = .bool true ∧ wc = wr)
      case first =>
        by_cases hla : 0 < la
        · go_wp2_with fail
          go_meet
          case rel => exact ⟨rfl, rfl⟩
        · obtain rfl : la = 0 := by omega
          have hlb : 0 < lb := by omega
          go_wp2_with fail
          go_meet
          case rel => exact ⟨rfl, rfl⟩
      case rest =>
        obtain ⟨rfl, rfl⟩ := hcut
        go_upto_region 4 with fail
        obtain ⟨f0, f1, f2, f3, f4, HO1, HB1, HNE⟩ := uni_start HO.out HB.out
        generalize wc.alloc (.cells #[.int .u64 0, .int .u64 0] 35) = W1 at f0 f1 f2 f3 f4 HO1 HB1 ⊢
        generalize wc.heap.size = R at f0 f1 f2 f3 f4 HNE ⊢
        clear HO HB
        have hne : rx ≠ [] ∨ ry ≠ [] := by
          by_cases h : rx = []
          · right
            intro h'
            have h1 := HA.out.1; have h2 := HBx.out.1
            rw [h] at h1; rw [h'] at h2
            simp at h1 h2
            omega
          · exact .inl h
        have HNN : Hid (rx ≠ [] ∨ ry ≠ []) := hne
        clear hne
        go_cut [34] (fun v wc => ∃ n, v = .bool (tk rx ry) ∧ wc = W1.drewN n)
        case first =>
          cases ry with
          | nil =>
            obtain rfl : lb = 0 := HBx.out.1.symm
            have HT : Hid (tk rx [] = true) := by cases rx <;> rfl
            go_wp2_with fail
            go_quiet (fail)
            go_wp2_with fail
            go_meet
            case rel => exact ⟨_, by rw [HT.out], rfl⟩
          | cons s t =>
            obtain ⟨p, q⟩ := s
            obtain ⟨m, rfl⟩ : ∃ m, lb = m + 1 := ⟨t.length, by have := HBx.out.1; simpa using this.symm⟩
            obtain ⟨bb, ob, rfl, hbb, hc0, hc1⟩ := lst_first HBx.out
            have e0 : W1.cell? ⟨bb, ob, none⟩ = some (.int .u64 p) := (HB1.out.cell (p := ⟨bb, ob, none⟩) hbb).trans hc0
            have i1 : (((m : Int) + 1) == 0) = false := by rw [beq_eq_false_iff_ne]; omega
            have i2 : (0 : Int) < (m : Int) + 1 := by omega
            clear hc0 hc1
            cases rx with
            | nil =>
              obtain rfl : la = 0 := HA.out.1.symm
              go_wp2_with fail
              go_quiet (fail)
              go_wp2_with fail
              go_meet
              case rel => exact ⟨_, rfl, rfl⟩
            | cons r t' =>
              obtain ⟨x, y⟩ := r
              obtain ⟨k, rfl⟩ : ∃ k, la = k + 1 := ⟨t'.length, by have := HA.out.1; simpa using this.symm⟩
              obtain ⟨ba, oa, rfl, hba, hd0, hd1⟩ := lst_first HA.out
              have e1 : W1.cell? ⟨ba, oa, none⟩ = some (.int .u64 x) := (HB1.out.cell (p := ⟨ba, oa, none⟩) hba).trans hd0
              have i3 : (0 : Int) < (k : Int) + 1 := by omega
              clear hd0 hd1
              go_wp2_with fail
              go_quiet (fail)
              go_wp2_with fail
              go_meet
              case rel => exact ⟨_, rfl, rfl⟩
        case rest =>
          obtain ⟨n, rfl, rfl⟩ := hcut
          go_upto_if 34 with fail
          obtain ⟨v0, f0⟩ := f0
          obtain ⟨v1, f1⟩ := f1
          have g0 : (W1.drewN n).cell? ⟨R, 0, none⟩ = some v0 := f0
          have g1 : (W1.drewN n).cell? ⟨R, 1, none⟩ = some v1 := f1
          have g2 : (W1.drewN n).frozen? ⟨R, 0, none⟩ = false := f2
          have g3 : (W1.drewN n).frozen? ⟨R, 1, none⟩ = false := f3
          have g4 : R < (W1.drewN n).heap.size := f4
          have HO2 : Hid ((W1.drewN n).ownsRow w.heap.size 35 2 (.slice ao lo co) out.length (cel out)) := HO1
          have HB2 : Hid (Below w.heap.size w (W1.drewN n)) := below_drewN HB1.out n
          clear f0 f1 f2 f3 f4 HO1 HB1
          generalize W1.drewN n = W2 at g0 g1 g2 g3 g4 HO2 HB2 ⊢
          go_cut [0, 1] (fun va vb wc => ∃ (a : Option Addr) (la' ca : Nat) (rx : Rg.R) (b : Option Addr) (lb' cb : Nat) (ry : Rg.R) (x y : Int), va = .slice a la' ca ∧ vb = .slice b lb' cb ∧ la' + lb' + 1 = la + lb ∧
            Hid (Lst w a la' ca rx) ∧ Hid (Lst w b lb' cb ry) ∧ 0 ≤ x ∧ x ≤ 18446744073709551615 ∧ 0 ≤ y ∧ y ≤ 18446744073709551615 ∧ wc.cell? ⟨R, 0, none⟩ = some (.int .u64 x) ∧ wc.cell? ⟨R, 1, none⟩ = some (.int .u64 y) ∧
            Hid (wc.ownsRow w.heap.size 35 2 (.slice ao lo co) out.length (cel out)) ∧ Hid (Below w.heap.size w wc) ∧ R < wc.heap.size ∧ Hid (Rg.uniN (la' + lb') (Rg.push out (x, y)) rx ry = Rg.uni ra rb))
          case first =>
            cases htk : tk rx ry with
            | true =>
              obtain ⟨r, t', rfl⟩ : ∃ r t', rx = r :: t' := by
                cases rx with
                | nil =>
                  cases ry with
                  | nil => rcases HNN.out with h | h <;> exact absurd rfl h
                  | cons s t => cases htk
                | cons r t' => exact ⟨r, t', rfl⟩
              obtain ⟨x, y⟩ := r
              obtain ⟨k, rfl⟩ : ∃ k, la = k + 1 := ⟨t'.length, by have := HA.out.1; simpa using this.symm⟩
              obtain ⟨ba, oa, rfl, hba, hd0, hd1⟩ := lst_first HA.out
              have e0 : W2.cell? ⟨ba, oa, none⟩ = some (.int .u64 x) := (HB2.out.cell (p := ⟨ba, oa, none⟩) hba).trans hd0
              have e1 : W2.cell? ⟨ba, oa + 1, none⟩ = some (.int .u64 y) := (HB2.out.cell (p := ⟨ba, oa + 1, none⟩) hba).trans hd1
              have i3 : (0 : Int) < (k : Int) + 1 := by omega
              have hlc := HA.out.2.1
              clear hd0 hd1
              by_cases hca : ca = 1
              · go_wp2_with fail
                go_region
                go_wp2_with fail
                go_meet
                case rel =>
                  obtain ⟨t0, t1, t2, HO3, HB3⟩ := uni_stored (x := x) (y := y) HO2.out HB2.out HNE.out.1 HNE.out.2 g0 g1 g4
                  have hbd := HA.out.2.2.2 (x, y) List.mem_cons_self
                  exact ⟨_, _, _, t', _, _, _, ry, x, y, rfl, rfl, by omega, lst_one HA.out (by assumption) _ _ (by omega), HBx, hbd.1.1, hbd.1.2, hbd.2.1, hbd.2.2, t0, t1, HO3, HB3, t2, uni_stepA HE.out htk⟩
              · go_wp2_with fail
                go_region
                go_wp2_with fail
                go_meet
                case rel =>
                  obtain ⟨t0, t1, t2, HO3, HB3⟩ := uni_stored (x := x) (y := y) HO2.out HB2.out HNE.out.1 HNE.out.2 g0 g1 g4
                  have hbd := HA.out.2.2.2 (x, y) List.mem_cons_self
                  exact ⟨_, _, _, t', _, _, _, ry, x, y, rfl, rfl, by omega, lst_tail HA.out, HBx, hbd.1.1, hbd.1.2, hbd.2.1, hbd.2.2, t0, t1, HO3, HB3, t2, uni_stepA HE.out htk⟩
            | false =>
              obtain ⟨r, t', rfl⟩ : ∃ r t', ry = r :: t' := by
                cases ry with
                | nil => cases rx <;> cases htk
                | cons r t' => exact ⟨r, t', rfl⟩
              obtain ⟨x, y⟩ := r
              obtain ⟨k, rfl⟩ : ∃ k, lb = k + 1 := ⟨t'.length, by have := HBx.out.1; simpa using this.symm⟩
              obtain ⟨ba, oa, rfl, hba, hd0, hd1⟩ := lst_first HBx.out
              have e0 : W2.cell? ⟨ba, oa, none⟩ = some (.int .u64 x) := (HB2.out.cell (p := ⟨ba, oa, none⟩) hba).trans hd0
              have e1 : W2.cell? ⟨ba, oa + 1, none⟩ = some (.int .u64 y) := (HB2.out.cell (p := ⟨ba, oa + 1, none⟩) hba).trans hd1
              have i3 : (0 : Int) < (k : Int) + 1 := by omega
              have hlc := HBx.out.2.1
              clear hd0 hd1
              by_cases hca : cb = 1
              · go_wp2_with fail
                go_region
                go_wp2_with fail
                go_meet
                case rel =>
                  obtain ⟨t0, t1, t2, HO3, HB3⟩ := uni_stored (x := x) (y := y) HO2.out HB2.out HNE.out.1 HNE.out.2 g0 g1 g4
                  have hbd := HBx.out.2.2.2 (x, y) List.mem_cons_self
                  exact ⟨_, _, _, rx, _, _, _, t', x, y, rfl, rfl, by omega, HA, lst_one HBx.out (by assumption) _ _ (by omega), hbd.1.1, hbd.1.2, hbd.2.1, hbd.2.2, t0, t1, HO3, HB3, t2, uni_stepB HE.out htk⟩
              · go_wp2_with fail
                go_region
                go_wp2_with fail
                go_meet
                case rel =>
                  obtain ⟨t0, t1, t2, HO3, HB3⟩ := uni_stored (x := x) (y := y) HO2.out HB2.out HNE.out.1 HNE.out.2 g0 g1 g4
                  have hbd := HBx.out.2.2.2 (x, y) List.mem_cons_self
                  exact ⟨_, _, _, rx, _, _, _, t', x, y, rfl, rfl, by omega, HA, lst_tail HBx.out, hbd.1.1, hbd.1.2, hbd.2.1, hbd.2.2, t0, t1, HO3, HB3, t2, uni_stepB HE.out htk⟩
          case rest =>
            obtain ⟨a', la', ca', rx', b', lb', cb', ry', x, y, rfl, rfl, hs', HA', HB', x0, x1, y0, y1, r0, r1, HO3, HB3, hR, HE'⟩ := hcut
            clear g0 g1 g2 g3 g4 HO2 HB2 HA HBx HNN HE
            rcases List.eq_nil_or_concat out with hout | ⟨t, l, hout⟩
            · subst hout
              obtain rfl : lo = 0 := HLO.out
              have HP : Hid (Rg.push [] (x, y) = [] ++ [(x, y)]) := rfl
              go_upto_region 8 with fail
              go_quiet (fail)
              generalize hwq : wc.drewN _ = wq
              have q0 : wq.cell? ⟨R, 0, none⟩ = some (.int .u64 x) := by rw [← hwq]; exact r0
              have q1 : wq.cell? ⟨R, 1, none⟩ = some (.int .u64 y) := by rw [← hwq]; exact r1
              have HO4 : Hid (wq.ownsRow w.heap.size 35 2 (.slice ao 0 co) 0 (cel ([] : Rg.R))) := by rw [← hwq]; have h := HO3.out; rw [← HLO.out] at h; exact h
              have HB4 : Hid (Below w.heap.size w wq) := by rw [← hwq]; exact below_drewN HB3.out _
              have hbig := HB4.out.size
              clear hwq r0 r1
              have hn1 : 0 + 1 ≤ maxLen := by unfold maxLen; omega
              have hn2 : (0 + 1) * 16 ≤ 140737488355328 := by omega
              go_wp2_with (at_builtin; refine wpList_append_lies _ rfl (.tmp 86) (.tmp 88) 31 (by rfl) w.heap.size 35 i0 _ 2 16 Try.underlying31 hi0 hz0 hz1 hz2 rfl (by omega) (.slice ao 0 co) 0 _ (by rfl) (HO4.out.alloc _) ⟨wq.heap.size, 0, none⟩ 1 1 [.int .u64 x, .int .u64 y] (by rfl) (by rfl) (by exact news_two _ _ _ _ _ rfl) (by simp [Value.oneCell']) (by omega) hn1 hn2 (by simp; omega) (wq.heap.size + 1) (by simp) ?hkI)
              case hkI =>
                intro g5 cap5 w5 hown5 hgrow5 hat5 hlt5
                have HB5 : Hid (Below w.heap.size w w5) := (HB4.out.alloc HB4.out.size _).grown hgrow5 (by simp; omega) (fun z e => (HO4.out.lt z e).1)
                have HO5 : Hid (w5.ownsRow w.heap.size 35 2 (.slice (some ⟨g5, 0, none⟩) (0 + 1) cap5) (([] : Rg.R) ++ [(x, y)]).length (cel (([] : Rg.R) ++ [(x, y)]))) := own_snoc_n hown5 HLO.out
                clear hown5 hgrow5 hat5 hlt5
                go_wp2
                go_roundg (la' + lb' + 1)
                case rel => exact ⟨_, _, _, rx', _, _, _, ry', _, _, _, ([] : Rg.R) ++ [(x, y)], rfl, rfl, rfl, Nat.le_refl _, by omega, HA', HB', snoc_len HLO.out, HO5, HB5, by rw [← HP.out]; exact Rg.push_bd _ _ HBd.out ⟨⟨x0, x1⟩, y0, y1⟩, by rw [← HP.out]; exact HE'.out⟩
                case measure => omega
            · obtain ⟨u, v⟩ := l
              simp only [List.concat_eq_append] at hout
              subst hout
              obtain ⟨g, rfl, hgb, hgl, cv, fv, HSt⟩ := own_last HO3.out
              have hlo2 : lo = t.length + 1 := by rw [HLO.out]; simp
              generalize t.length = m at hlo2 cv fv HSt
              subst hlo2
              have hvb := HBd.out (u, v) (by simp)
              obtain ⟨⟨u0, u1⟩, v0', v1'⟩ := hvb
              by_cases hxv : x ≤ v
              · have HP0 : Hid (Rg.push (t ++ [(u, v)]) (x, y) = t ++ [(u, max v y)]) := push_join (.inl hxv)
                go_upto_region 8 with fail
                go_quiet (fail)
                go_wp2_with fail
                generalize hwq : wc.drewN _ = wq
                have q1 : wq.cell? ⟨R, 1, none⟩ = some (.int .u64 y) := by rw [← hwq]; exact r1
                have cv4 : wq.cell? ⟨g, m * 2 + 1, none⟩ = some (.int .u64 v) := by rw [← hwq]; exact cv
                have fv4 : wq.frozen? ⟨g, m * 2 + 1, none⟩ = false := by rw [← hwq]; exact fv
                have HB4 : Hid (Below w.heap.size w wq) := by rw [← hwq]; exact below_drewN HB3.out _
                have HSt4 : Hid (∀ z : Int, (wq.setCell ⟨g, m * 2 + 1, none⟩ (.int .u64 z)).ownsRow w.heap.size 35 2 (.slice (some ⟨g, 0, none⟩) (m + 1) co) (t ++ [(u, z)]).length (cel (t ++ [(u, z)]))) := by rw [← hwq]; exact HSt.out
                clear hwq r0 r1 cv fv HSt
                have j1 : (m : Int) < (m : Int) + 1 := by omega
                have j0 : (0 : Int) ≤ (m : Int) := by omega
                by_cases hvy : v < y
                · have HP : Hid (Rg.push (t ++ [(u, v)]) (x, y) = t ++ [(u, y)]) := by have h := HP0.out; rw [show max v y = y from by omega] at h; exact h
                  go_region
                  go_wp2
                  go_roundg (la' + lb' + 1)
                  case rel => exact ⟨_, _, _, rx', _, _, _, ry', _, _, _, t ++ [(u, y)], rfl, rfl, rfl, Nat.le_refl _, by omega, HA', HB', last_len HLO.out, (HSt4.out y).drew, (HB4.out.setCell hgb _).drew, by rw [← HP.out]; exact Rg.push_bd _ _ HBd.out ⟨⟨x0, x1⟩, y0, y1⟩, by rw [← HP.out]; exact HE'.out⟩
                  case measure => omega
                · have HP : Hid (Rg.push (t ++ [(u, v)]) (x, y) = t ++ [(u, v)]) := by have h := HP0.out; rw [show max v y = v from by omega] at h; exact h
                  go_region
                  go_wp2
                  go_roundg (la' + lb' + 1)
                  case rel => exact ⟨_, _, _, rx', _, _, _, ry', _, _, _, t ++ [(u, v)], rfl, rfl, rfl, Nat.le_refl _, by omega, HA', HB', HLO, (HSt4.out v).drew, (HB4.out.setCell hgb _).drew, by rw [← HP.out]; exact Rg.push_bd _ _ HBd.out ⟨⟨x0, x1⟩, y0, y1⟩, by rw [← HP.out]; exact HE'.out⟩
                  case measure => omega
              · by_cases hxe : x - 1 = v
                · have HP0 : Hid (Rg.push (t ++ [(u, v)]) (x, y) = t ++ [(u, max v y)]) := push_join (.inr hxe)
                  have i7 : ((x - 1) == v) = true := by rw [beq_iff_eq]; exact hxe
                  have i8 : decide (x ≤ v) = false := decide_eq_false hxv
                  clear hxe
                  go_upto_region 8 with fail
                  go_quiet (fail)
                  go_wp2_with fail
                  generalize hwq : wc.drewN _ = wq
                  have q1 : wq.cell? ⟨R, 1, none⟩ = some (.int .u64 y) := by rw [← hwq]; exact r1
                  have cv4 : wq.cell? ⟨g, m * 2 + 1, none⟩ = some (.int .u64 v) := by rw [← hwq]; exact cv
                  have fv4 : wq.frozen? ⟨g, m * 2 + 1, none⟩ = false := by rw [← hwq]; exact fv
                  have HB4 : Hid (Below w.heap.size w wq) := by rw [← hwq]; exact below_drewN HB3.out _
                  have HSt4 : Hid (∀ z : Int, (wq.setCell ⟨g, m * 2 + 1, none⟩ (.int .u64 z)).ownsRow w.heap.size 35 2 (.slice (some ⟨g, 0, none⟩) (m + 1) co) (t ++ [(u, z)]).length (cel (t ++ [(u, z)]))) := by rw [← hwq]; exact HSt.out
                  clear hwq r0 r1 cv fv HSt
                  have j1 : (m : Int) < (m : Int) + 1 := by omega
                  have j0 : (0 : Int) ≤ (m : Int) := by omega
                  by_cases hvy : v < y
                  · have HP : Hid (Rg.push (t ++ [(u, v)]) (x, y) = t ++ [(u, y)]) := by have h := HP0.out; rw [show max v y = y from by omega] at h; exact h
                    go_region
                    go_wp2
                    go_roundg (la' + lb' + 1)
                    case rel => exact ⟨_, _, _, rx', _, _, _, ry', _, _, _, t ++ [(u, y)], rfl, rfl, rfl, Nat.le_refl _, by omega, HA', HB', last_len HLO.out, (HSt4.out y).drew, (HB4.out.setCell hgb _).drew, by rw [← HP.out]; exact Rg.push_bd _ _ HBd.out ⟨⟨x0, x1⟩, y0, y1⟩, by rw [← HP.out]; exact HE'.out⟩
                    case measure => omega
                  · have HP : Hid (Rg.push (t ++ [(u, v)]) (x, y) = t ++ [(u, v)]) := by have h := HP0.out; rw [show max v y = v from by omega] at h; exact h
                    go_region
                    go_wp2
                    go_roundg (la' + lb' + 1)
                    case rel => exact ⟨_, _, _, rx', _, _, _, ry', _, _, _, t ++ [(u, v)], rfl, rfl, rfl, Nat.le_refl _, by omega, HA', HB', HLO, (HSt4.out v).drew, (HB4.out.setCell hgb _).drew, by rw [← HP.out]; exact Rg.push_bd _ _ HBd.out ⟨⟨x0, x1⟩, y0, y1⟩, by rw [← HP.out]; exact HE'.out⟩
                    case measure => omega
                · have HP : Hid (Rg.push (t ++ [(u, v)]) (x, y) = (t ++ [(u, v)]) ++ [(x, y)]) := push_new hxv hxe
                  have i7 : ((x - 1) == v) = false := by rw [beq_eq_false_iff_ne]; exact hxe
                  have i8 : decide (x ≤ v) = false := decide_eq_false hxv
                  clear hxe
                  go_upto_region 8 with fail
                  go_quiet (fail)
                  generalize hwq : wc.drewN _ = wq
                  have q0 : wq.cell? ⟨R, 0, none⟩ = some (.int .u64 x) := by rw [← hwq]; exact r0
                  have q1 : wq.cell? ⟨R, 1, none⟩ = some (.int .u64 y) := by rw [← hwq]; exact r1
                  have HO4 : Hid (wq.ownsRow w.heap.size 35 2 (.slice (some ⟨g, 0, none⟩) (m + 1) co) (m + 1) (cel (t ++ [(u, v)]))) := by rw [← hwq]; have h := HO3.out; rw [← HLO.out] at h; exact h
                  have HB4 : Hid (Below w.heap.size w wq) := by rw [← hwq]; exact below_drewN HB3.out _
                  have hbig := HB4.out.size
                  clear hwq r0 r1
                  have hn1 : (m + 1) + 1 ≤ maxLen := by unfold maxLen; omega
                  have hn2 : ((m + 1) + 1) * 16 ≤ 140737488355328 := by omega
                  go_wp2_with (at_builtin; refine wpList_append_lies _ rfl (.tmp 86) (.tmp 88) 31 (by rfl) w.heap.size 35 i0 _ 2 16 Try.underlying31 hi0 hz0 hz1 hz2 rfl (by omega) (.slice (some ⟨g, 0, none⟩) (m + 1) co) (m + 1) _ (by rfl) (HO4.out.alloc _) ⟨wq.heap.size, 0, none⟩ 1 1 [.int .u64 x, .int .u64 y] (by rfl) (by rfl) (by exact news_two _ _ _ _ _ rfl) (by simp [Value.oneCell']) (by omega) hn1 hn2 (by simp; omega) (wq.heap.size + 1) (by simp) ?hkJ)
                  case hkJ =>
                    intro g5 cap5 w5 hown5 hgrow5 hat5 hlt5
                    have HB5 : Hid (Below w.heap.size w w5) := (HB4.out.alloc HB4.out.size _).grown hgrow5 (by simp; omega) (fun z e => (HO4.out.lt z e).1)
                    have HO5 : Hid (w5.ownsRow w.heap.size 35 2 (.slice (some ⟨g5, 0, none⟩) ((m + 1) + 1) cap5) ((t ++ [(u, v)]) ++ [(x, y)]).length (cel ((t ++ [(u, v)]) ++ [(x, y)]))) := own_snoc_n hown5 HLO.out
                    clear hown5 hgrow5 hat5 hlt5
                    go_wp2
                    go_roundg (la' + lb' + 1)
                    case rel => exact ⟨_, _, _, rx', _, _, _, ry', _, _, _, (t ++ [(u, v)]) ++ [(x, y)], rfl, rfl, rfl, Nat.le_refl _, by omega, HA', HB', snoc_len HLO.out, HO5, HB5, by rw [← HP.out]; exact Rg.push_bd _ _ HBd.out ⟨⟨x0, x1⟩, y0, y1⟩, by rw [← HP.out]; exact HE'.out⟩
                    case measure => omega

end Go.Proofs.Qxb6600453a
