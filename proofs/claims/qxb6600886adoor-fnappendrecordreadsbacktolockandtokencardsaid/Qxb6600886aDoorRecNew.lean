/-
  THE RECORD APPENDED TO A SLICE WITHOUT ROOM: THE OLD ROW KEEPS ITS CELLS. The clone's value, said out.
-/
import Derived.Test.Qxb6600886aDoorClone
import Derived.ArgAppend
namespace Go.Proofs.Qxb6600886aDoor
open Go.RowKit

/-- v holds xs: it owns a row from block B on, or its row is full (len = cap), wherever it lies -/
def Dst (w : World) (B : Nat) (v : Value) (n : Nat) (xs : List Value) : Prop :=
  w.ownsRow B 5 1 v n xs ∨ (xs.length = n ∧ ∃ G, v = .slice (some ⟨G, 0, none⟩) n n ∧ ∀ j u, xs[j]? = some u → w.cell? ⟨G, j, none⟩ = some u)

theorem Dst.alloc {w : World} {B n : Nat} {v : Value} {xs : List Value} (h : Dst w B v n xs) (o : Obj) : Dst (w.alloc o) B v n xs := by
  rcases h with h | ⟨hl, G, hv, hc⟩
  · exact .inl (h.alloc o)
  · exact .inr ⟨hl, G, hv, fun j u hj => (World.grownBy_alloc w o none).cell (hc j u hj) (by simp)⟩

theorem keep_none {W W1 : World} (hg : W.grownBy W1 none) : Keep W W1 := fun K cs hk => by
  rw [hg.block K (Array.getElem?_eq_some_iff.1 hk).1 (by simp)]; exact hk
theorem below_none {W W1 : World} {B : Nat} (hg : W.grownBy W1 none) (hB : B ≤ W.heap.size) : Below B W W1 := (Below.refl B W).grown hg hB (fun z e => by cases e)

theorem own_lower {w : World} {B C n : Nat} {v : Value} {xs : List Value} (h : w.ownsRow C 5 1 v n xs) (hBC : B ≤ C) : w.ownsRow B 5 1 v n xs := by
  refine ⟨h.1, ?_⟩
  rcases h.2 with h | ⟨g, cap, cur, h1, h2, h3⟩
  · exact .inl h
  · exact .inr ⟨g, cap, cur, h1, Nat.le_trans hBC h2, h3⟩

section
variable {P : Program} (w : World)
/-- 'append(dst, s...)', s a string -/
theorem run_dst_string (B : Nat) (t u ty : TypeId) (i : TypeInfo) (ht : P.underlying t = some (.slice 5)) (hu : P.underlying u = some .string) (hi : P.info? 5 = some i) (hz : i.zero = some (.int .u8 0)) (hsize : i.size = 1) (hby : i.bytes = 1)
    (v : Value) (n : Nat) (xs : List Value) (hd : Dst w B v n xs) (s : ByteArray) (hlen : n + s.size ≤ 140737488355328) (hB : B ≤ w.heap.size) :
    ∃ v' w', (Builtin.append_ #[t, u] ty #[v, .string s]).run P w = .ok v' w' ∧ Dst w' B v' (n + s.size) (xs ++ Lib.strCells s) ∧ Below B w w' ∧ Keep w w' := by
  rcases hd with h | ⟨hl, G, rfl, hc⟩
  · obtain ⟨v', w', hr, ho, hg, _⟩ := Lib.run_append_own_string (P := P) w B t u ty 5 i ht hu hi hz hsize hby v n xs h s (by unfold maxLen; omega) hlen hB
    exact ⟨v', w', hr, .inl ho, (Below.refl B w).grown hg hB (fun z e => (h.lt z e).1), keep_grown h hg⟩
  · by_cases hs : s.size = 0
    · have hn : Lib.strCells s = [] := List.eq_nil_of_length_eq_zero (by rw [Lib.strCells_length]; exact hs)
      have hf := Lib.run_firstCells_string (P := P) w 1 s
      have hst := run_storeCells_cells (P := P) G (0 + n) (Lib.strCells s) 0 w (by rw [hn]; simp) (by rw [hn]; simp) (Lib.strCells_oneCell s)
      rw [hs] at hf
      rw [hn] at hst hf
      simp only [Nat.add_zero, Nat.zero_add] at hst
      refine ⟨.slice (some ⟨G, 0, none⟩) n n, w, ?_, ?_, Below.refl _ _, fun _ _ h => h⟩
      · simp [Builtin.append_, run_underlying ht, run_underlying hu, sizeOf, typeInfo, hi, hsize, Builtin.lenOf, hs, hf, Addr.add_lit, hst]
        rfl
      · rw [hs, hn, List.append_nil]
        exact .inr ⟨hl, G, rfl, hc⟩
    · have hr := Lib.run_append_grow_string (P := P) w t u ty 5 i (.int .u8 0) ht hu hi hz ⟨G, 0, none⟩ n n xs (by rw [hsize]; omega) (fun j u hj => by rw [Addr.add_lit]; simpa using hc j u hj) s (by omega) (by omega) (by rw [hby]; exact growslice_fits (by omega) (by omega))
      have hge := grownCap_ge w (n + s.size) n 5
      have hcm : grownCap w (n + s.size) n 5 ≤ maxLen := grownCap_le_maxLen w (n + s.size) n 5 (by unfold maxLen; omega)
      have hlen2 : (xs ++ Lib.strCells s).length = (n + s.size) * 1 := by rw [List.length_append, hl, Lib.strCells_length, Nat.mul_one]
      have hgr : w.grownBy (w.drew.alloc (.cells (xs.toArray ++ (Lib.strCells s).toArray ++ Builtin.zeroCells (Value.int .u8 0).cells (grownCap w (n + s.size) n 5 - (n + s.size))) 5)) none := ⟨rfl, rfl, rfl, by simp, fun k hk _ => _root_.Go.heap_alloc_old w.drew _ hk⟩
      refine ⟨_, _, hr, .inl ⟨hlen2, .inr ⟨w.heap.size, _, _, rfl, hB, heap_alloc_new w.drew _, hge, hcm, ?_, ?_⟩⟩, below_none hgr hB, keep_none hgr⟩
      · have hz1 : (Value.int IntKind.u8 0).cells.size = 1 := rfl
        simp only [Array.size_append, List.size_toArray, size_zeroCells, hz1, hl, Lib.strCells_length]
        omega
      · simp only [Array.toList_append, List.append_assoc]
        rw [← List.append_assoc, ← hlen2]
        exact List.take_left
/-- 'append(dst, c)' -/
theorem run_dst_one (B : Nat) (t ty : TypeId) (i : TypeInfo) (ht : P.underlying t = some (.slice 5)) (hi : P.info? 5 = some i) (hz : i.zero = some (.int .u8 0)) (hsize : i.size = 1) (hby : i.bytes = 1)
    (v : Value) (n : Nat) (xs : List Value) (hd : Dst w B v n xs) (a : Addr) (c : Nat) (x : Value) (ha : ∀ j u, [x][j]? = some u → w.cell? (a.add j) = some u) (h1 : ∀ u ∈ [x], u.oneCell' = true) (hlen : n + 1 ≤ 140737488355328) (hB : B ≤ w.heap.size) :
    ∃ v' w', (Builtin.append_ #[t, t] ty #[v, .slice (some a) 1 c]).run P w = .ok v' w' ∧ w'.ownsRow B 5 1 v' (n + 1) (xs ++ [x]) ∧ Below B w w' ∧ Keep w w' := by
  rcases hd with h | ⟨hl, G, rfl, hc⟩
  · obtain ⟨v', w', hr, ho, hg, _⟩ := run_append_own (P := P) w B t ty 5 i (.int .u8 0) 1 1 ht hi hz hsize hby rfl (by decide) v n xs h a 1 c [x] rfl ha h1 (by unfold maxLen; omega) (by omega) hB
    exact ⟨v', w', hr, ho, (Below.refl B w).grown hg hB (fun z e => (h.lt z e).1), keep_grown h hg⟩
  · obtain ⟨v', w', hr, ho, hg⟩ := run_append_arg_grows (P := P) w t ty 5 i (.int .u8 0) 1 1 ht hi hz hsize hby rfl (by decide) ⟨G, 0, none⟩ n n xs (by omega) (fun j u hj => by rw [Addr.add_lit]; simpa using hc j u hj) a 1 c [x] rfl ha (by omega) (by unfold maxLen; omega) (by omega)
    exact ⟨v', w', hr, own_lower ho hB, below_none hg hB, keep_none hg⟩

theorem wpList_dst_string {ops : Array Oper} {rest : List Oper} {o : Oper} {a : Act} {Q : Exit → Act → World → Prop} (hgd : o.guard = none) (sl x : Operand) (t u : TypeId)
    (ho : o.op = .call { callee := .builtin .append, args := #[sl, x], argTypes := #[t, u] })
    (B : Nat) (i : TypeInfo) (ht : P.underlying t = some (.slice 5)) (hu : P.underlying u = some .string) (hi : P.info? 5 = some i) (hz : i.zero = some (.int .u8 0)) (hsize : i.size = 1) (hby : i.bytes = 1)
    (v : Value) (n : Nat) (xs : List Value) (hs : a.eval sl = v) (hd : Dst w B v n xs) (s : ByteArray) (hx : a.eval x = .string s) (hlen : n + s.size ≤ 140737488355328) (hB : B ≤ w.heap.size)
    (h : ∀ v' w', Dst w' B v' (n + s.size) (xs ++ Lib.strCells s) → Below B w w' → Keep w w' → wpList P ops Q rest (a.put o.dst v') w') : wpList P ops Q (o :: rest) a w := by
  refine wpList_plain hgd fun K hK => ?_
  obtain ⟨v', w', hr, h2, h3, h4⟩ := run_dst_string (P := P) w B t u o.type i ht hu hi hz hsize hby v n xs hd s hlen hB
  unfold Oper.wp execOp
  simp only [ho, resolve, invoke, builtin, Sem.run_bind, Sem.run_pure, Result.andThen_ok, List.map_toArray, List.map_cons, List.map_nil, hs, hx, hr]
  exact hK _ _ (h v' w' h2 h3 h4)
theorem wpList_dst_one {ops : Array Oper} {rest : List Oper} {o : Oper} {a : Act} {Q : Exit → Act → World → Prop} (hgd : o.guard = none) (sl x : Operand) (t : TypeId)
    (ho : o.op = .call { callee := .builtin .append, args := #[sl, x], argTypes := #[t, t] })
    (B : Nat) (i : TypeInfo) (ht : P.underlying t = some (.slice 5)) (hi : P.info? 5 = some i) (hz : i.zero = some (.int .u8 0)) (hsize : i.size = 1) (hby : i.bytes = 1)
    (v : Value) (n : Nat) (xs : List Value) (hs : a.eval sl = v) (hd : Dst w B v n xs) (ad : Addr) (c : Nat) (y : Value) (hx : a.eval x = .slice (some ad) 1 c) (ha : ∀ j u, [y][j]? = some u → w.cell? (ad.add j) = some u) (h1 : ∀ u ∈ [y], u.oneCell' = true) (hlen : n + 1 ≤ 140737488355328) (hB : B ≤ w.heap.size)
    (h : ∀ v' w', w'.ownsRow B 5 1 v' (n + 1) (xs ++ [y]) → Below B w w' → Keep w w' → wpList P ops Q rest (a.put o.dst v') w') : wpList P ops Q (o :: rest) a w := by
  refine wpList_plain hgd fun K hK => ?_
  obtain ⟨v', w', hr, h2, h3, h4⟩ := run_dst_one (P := P) w B t o.type i ht hi hz hsize hby v n xs hd ad c y ha h1 hlen hB
  unfold Oper.wp execOp
  simp only [ho, resolve, invoke, builtin, Sem.run_bind, Sem.run_pure, Result.andThen_ok, List.map_toArray, List.map_cons, List.map_nil, hs, hx, hr]
  exact hK _ _ (h v' w' h2 h3 h4)
end

set_option maxHeartbeats 3200000 in
theorem rec_new (B n u : Nat) (hu64 : u < 18446744073709551616) (sv : Value) (xs : List Value) (t r : ByteArray) (w : World) (hown : Hid (Dst w B sv n xs)) (hBw : B ≤ w.heap.size) (hn : n ≤ 1048576) (ht : t.size ≤ 1048576) (hr : r.size ≤ 1048576) (htab : Hid (Tab B w)) :
    Calls Tryd.prog 16 #[sv, .agg #[.string t, .string r], .int .u64 u] w fun e w' => ∃ v', e = .returned v' ∧ w'.ownsRow B 5 1 v' (n + recLen t r u) (xs ++ recCells t r u) ∧ Below B w w' ∧ Keep w w' := by
  obtain ⟨i0, hi0, hz0, hz1, hz2⟩ := info_parts info5
  go_enter Tryd.func16, Tryd.ntmps16
  have HB0 : Hid (Below B w (w.alloc (.cells #[.string t, .string r] 29))) := (Below.refl B w).alloc hBw _
  go_wp2_with (at_builtin; refine wpList_dst_string _ rfl (.tmp 7) (.tmp 9) 22 9 rfl B i0 Tryd.underlying22 Tryd.underlying9 hi0 hz0 hz1 hz2 sv n xs (by rfl) (hown.out.alloc _) t (by rfl) (by omega) (by simp; omega) ?hk1)
  case hk1 =>
    intro v1 w1 hown1 hbel1 hkeep1
    have HK1 : Hid (w1.heap[w.heap.size]? = some (.cells #[.string t, .string r] 29 (0, 0)) ∧ Keep w w1) := ⟨hkeep1 _ _ (heap_alloc_new w _), (keep_alloc w _).trans hkeep1⟩
    have HB1 : Hid (Below B w w1) := HB0.out.trans hbel1
    have HO1 : Hid (Dst w1 B v1 (n + t.size) (xs ++ Lib.strCells t)) := hown1
    have hs1 : B ≤ w1.heap.size := Nat.le_trans hBw HB1.out.size
    clear hown1 hbel1 hkeep1 HB0
    go_wp2_with (at_builtin; refine wpList_dst_one _ rfl (.tmp 11) (.tmp 12) 22 rfl B i0 Tryd.underlying22 hi0 hz0 hz1 hz2 v1 (n + t.size) _ (by rfl) (HO1.out.alloc _) ⟨w1.heap.size, 0, none⟩ 1 (.int .u8 32) (by rfl) (by exact cell_one_new _ _ _) (by simp [Value.oneCell']) (by omega) (by simp; omega) ?hk2)
    case hk2 =>
      intro v2 w2 hown2 hbel2 hkeep2
      have HKb : Hid (Keep w1 w2) := (keep_alloc w1 _).trans hkeep2
      have HK2 : Hid (w2.heap[w.heap.size]? = some (.cells #[.string t, .string r] 29 (0, 0)) ∧ Keep w w2) := ⟨HKb.out _ _ HK1.out.1, HK1.out.2.trans HKb.out⟩
      clear HKb
      have HB2 : Hid (Below B w w2) := (HB1.out.alloc hs1 _).trans hbel2
      have HO2 : Hid (w2.ownsRow B 5 1 v2 (n + t.size + 1) (xs ++ Lib.strCells t ++ [.int .u8 32])) := by unfold Hid; simpa using hown2
      have hs2 : B ≤ w2.heap.size := Nat.le_trans hBw HB2.out.size
      have c2 := (box_cells HK2.out.1).2
      clear hown2 hbel2 hkeep2 HK1 HB1 HO1 hs1
      go_wp2_with (at_builtin; refine Lib.wpList_append_own_string _ rfl (.tmp 14) (.tmp 16) 22 9 rfl B 5 i0 Tryd.underlying22 Tryd.underlying9 hi0 hz0 hz1 hz2 v2 (n + t.size + 1) _ (by rfl) HO2.out r (by rfl) (by unfold maxLen; omega) (by omega) hs2 ?hk3)
      case hk3 =>
        intro v3 w3 hown3 hgrow3 _
        have HK3 : Hid (Keep w w3) := HK2.out.2.trans (keep_grown HO2.out hgrow3)
        have HB3 : Hid (Below B w w3) := HB2.out.grown hgrow3 hs2 (fun z e => (HO2.out.lt z e).1)
        have HO3 : Hid (w3.ownsRow B 5 1 v3 (n + t.size + 1 + r.size) (xs ++ Lib.strCells t ++ [.int .u8 32] ++ Lib.strCells r)) := by unfold Hid; simpa using hown3
        have hs3 : B ≤ w3.heap.size := Nat.le_trans hBw HB3.out.size
        clear hown3 hgrow3 HK2 HB2 HO2 hs2 c2
        go_wp2_with (at_builtin; refine wpList_append_own _ rfl (.tmp 18) (.tmp 19) 22 rfl B 5 i0 (.int .u8 0) 1 1 Tryd.underlying22 hi0 hz0 hz1 hz2 rfl (by decide) v3 (n + t.size + 1 + r.size) _ (by rfl) (HO3.out.alloc _) ⟨w3.heap.size, 0, none⟩ 1 1 [.int .u8 32] (by rfl) (by rfl) (by exact cell_one_new _ _ _) (by simp [Value.oneCell']) (by unfold maxLen; omega) (by omega) (by simp; omega) ?hk4)
        case hk4 =>
          intro v4 w4 hown4 hgrow4 _
          have HK4 : Hid (Keep w w4) := HK3.out.trans ((keep_alloc w3 _).trans (keep_grown (HO3.out.alloc _) hgrow4))
          have HB4 : Hid (Below B w w4) := (HB3.out.alloc hs3 _).grown hgrow4 (by simp; omega) (fun z e => (HO3.out.lt z e).1)
          have HO4 : Hid (w4.ownsRow B 5 1 v4 (n + t.size + 1 + r.size + 1) (xs ++ Lib.strCells t ++ [.int .u8 32] ++ Lib.strCells r ++ [.int .u8 32])) := by unfold Hid; simpa using hown4
          have hs4 : B ≤ w4.heap.size := Nat.le_trans hBw HB4.out.size
          clear hown4 hgrow4 HB3 HO3 hs3
          go_wp2_with fail
          refine (au_own B (n + t.size + 1 + r.size + 1) u hu64 v4 _ _ HO4 hs4 (by omega) (htab.out.on HB4.out)).mono ?_
          rintro e w5 ⟨v5, rfl, h5, b5, k5⟩
          have HK5 : Hid (Keep w w5) := HK4.out.trans k5
          have hd := Lib.nDigits_le20 u hu64
          rw [← Lib.decDigits_length] at hd
          have HB5 : Hid (Below B w w5) := HB4.out.trans b5
          have HO5 : Hid (w5.ownsRow B 5 1 v5 (n + t.size + 1 + r.size + 1 + (Lib.decDigits u).length) (xs ++ Lib.strCells t ++ [.int .u8 32] ++ Lib.strCells r ++ [.int .u8 32] ++ Lib.byteCells (Lib.decDigits u))) := h5
          have hs5 : B ≤ w5.heap.size := Nat.le_trans hBw HB5.out.size
          clear h5 b5 k5 HK3 HK4 HB4 HO4 hs4
          go_wp2_with (at_builtin; refine wpList_append_own _ rfl (.tmp 24) (.tmp 25) 22 rfl B 5 i0 (.int .u8 0) 1 1 Tryd.underlying22 hi0 hz0 hz1 hz2 rfl (by decide) v5 (n + t.size + 1 + r.size + 1 + (Lib.decDigits u).length) _ (by rfl) (HO5.out.alloc _) ⟨w5.heap.size, 0, none⟩ 1 1 [.int .u8 10] (by rfl) (by rfl) (by exact cell_one_new _ _ _) (by simp [Value.oneCell']) (by unfold maxLen; omega) (by omega) (by simp; omega) ?hk6)
          case hk6 =>
            intro v6 w6 hown6 hgrow6 _
            have HK6 : Hid (Keep w w6) := HK5.out.trans ((keep_alloc w5 _).trans (keep_grown (HO5.out.alloc _) hgrow6))
            have HB6 : Hid (Below B w w6) := (HB5.out.alloc hs5 _).grown hgrow6 (by simp; omega) (fun z e => (HO5.out.lt z e).1)
            have HO6 : Hid (w6.ownsRow B 5 1 v6 (n + recLen t r u) (xs ++ recCells t r u)) := by
              have e1 : n + recLen t r u = n + t.size + 1 + r.size + 1 + (Lib.decDigits u).length + 1 := by unfold recLen; omega
              unfold Hid
              rw [e1]
              simpa [recCells] using hown6
            clear hown6 hgrow6 HB5 HO5 hs5
            go_wp2
            go_ret
            exact ⟨v6, rfl, HO6.out, HB6.out, HK6.out⟩

theorem zrec_new (B n u : Nat) (hu64 : u < 18446744073709551616) (sv : Value) (xs : List Value) (t r : ByteArray) (w : World) (hown : Hid (Dst w B sv n xs)) (hBw : B ≤ w.heap.size) (hn : n ≤ 1048576) (ht : t.size ≤ 1048576) (hr : r.size ≤ 1048576) (htab : Hid (Tab B w)) :
    Calls Tryd.prog 9 #[sv, .agg #[.string t, .string r], .int .u64 u] w fun e w' => ∃ v', e = .returned v' ∧ w'.ownsRow B 5 1 v' (n + recLen t r u) (xs ++ recCells t r u) ∧ Below B w w' ∧ Keep w w' := by
  have HB0 : Hid (Below B w (w.alloc (.cells #[.string t, .string r] 29))) := (Below.refl B w).alloc hBw _
  go_enter Tryd.func9, Tryd.ntmps9
  go_wp2_with fail
  refine (rec_new B n u hu64 sv xs t r _ (hown.out.alloc _) (by simp; omega) hn ht hr (htab.out.on HB0.out)).mono ?_
  rintro e w1 ⟨v1, rfl, h1, b1, k1⟩
  have H1 : Hid (w1.ownsRow B 5 1 v1 (n + recLen t r u) (xs ++ recCells t r u) ∧ Below B w w1 ∧ Keep w w1) := ⟨h1, HB0.out.trans b1, (keep_alloc w _).trans k1⟩
  clear h1 b1 k1
  go_wp2
  go_ret
  exact ⟨v1, rfl, H1.out.1, H1.out.2.1, H1.out.2.2⟩

theorem clone_none (cap : Nat) (w : World) :
    Calls Tryd.prog 8 #[.slice none 0 cap] w fun e w' => e = .returned (.slice none 0 0) ∧ Below w.heap.size w w' := by
  have qn : ∀ (w : World) (a : Option Addr) (n c n' c' : Nat), (binOp .eql 22 (.slice a n c) (.slice none n' c')).run Tryd.prog w = .ok (.bool a.isNone) w := fun w a n c n' c' => Lib.run_eql_slice_nil w _ _ a n c n' c' Tryd.underlying22
  go_enter Tryd.func8, Tryd.ntmps8
  go_wp2
  go_ret
  exact ⟨rfl, Below.refl _ _⟩

theorem clone_full0 (x : Addr) (cap : Nat) (w : World) :
    Calls Tryd.prog 8 #[.slice (some x) 0 cap] w fun e w' => e = .returned (.slice (some ⟨w.heap.size, 0, none⟩) 0 0) ∧ Below w.heap.size w w' := by
  have qn : ∀ (w : World) (a : Option Addr) (n c n' c' : Nat), (binOp .eql 22 (.slice a n c) (.slice none n' c')).run Tryd.prog w = .ok (.bool a.isNone) w := fun w a n c n' c' => Lib.run_eql_slice_nil w _ _ a n c n' c' Tryd.underlying22
  obtain ⟨i0, hi0, hz0, hz1, hz2⟩ := info_parts info5
  go_enter Tryd.func8, Tryd.ntmps8
  go_wp2_with (at_make; refine wpList_make_full _ rfl (.tmp 8) (.tmp 8) 22 rfl w.heap.size 5 i0 _ 1 Tryd.underlying22 hi0 hz0 hz1 .i64 .i64 _ _ 0 rfl rfl rfl rfl (by omega) (by unfold maxLen; omega) (Nat.le_refl _) ?_; intro w1 hown1 hgrow1)
  refine wp_loop_rounds 1 ?_
  rw [rounds_succ]
  go_wp2
  go_ret
  exact ⟨rfl, (Below.refl _ _).grown hgrow1 (Nat.le_refl _) (fun k e => by cases e)⟩

set_option maxHeartbeats 1600000 in
theorem clone_full (b off len cap : Nat) (z : List Int) (w : World) (hz : Hid (z.length = len)) (hc : Hid (∀ i, i < len → w.cell? ⟨b, off + i, none⟩ = some (.int .u8 (z.getD i 0)))) (hl : len ≤ 1048576) (hbw : b < w.heap.size) :
    Calls Tryd.prog 8 #[.slice (some ⟨b, off, none⟩) len cap] w fun e w' => e = .returned (.slice (some ⟨w.heap.size, 0, none⟩) len len) ∧ w'.ownsRow w.heap.size 5 1 (.slice (some ⟨w.heap.size, 0, none⟩) len len) len (cei z) ∧ Below w.heap.size w w' := by
  have qn : ∀ (w : World) (a : Option Addr) (n c n' c' : Nat), (binOp .eql 22 (.slice a n c) (.slice none n' c')).run Tryd.prog w = .ok (.bool a.isNone) w := fun w a n c n' c' => Lib.run_eql_slice_nil w _ _ a n c n' c' Tryd.underlying22
  obtain ⟨i0, hi0, hz0, hz1, hz2⟩ := info_parts info5
  go_enter Tryd.func8, Tryd.ntmps8
  go_wp2_with (at_make; refine wpList_make_full _ rfl (.tmp 8) (.tmp 8) 22 rfl w.heap.size 5 i0 _ 1 Tryd.underlying22 hi0 hz0 hz1 .i64 .i64 _ _ len rfl rfl rfl rfl (by rw [hz2]; omega) (by unfold maxLen; omega) (Nat.le_refl _) ?_; intro w1 hown1 hgrow1)
  have HB1 : Hid (Below w.heap.size w w1) := (Below.refl _ _).grown hgrow1 (Nat.le_refl _) (fun k e => by cases e)
  have HO1 : Hid (∃ L, w1.ownsRow w.heap.size 5 1 (.slice (some ⟨w.heap.size, 0, none⟩) len len) len L ∧ ∀ j, j < 0 → L[j]? = some (.int .u8 (z.getD j 0))) := ⟨_, hown1, fun j hj => absurd hj (Nat.not_lt_zero _)⟩
  clear hown1 hgrow1
  go_loopg [4] (len + 1) (fun g i wr => ∃ k : Nat, k ≤ len ∧ len + 1 - k ≤ g ∧ i = .int .i64 k ∧ Hid (∃ L, wr.ownsRow w.heap.size 5 1 (.slice (some ⟨w.heap.size, 0, none⟩) len len) len L ∧ ∀ j, j < k → L[j]? = some (.int .u8 (z.getD j 0))) ∧ Hid (Below w.heap.size w wr))
  case atStart => exact ⟨0, Nat.zero_le _, by omega, rfl, HO1, HB1⟩
  case round =>
    obtain ⟨k, hk, hg, rfl, HO, HB⟩ := hrel
    clear HO1 HB1
    by_cases hlt : k < len
    · have c0 : wr.cell? ⟨b, off + k, none⟩ = some (.int .u8 (z.getD k 0)) := (HB.out.cell (p := ⟨b, off + k, none⟩) hbw).trans (hc.out k hlt)
      obtain ⟨x, hx⟩ : ∃ x, z.getD k 0 = x := ⟨_, rfl⟩
      rw [hx] at c0
      have HX : Hid (z.getD k 0 = x) := hx
      clear hx
      obtain ⟨L, ho, hL⟩ := HO.out
      have hLl : L.length = len := by have := ho.1; omega
      have c1 : ∃ v, wr.cell? ⟨w.heap.size, k, none⟩ = some v := ⟨L[k]'(by omega), by rw [ho.cellAt k (by omega), List.getElem?_eq_getElem (by omega)]⟩
      obtain ⟨v, c1⟩ := c1
      have f1 : wr.frozen? ⟨w.heap.size, k, none⟩ = false := ho.frozenAt k
      have HO2 : Hid (∃ L, (wr.setCell ⟨w.heap.size, k, none⟩ (.int .u8 x)).ownsRow w.heap.size 5 1 (.slice (some ⟨w.heap.size, 0, none⟩) len len) len L ∧ ∀ j, j < k + 1 → L[j]? = some (.int .u8 (z.getD j 0))) := by
        refine ⟨L.set k (.int .u8 x), (ho.stored k _).1, fun j hj => ?_⟩
        by_cases hjk : j = k
        · subst hjk
          rw [List.getElem?_set_self (by omega), HX.out]
        · rw [List.getElem?_set_ne (by omega)]
          exact hL j (by omega)
      have HB2 : Hid (Below w.heap.size w (wr.setCell ⟨w.heap.size, k, none⟩ (.int .u8 x))) := HB.out.setCell (Nat.le_refl _) _
      clear ho hL HO HB hLl
      go_wp2
      go_roundg (len + 1 - (k + 1))
      case rel => exact ⟨k + 1, by omega, Nat.le_refl _, by go_num, HO2, HB2⟩
      case measure => omega
    · go_wp2
      go_ret
      obtain ⟨L, ho, hL⟩ := HO.out
      have hLl : L.length = len := by have := ho.1; omega
      have e := filled hLl hz.out (fun j hj => hL j (by omega))
      rw [e] at ho
      exact ⟨rfl, ho, HB.out⟩


/-- what the clone is -/
def Cln (w w' : World) (a1 : Option Addr) (c1 len : Nat) (z : List Int) : Prop := Dst w' w'.heap.size (.slice a1 len c1) len (cei z) ∧ Below w.heap.size w w' ∧ ∃ G, (0 < len → a1 = some ⟨G, 0, none⟩) ∧ ∀ j, j < len → w'.cell? ⟨G, j, none⟩ = some (.int .u8 (z.getD j 0))

theorem clone_new (a : Option Addr) (len cap : Nat) (z : List Int) (w : World) (h : Inp w a len z) (hl : len ≤ 1048576) :
    Calls Tryd.prog 8 #[.slice a len cap] w fun e w' => ∃ a1 c1, e = .returned (.slice a1 len c1) ∧ Cln w w' a1 c1 len z := by
  obtain ⟨h1, h2, h3, h4, h5⟩ := h
  by_cases h0 : z.length = 0
  · obtain rfl : z = [] := List.eq_nil_of_length_eq_zero h0
    subst h2
    cases a with
    | none =>
      refine (clone_none cap w).mono ?_
      rintro e w' ⟨rfl, hb⟩
      exact ⟨_, _, rfl, .inl (World.ownsRow_nil _ _ _ _), hb, 0, fun h => absurd h (Nat.lt_irrefl 0), fun j hj => absurd hj (Nat.not_lt_zero _)⟩
    | some x =>
      refine (clone_full0 x cap w).mono ?_
      rintro e w' ⟨rfl, hb⟩
      exact ⟨_, _, rfl, .inr ⟨rfl, _, rfl, fun j u hj => by simp [cei] at hj⟩, hb, 0, fun h => absurd h (Nat.lt_irrefl 0), fun j hj => absurd hj (Nat.not_lt_zero _)⟩
  · rcases h1 with rfl | ⟨b, off, rfl, hc⟩
    · exact absurd rfl h0
    · refine (clone_full b off len cap z w h2 (by rw [← h2]; exact hc) hl (World.block_lt_of_cell? w _ (hc 0 (by omega)))).mono ?_
      rintro e w' ⟨rfl, ho, hb⟩
      have hcell : ∀ j, j < len → w'.cell? ⟨w.heap.size, j, none⟩ = some (.int .u8 (z.getD j 0)) := fun j hj => by
        rw [ho.cellAt j (by omega), cei_get z j (by omega)]
      refine ⟨_, _, rfl, .inr ⟨by simp [cei, h2], _, rfl, fun j u hj => ?_⟩, hb, w.heap.size, fun _ => rfl, hcell⟩
      have hjl : j < len := by have := (List.getElem?_eq_some_iff.1 hj).1; simp [cei] at this; omega
      rw [hcell j hjl, ← hj, cei_get z j (by omega)]

end Go.Proofs.Qxb6600886aDoor
