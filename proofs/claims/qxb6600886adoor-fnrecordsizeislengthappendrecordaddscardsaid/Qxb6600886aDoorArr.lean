/-
  THE WALKS OF internal/strconv.AppendUint (19) AND strconv.AppendUint (18) ONTO 'digits[:0]', digits A LOCAL [20]byte; OF recordSize (17), ZZrecordSize (14).
-/
import Derived.Test.Qxb6600886aDoorClone
import Derived.ArgAppend
import Derived.Lib.ItoaWalk
import Derived.Lib.ItoaMem
import Derived.Lib.BufferWrite
import Derived.Lib.Hide
import Derived.Deep.RegionHeld3
namespace Go.Proofs.Qxb6600886aDoor
open Go.RowKit Go.Sort

section
variable {P : Program} (w : World)
/-- 'append(dst, s...)', s a string, dst with room for it, wherever it lies -/
theorem run_append_str_room (t u ty e : TypeId) (i : TypeInfo) (ht : P.underlying t = some (.slice e)) (hu : P.underlying u = some .string) (hi : P.info? e = some i) (hs1 : i.size = 1)
    (b off sLen sCap : Nat) (s : ByteArray) (hroom : sLen + s.size ≤ sCap) (hc : ∀ j, j < s.size → (w.cell? ⟨b, off + sLen + j, none⟩).isSome = true) (hf : ∀ j, j < s.size → w.frozen? ⟨b, off + sLen + j, none⟩ = false) :
    (Builtin.append_ #[t, u] ty #[.slice (some ⟨b, off, none⟩) sLen sCap, .string s]).run P w = .ok (.slice (some ⟨b, off, none⟩) (sLen + s.size) sCap) (w.setCells b (off + sLen) (Lib.strCells s)) := by
  have hfc := Lib.run_firstCells_string (P := P) w 1 s
  have hst := run_storeCells_cells (P := P) b (off + sLen) (Lib.strCells s) 0 w (by simpa [Lib.strCells_length] using hc) (by simpa [Lib.strCells_length] using hf) (Lib.strCells_oneCell s)
  simp only [Nat.add_zero] at hst
  simp [Builtin.append_, run_underlying ht, run_underlying hu, sizeOf, typeInfo, hi, hs1, Builtin.lenOf, hroom, hfc, Addr.add_lit, hst]
theorem wpList_append_str_room {ops : Array Oper} {rest : List Oper} {o : Oper} {a : Act} {Q : Exit → Act → World → Prop} (hgd : o.guard = none) (sl x : Operand) (t u : TypeId)
    (ho : o.op = .call { callee := .builtin .append, args := #[sl, x], argTypes := #[t, u] })
    (e : TypeId) (i : TypeInfo) (ht : P.underlying t = some (.slice e)) (hu : P.underlying u = some .string) (hi : P.info? e = some i) (hs1 : i.size = 1)
    (b off sLen sCap : Nat) (hs : a.eval sl = .slice (some ⟨b, off, none⟩) sLen sCap) (s : ByteArray) (hx : a.eval x = .string s)
    (hroom : sLen + s.size ≤ sCap) (hc : ∀ j, j < s.size → (w.cell? ⟨b, off + sLen + j, none⟩).isSome = true) (hf : ∀ j, j < s.size → w.frozen? ⟨b, off + sLen + j, none⟩ = false)
    (h : wpList P ops Q rest (a.put o.dst (.slice (some ⟨b, off, none⟩) (sLen + s.size) sCap)) (w.setCells b (off + sLen) (Lib.strCells s))) : wpList P ops Q (o :: rest) a w := by
  refine wpList_plain hgd fun K hK => ?_
  have hr := run_append_str_room (P := P) w t u o.type e i ht hu hi hs1 b off sLen sCap s hroom hc hf
  unfold Oper.wp execOp
  simp only [ho, resolve, invoke, builtin, Sem.run_bind, Sem.run_pure, Result.andThen_ok, List.map_toArray, List.map_cons, List.map_nil, hs, hx, hr]
  exact hK _ _ h
end

/-- what is stored into block g leaves all below g alone -/
theorem below_setCells {B g : Nat} {w0 : World} (hg : B ≤ g) : ∀ (cs : List Value) (o : Nat) (w : World), Below B w0 w → Below B w0 (w.setCells g o cs)
  | [], _, _, h => h
  | v :: r, o, w, h => below_setCells hg r (o + 1) (w.setCell ⟨g, o, none⟩ v) (h.setCell hg v)

/-- twenty cells lie in block g, none frozen -/
def Arr (w : World) (g : Nat) : Prop := ∀ j, j < 20 → (w.cell? ⟨g, j, none⟩).isSome = true ∧ w.frozen? ⟨g, j, none⟩ = false

set_option maxHeartbeats 1600000 in
theorem au_arr_small (g u : Nat) (hu : u < 100) (w : World) (hA : Hid (Arr w g)) :
    Calls Tryd.prog 19 #[.slice (some ⟨g, 0, none⟩) 0 20, .int .u64 u, .int .i64 10] w fun e w' => e = .returned (.slice (some ⟨g, 0, none⟩) (Lib.nDigits u) 20) ∧ Below g w w' := by
  obtain ⟨i0, hi0, hz0, hz1, hz2⟩ := info_parts info5
  have hd := Lib.nDigits_le20 u (by omega)
  have hsz : (⟨(Lib.decDigits u).toArray⟩ : ByteArray).size = Lib.nDigits u := by rw [← Lib.decDigits_length]; simp [ByteArray.size]
  have HSZ : Hid ((⟨(Lib.decDigits u).toArray⟩ : ByteArray).size = Lib.nDigits u) := hsz
  clear hsz
  go_enter Tryd.func19, Tryd.ntmps19
  go_wp2_with fail
  refine (Tryd.internal_strconv_small u hu _).mono ?_
  rintro e w1 ⟨rfl, rfl⟩
  generalize hS : (⟨(Lib.decDigits u).toArray⟩ : ByteArray) = S at HSZ ⊢
  clear hS
  go_wp2_with (at_builtin; refine wpList_append_str_room _ rfl (.tmp 13) (.tmp 16) 22 9 rfl 5 i0 Tryd.underlying22 Tryd.underlying9 hi0 hz1 g 0 0 20 (by rfl) S (by rfl) (by have := HSZ.out; omega) (fun j hj => by have := hA.out j (by have := HSZ.out; omega); simpa using this.1) (fun j hj => by have := hA.out j (by have := HSZ.out; omega); simpa using this.2) ?_)
  go_ret
  exact ⟨congrArg (fun k => Ending.returned (.slice (some ⟨g, 0, none⟩) k 20)) HSZ.out, below_setCells (Nat.le_refl _) _ _ _ (Below.refl _ _)⟩

set_option maxRecDepth 100000 in
set_option maxHeartbeats 3200000 in
theorem au_arr_big (g u : Nat) (hu : 100 ≤ u) (hu64 : u < 18446744073709551616) (w : World) (hA : Hid (Arr w g)) (hgw : g < w.heap.size) (htab : Hid (Lib.TabIs Tryd.prog w "internal/strconv.uint64pow10" .u64 Lib.pow10Tab)) :
    Calls Tryd.prog 19 #[.slice (some ⟨g, 0, none⟩) 0 20, .int .u64 u, .int .i64 10] w fun e w' => e = .returned (.slice (some ⟨g, 0, none⟩) (Lib.nDigits u) 20) ∧ Below g w w' := by
  obtain ⟨i0, hi0, hz0, hz1, hz2⟩ := info_parts info5
  have hd := Lib.nDigits_le20 u hu64
  have hal : Tryd.prog.arrayLen 39 = 24 := by kernel_rfl
  have hsl : ∀ W, (Instr.sliceAt 39 (.pointer (some ⟨w.heap.size, 0, none⟩)) none (some (.int .i64 (Lib.nDigits u : Int))) none).run Tryd.prog W = .ok (.slice (some ⟨w.heap.size, 0, none⟩) (Lib.nDigits u) 24) W := fun W => by
    rw [run_sliceAt_array_h W 39 ⟨w.heap.size, 0, none⟩ (by simp [Program.arrayLen, Program.elem, Tryd.underlying39]) .i64 (Lib.nDigits u : Int) (by omega) (by rw [hal]; omega)]
    go_simp
  have hH0 := Lib.holds_zero0 w 39 (Lib.nDigits u) (by omega)
  have hfmt := Tryd.internal_strconv_formatBase10 w.heap.size 0 24 u (Array.replicate (Lib.nDigits u) 0) (w.alloc (.cells Lib.zeros24 39)) hH0 (by rw [Array.size_replicate]; exact Lib.lt_pow_nDigits u) hu64 (by rw [Array.size_replicate]; omega)
  rw [Array.size_replicate] at hfmt
  have HH0 := Lib.hid hH0
  have HFM := Lib.hid hfmt
  have iu : (100 : Int) ≤ (u : Int) := by omega
  clear hH0 hal hfmt
  go_enter Tryd.func19, Tryd.ntmps19
  go_wp2_with fail
  refine (Tryd.internal_strconv_numDigits u (by omega) hu64 _ (Lib.tabIs_alloc htab.out _)).mono ?_
  rintro e w1 ⟨rfl, rfl⟩
  go_wp2_with fail
  refine HFM.out.mono ?_
  rintro e w1 ⟨rfl, k, v', dk, rfl, hF⟩
  have hcells : ∀ j u', (Lib.byteCells (Lib.decDigits u))[j]? = some u' → ((putRow (fun (b : UInt8) => Value.int .u8 (b.toNat : Int)) (w.alloc (.cells Lib.zeros24 39)) w.heap.size 0 dk).drewN k).cell? ((⟨w.heap.size, 0, none⟩ : Addr).add j) = some u' := by
    intro j u' hj
    have hjl : j < (Lib.decDigits u).length := by
      have h5 := (List.getElem?_eq_some_iff.1 hj).1
      rwa [Lib.byteCells_length] at h5
    have e5 : (Lib.byteCells (Lib.decDigits u))[j]? = some (Value.int .u8 ((Lib.decDigits u)[j].toNat : Int)) := by simp [Lib.byteCells, hjl]
    rw [e5] at hj
    cases hj
    rw [Lib.row_is_numeral hF j hjl, Lib.add_plain, World.cell?_drewN]
    exact cell?_putRow (fun (b : UInt8) => Value.int .u8 (b.toNat : Int)) _ w.heap.size 0 _ dk HH0.out (by rw [hF.size, Array.size_replicate]) j (by rw [hF.size]; rw [Lib.decDigits_length] at hjl; exact hjl)
  obtain ⟨os, eo⟩ := Lib.fin_at w (.cells Lib.zeros24 39) dk k 0
  have hb2 : Below w.heap.size w ((putRow (fun (b : UInt8) => Value.int .u8 (b.toNat : Int)) (w.alloc (.cells Lib.zeros24 39)) w.heap.size 0 dk).drewN k) := by rw [eo]; exact Lib.below_grow w.heap.size w (Nat.le_refl _) k os
  generalize (putRow (fun (b : UInt8) => Value.int .u8 (b.toNat : Int)) (w.alloc (.cells Lib.zeros24 39)) w.heap.size 0 dk).drewN k = W2 at hcells hb2 ⊢
  clear eo HH0 HFM hF
  have hA2 : ∀ j, j < 20 → (W2.cell? ⟨g, j, none⟩).isSome = true ∧ W2.frozen? ⟨g, j, none⟩ = false := fun j hj => by
    rw [hb2.cell (p := ⟨g, j, none⟩) hgw, hb2.frozen (p := ⟨g, j, none⟩) hgw]; exact hA.out j hj
  have HA2 : Hid (∀ j, j < 20 → (W2.cell? ⟨g, j, none⟩).isSome = true ∧ W2.frozen? ⟨g, j, none⟩ = false) := hA2
  have HC : Hid (∀ j u', (Lib.byteCells (Lib.decDigits u))[j]? = some u' → W2.cell? ((⟨w.heap.size, 0, none⟩ : Addr).add j) = some u') := hcells
  have HL : Hid ((Lib.byteCells (Lib.decDigits u)).length = Lib.nDigits u) := by rw [Lib.byteCells_length, Lib.decDigits_length]; rfl
  have HB2 : Hid (Below w.heap.size w W2) := hb2
  clear hA2 hcells hb2
  go_wp2_with (at_builtin; refine wpList_append_arg _ rfl (.tmp 24) (.tmp 26) 22 rfl 5 i0 (.int .u8 0) 1 1 Tryd.underlying22 hi0 hz0 hz1 hz2 rfl (by decide) g 0 0 20 [] (by rfl) (by simp) (fun j u hj => by simp at hj) ⟨w.heap.size, 0, none⟩ (Lib.nDigits u) 24 (Lib.byteCells (Lib.decDigits u)) (by rfl) (by rw [HL.out, Nat.mul_one]) HC.out (Lib.byteCells_one _) (fun _ j hj => by have := HA2.out j (by rw [HL.out] at hj; omega); simpa using this) (by unfold maxLen; omega) (by omega) (fun _ => ?_) (fun h => absurd h (by omega)))
  go_ret
  exact ⟨rfl, below_setCells (Nat.le_refl _) _ _ _ (HB2.out.mono (by omega))⟩

theorem au_arr (g u : Nat) (hu64 : u < 18446744073709551616) (w : World) (hA : Hid (Arr w g)) (hgw : g < w.heap.size) (htab : Hid (Lib.TabIs Tryd.prog w "internal/strconv.uint64pow10" .u64 Lib.pow10Tab)) :
    Calls Tryd.prog 18 #[.slice (some ⟨g, 0, none⟩) 0 20, .int .u64 u, .int .i64 10] w fun e w' => e = .returned (.slice (some ⟨g, 0, none⟩) (Lib.nDigits u) 20) ∧ Below g w w' := by
  have H19 : Hid (Calls Tryd.prog 19 #[.slice (some ⟨g, 0, none⟩) 0 20, .int .u64 u, .int .i64 10] w fun e w' => e = .returned (.slice (some ⟨g, 0, none⟩) (Lib.nDigits u) 20) ∧ Below g w w') := by
    by_cases hu : u < 100
    · exact Lib.hid (au_arr_small g u hu w hA)
    · exact Lib.hid (au_arr_big g u (by omega) hu64 w hA hgw htab)
  go_enter Tryd.func18, Tryd.ntmps18
  go_wp2_with fail
  refine H19.out.mono ?_
  rintro e w1 ⟨rfl, b1⟩
  have HB : Hid (Below g w w1) := b1
  clear b1
  go_wp2
  go_ret
  exact ⟨rfl, HB.out⟩

abbrev zeros20 : Array Value := #[Value.int .u8 0, Value.int .u8 0, Value.int .u8 0, Value.int .u8 0, Value.int .u8 0, Value.int .u8 0, Value.int .u8 0, Value.int .u8 0, Value.int .u8 0, Value.int .u8 0, Value.int .u8 0, Value.int .u8 0, Value.int .u8 0, Value.int .u8 0, Value.int .u8 0, Value.int .u8 0, Value.int .u8 0, Value.int .u8 0, Value.int .u8 0, Value.int .u8 0]
theorem zeros20_at (i : Nat) (h : i < 20) : zeros20[i]? = some (.int .u8 0) := by
  have e : zeros20 = Array.replicate 20 (.int .u8 0) := rfl
  rw [e, Array.getElem?_replicate, if_pos h]
theorem size_start (t r : ByteArray) (w : World) (htab : Tab w.heap.size w) :
    ((w.alloc (.cells #[.string t, .string r] 29)).alloc (.cells zeros20 37)).cell? ⟨w.heap.size, 0, none⟩ = some (.string t) ∧ ((w.alloc (.cells #[.string t, .string r] 29)).alloc (.cells zeros20 37)).cell? ⟨w.heap.size, 1, none⟩ = some (.string r) ∧
    Hid (Arr ((w.alloc (.cells #[.string t, .string r] 29)).alloc (.cells zeros20 37)) (w.heap.size + 1)) ∧ w.heap.size + 1 < ((w.alloc (.cells #[.string t, .string r] 29)).alloc (.cells zeros20 37)).heap.size ∧
    Hid (Below w.heap.size w ((w.alloc (.cells #[.string t, .string r] 29)).alloc (.cells zeros20 37))) ∧ Hid (Lib.TabIs Tryd.prog ((w.alloc (.cells #[.string t, .string r] 29)).alloc (.cells zeros20 37)) "internal/strconv.uint64pow10" .u64 Lib.pow10Tab) := by
  have hb : Below w.heap.size w ((w.alloc (.cells #[.string t, .string r] 29)).alloc (.cells zeros20 37)) := ((Below.refl _ _).alloc (Nat.le_refl _) _).alloc (by simp) _
  refine ⟨by simp, by simp, fun j hj => ?_, by simp, hb, htab _ hb⟩
  have e : w.heap.size + 1 = (w.alloc (.cells #[.string t, .string r] 29)).heap.size := by simp
  rw [e]
  refine ⟨?_, World.frozen?_alloc_new _ _ _ _⟩
  rw [World.cell?_alloc_new, zeros20_at j hj]
  rfl

theorem size_num {a b n L : Nat} (h : L = a + b + n + 3) (hb : a + b + n ≤ 1073741824) : IntKind.i64.wrap (IntKind.i64.wrap (IntKind.i64.wrap ((a : Int) + b) + n) + 3) = (L : Int) := by
  rw [IntWalk.i64_in ((a : Int) + b) (by omega), IntWalk.i64_in ((a : Int) + b + n) (by omega), IntWalk.i64_in ((a : Int) + b + n + 3) (by omega)]
  omega

set_option maxRecDepth 100000 in
set_option maxHeartbeats 3200000 in
theorem size_any (u : Nat) (hu64 : u < 18446744073709551616) (t r : ByteArray) (w : World) (ht : t.size ≤ 1048576) (hr : r.size ≤ 1048576) (htab : Hid (Tab w.heap.size w)) :
    Calls Tryd.prog 17 #[.agg #[.string t, .string r], .int .u64 u] w fun e w' => e = .returned (.int .i64 ((recLen t r u : Nat) : Int)) ∧ Below w.heap.size w w' := by
  have hd := Lib.nDigits_le20 u hu64
  have HL : Hid ((recLen t r u : Nat) = t.size + r.size + Lib.nDigits u + 3) := by
    show _ = _
    unfold recLen
    rw [Lib.decDigits_length]
    omega
  go_enter Tryd.func17, Tryd.ntmps17
  go_wp2_with fail
  obtain ⟨c0, c1, HA, hg, HB, HT⟩ := size_start t r w htab.out
  generalize ((w.alloc (.cells #[.string t, .string r] 29)).alloc (.cells zeros20 37)) = W1 at c0 c1 HA hg HB HT ⊢
  generalize hK : w.heap.size = K at c0 c1 HA hg HB HT ⊢
  have HKK : Hid (w.heap.size = K) := hK
  clear hK
  clear htab
  go_region_held3 (fun w' => w'.cell? ⟨K, 0, none⟩ = some (.string t) ∧ w'.cell? ⟨K, 1, none⟩ = some (.string r))
    (first
      | go_keep
      | (go_split_ands
         refine ⟨?_, ?_⟩
         · (rw [hb1.cell (p := ⟨K, 0, none⟩) (by simp)]; assumption)
         · (rw [hb1.cell (p := ⟨K, 1, none⟩) (by simp)]; assumption)))
    (first | (go_at_call 18; refine (au_arr (K + 1) u hu64 _ (by exact HA) (by exact hg) (by exact HT)).mono ?_; rintro e w1 ⟨rfl, hb1⟩))
  all_goals
    go_wp2
    go_ret
    have HB3 : Below w.heap.size w w1 := by rw [HKK.out]; exact HB.out.drew.trans (hb1.mono (by omega))
    exact ⟨congrArg (fun k => Ending.returned (.int .i64 k)) (size_num HL.out (by omega)), HB3⟩

theorem zsize_any (u : Nat) (hu64 : u < 18446744073709551616) (t r : ByteArray) (w : World) (ht : t.size ≤ 1048576) (hr : r.size ≤ 1048576) (htab : Hid (Tab w.heap.size w)) :
    Calls Tryd.prog 14 #[.agg #[.string t, .string r], .int .u64 u] w fun e w' => e = .returned (.int .i64 ((recLen t r u : Nat) : Int)) ∧ Below w.heap.size w w' := by
  have HB0 : Hid (Below w.heap.size w (w.alloc (.cells #[.string t, .string r] 29))) := (Below.refl _ w).alloc (Nat.le_refl _) _
  have HT : Hid (Tab (w.alloc (.cells #[.string t, .string r] 29)).heap.size (w.alloc (.cells #[.string t, .string r] 29))) := Lib.tabBelow_of_tabIs (htab.out _ HB0.out)
  go_enter Tryd.func14, Tryd.ntmps14
  go_wp2_with fail
  refine (size_any u hu64 t r _ ht hr HT).mono ?_
  rintro e w1 ⟨rfl, b1⟩
  have HB1 : Hid (Below w.heap.size w w1) := HB0.out.trans (b1.mono HB0.out.size)
  clear b1
  go_wp2
  go_ret
  exact ⟨rfl, HB1.out⟩

end Go.Proofs.Qxb6600886aDoor
