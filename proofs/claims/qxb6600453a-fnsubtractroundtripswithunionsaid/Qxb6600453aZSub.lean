/-
  THE WALK OF ZZSubtract (11), OUT OF THE CONTRACTS.
-/
import Derived.Test.Qxb6600453aMakes
import Derived.Test.Qxb6600453aSub
import Derived.Test.Qxb6600453aBridge
namespace Go.Proofs.Qxb6600453a
open Go.RowKit

/-- a flat slice whose numbers are known -/
def Flt (w : World) (a : Option Addr) (l : Nat) (z : List Int) : Prop := Rd w a z ∧ z.length = l ∧ U64 z ∧ l ≤ 1073741824
theorem Flt.below {w w' : World} {a : Option Addr} {l : Nat} {z : List Int} (h : Flt w a l z) (hb : Below w.heap.size w w') : Flt w' a l z := ⟨h.1.below hb, h.2⟩

set_option maxHeartbeats 1000000 in
theorem zsub_any (a : Option Addr) (la ca : Nat) (za : List Int) (b : Option Addr) (lb cb : Nat) (zb : List Int) (w : World) (ha : Flt w a la za) (hb : Flt w b lb zb)
    (hda : Rg.Ch 1 (toR za)) (hdb : Rg.Ch 1 (toR zb)) :
    Calls Try.prog 11 #[.slice a la ca, .slice b lb cb] w fun e w' => ∃ a' n c, e = .returned (.slice a' n c) ∧ Rd w' a' (fromR (Rg.sub (toR za) (toR zb))) ∧ n = (fromR (Rg.sub (toR za) (toR zb))).length ∧ Below w.heap.size w w' := by
  have HA : Hid (Flt w a la za) := ha
  have HBb : Hid (Flt w b lb zb) := hb
  have HLN : Hid ((Rg.sub (toR za) (toR zb)).length ≤ 1073741824) := by
    have h := Rg.sub_len (toR za) (toR zb) hda hdb
    rw [toR_length, toR_length] at h
    have h1 := ha.2.1; have h2 := hb.2.1; have h3 := ha.2.2.2; have h4 := hb.2.2.2
    show _ ≤ 1073741824
    omega
  have HDA : Hid (Rg.Ch 1 (toR za)) := hda
  have HDB : Hid (Rg.Ch 1 (toR zb)) := hdb
  clear ha hb hda hdb
  have hla := HA.out.2.2.2
  have hlb := HBb.out.2.2.2
  go_enter Try.func11, Try.ntmps11
  go_wp2_with fail
  refine (to_any a la ca za _ HA.out.1 HA.out.2.1 (by omega)).mono ?_
  rintro e w1 ⟨a1, n1, c1, rfl, r1, hn1, hc1, hb1⟩
  have H1 : Hid (Lst w1 a1 n1 c1 (toR za) ∧ n1 ≤ 1073741824 ∧ Below w.heap.size w w1) := ⟨⟨hn1.symm, hc1, r1, bd_toR za HA.out.2.2.1⟩, by rw [hn1, toR_length]; have := HA.out.2.1; omega, hb1⟩
  clear r1 hn1 hc1 hb1
  go_wp2_with fail
  refine (to_any b lb cb zb _ (HBb.out.below H1.out.2.2).1 HBb.out.2.1 (by omega)).mono ?_
  rintro e w2 ⟨a2, n2, c2, rfl, r2, hn2, hc2, hb2⟩
  have hB12 : Below w1.heap.size w1 w2 := hb2
  have H2 : Hid (Lst w2 a2 n2 c2 (toR zb) ∧ n2 ≤ 1073741824 ∧ Below w.heap.size w w2 ∧ Lst w2 a1 n1 c1 (toR za)) :=
    ⟨⟨hn2.symm, hc2, r2, bd_toR zb HBb.out.2.2.1⟩, by rw [hn2, toR_length]; have := HBb.out.2.1; omega, H1.out.2.2.trans (hb2.mono H1.out.2.2.size), H1.out.1.1, H1.out.1.2.1, H1.out.1.2.2.1.below hb2, H1.out.1.2.2.2⟩
  clear r2 hn2 hc2 hb2 hB12
  go_wp2_with fail
  refine (sub_any a1 n1 c1 a2 n2 c2 (toR za) (toR zb) _ H2.out.2.2.2 H2.out.1 (by have := H1.out.2.1; omega) (by have := H2.out.2.1; omega) (by have := HLN.out; omega)).mono ?_
  rintro e w3 ⟨a3, n3, c3, rfl, r3, hn3, hb3⟩
  have H3 : Hid (RdP w3 a3 (Rg.sub (toR za) (toR zb)) ∧ n3 = (Rg.sub (toR za) (toR zb)).length ∧ Below w.heap.size w w3) := ⟨r3, hn3, H2.out.2.2.1.trans (hb3.mono H2.out.2.2.1.size)⟩
  clear r3 hn3 hb3
  go_wp2_with fail
  refine (from_any a3 n3 c3 _ _ H3.out.1 H3.out.2.1.symm (by have := H3.out.2.1; have := HLN.out; omega)).mono ?_
  rintro e w4 ⟨a4, n4, c4, rfl, r4, hn4, hb4⟩
  have H4 : Hid (Rd w4 a4 (fromR (Rg.sub (toR za) (toR zb))) ∧ n4 = (fromR (Rg.sub (toR za) (toR zb))).length ∧ Below w.heap.size w w4) := ⟨r4, hn4, H3.out.2.2.trans (hb4.mono H3.out.2.2.size)⟩
  clear r4 hn4 hb4
  go_wp2
  go_ret
  exact ⟨a4, n4, c4, rfl, H4.out.1, H4.out.2.1, H4.out.2.2⟩

end Go.Proofs.Qxb6600453a
