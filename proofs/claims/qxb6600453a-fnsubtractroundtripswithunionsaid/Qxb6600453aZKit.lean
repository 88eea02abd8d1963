/-
  ZZUnion (15), OUT OF THE CONTRACTS; ZZSubtract, ZZUnion AND zzSame SAID OF FLAT LISTS; the plain laws of flat lists; the bounds on total length of the other laws.
-/
import Derived.Test.Qxb6600453aLawKit
import Derived.Test.Qxb6600453aUni
namespace Go.Proofs.Qxb6600453a
open Go.RowKit

set_option maxHeartbeats 1000000 in
theorem zuni_any (a : Option Addr) (la ca : Nat) (za : List Int) (b : Option Addr) (lb cb : Nat) (zb : List Int) (w : World) (ha : Flt w a la za) (hb : Flt w b lb zb)
    (hda : Rg.ByF (toR za)) (hdb : Rg.ByF (toR zb)) :
    Calls Try.prog 15 #[.slice a la ca, .slice b lb cb] w fun e w' => ∃ a' n c, e = .returned (.slice a' n c) ∧ Rd w' a' (fromR (Rg.uni (toR za) (toR zb))) ∧ n = (fromR (Rg.uni (toR za) (toR zb))).length ∧ Below w.heap.size w w' := by
  have HA : Hid (Flt w a la za) := ha
  have HBb : Hid (Flt w b lb zb) := hb
  have HLN : Hid ((Rg.uni (toR za) (toR zb)).length ≤ 1073741824) := by
    have h := Rg.uni_len (toR za) (toR zb) hda hdb
    rw [toR_length, toR_length] at h
    have h1 := ha.2.1; have h2 := hb.2.1; have h3 := ha.2.2.2; have h4 := hb.2.2.2
    show _ ≤ 1073741824
    omega
  clear ha hb hda hdb
  have hla := HA.out.2.2.2
  have hlb := HBb.out.2.2.2
  go_enter Try.func15, Try.ntmps15
  go_wp2_with fail
  refine (to_any a la ca za _ HA.out.1 HA.out.2.1 (by omega)).mono ?_
  rintro e w1 ⟨a1, n1, c1, rfl, r1, hn1, hc1, hb1⟩
  have H1 : Hid (Lst w1 a1 n1 c1 (toR za) ∧ n1 ≤ 1073741824 ∧ Below w.heap.size w w1) := ⟨⟨hn1.symm, hc1, r1, bd_toR za HA.out.2.2.1⟩, by rw [hn1, toR_length]; have := HA.out.2.1; omega, hb1⟩
  clear r1 hn1 hc1 hb1
  go_wp2_with fail
  refine (to_any b lb cb zb _ (HBb.out.below H1.out.2.2).1 HBb.out.2.1 (by omega)).mono ?_
  rintro e w2 ⟨a2, n2, c2, rfl, r2, hn2, hc2, hb2⟩
  have H2 : Hid (Lst w2 a2 n2 c2 (toR zb) ∧ n2 ≤ 1073741824 ∧ Below w.heap.size w w2 ∧ Lst w2 a1 n1 c1 (toR za)) :=
    ⟨⟨hn2.symm, hc2, r2, bd_toR zb HBb.out.2.2.1⟩, by rw [hn2, toR_length]; have := HBb.out.2.1; omega, H1.out.2.2.trans (hb2.mono H1.out.2.2.size), H1.out.1.1, H1.out.1.2.1, H1.out.1.2.2.1.below hb2, H1.out.1.2.2.2⟩
  clear r2 hn2 hc2 hb2
  go_wp2_with fail
  refine (uni_any a1 n1 c1 a2 n2 c2 (toR za) (toR zb) _ H2.out.2.2.2 H2.out.1 (by have := H1.out.2.1; have := H2.out.2.1; omega)).mono ?_
  rintro e w3 ⟨a3, n3, c3, rfl, r3, hn3, hb3⟩
  have H3 : Hid (RdP w3 a3 (Rg.uni (toR za) (toR zb)) ∧ n3 = (Rg.uni (toR za) (toR zb)).length ∧ Below w.heap.size w w3) := ⟨r3, hn3, H2.out.2.2.1.trans (hb3.mono H2.out.2.2.1.size)⟩
  clear r3 hn3 hb3
  go_wp2_with fail
  refine (from_any a3 n3 c3 _ _ H3.out.1 H3.out.2.1.symm (by have := H3.out.2.1; have := HLN.out; omega)).mono ?_
  rintro e w4 ⟨a4, n4, c4, rfl, r4, hn4, hb4⟩
  have H4 : Hid (Rd w4 a4 (fromR (Rg.uni (toR za) (toR zb))) ∧ n4 = (fromR (Rg.uni (toR za) (toR zb))).length ∧ Below w.heap.size w w4) := ⟨r4, hn4, H3.out.2.2.trans (hb4.mono H3.out.2.2.size)⟩
  clear r4 hn4 hb4
  go_wp2
  go_ret
  exact ⟨a4, n4, c4, rfl, H4.out.1, H4.out.2.1, H4.out.2.2⟩

/-! ### The plain laws of flat lists -/
def subF (za zb : List Int) : List Int := fromR (Rg.sub (toR za) (toR zb))
def uniF (za zb : List Int) : List Int := fromR (Rg.uni (toR za) (toR zb))
theorem even_fromR (rs : Rg.R) : (fromR rs).length % 2 = 0 := by rw [fromR_length]; omega
theorem toR_subF (za zb : List Int) : toR (subF za zb) = Rg.sub (toR za) (toR zb) := toR_fromR _
theorem toR_uniF (za zb : List Int) : toR (uniF za zb) = Rg.uni (toR za) (toR zb) := toR_fromR _
section
variable {za zb : List Int}
theorem can_dis (h : Rg.canB za = true) : Rg.disB za = true := (dis_ch za).2 ⟨((can_ch za).1 h).1, Rg.ch_mono (by omega) ((can_ch za).1 h).2⟩
theorem dis_byf (h : Rg.disB za = true) : Rg.byfB za = true := (byf_ch za).2 ⟨((dis_ch za).1 h).1, Rg.ch_byF (by omega) ((dis_ch za).1 h).2⟩
theorem subF_dis (ha : Rg.disB za = true) (hb : Rg.disB zb = true) : Rg.disB (subF za zb) = true :=
  (dis_ch _).2 ⟨even_fromR _, by rw [toR_subF]; exact Rg.sub_ch (by omega) (by omega) _ _ ((dis_ch za).1 ha).2 ((dis_ch zb).1 hb).2⟩
theorem subF_can (ha : Rg.canB za = true) (hb : Rg.disB zb = true) : Rg.canB (subF za zb) = true :=
  (can_ch _).2 ⟨even_fromR _, by rw [toR_subF]; exact Rg.sub_ch (by omega) (by omega) _ _ ((can_ch za).1 ha).2 ((dis_ch zb).1 hb).2⟩
theorem subF_has (ha : Rg.disB za = true) (hb : Rg.disB zb = true) (x : Int) : Rg.Has (toR (subF za zb)) x ↔ Rg.Has (toR za) x ∧ ¬ Rg.Has (toR zb) x := by
  rw [toR_subF]; exact Rg.sub_has _ _ ((dis_ch za).1 ha).2 ((dis_ch zb).1 hb).2 x
theorem subF_len (ha : Rg.disB za = true) (hb : Rg.disB zb = true) : (subF za zb).length ≤ za.length + zb.length := by
  have := Rg.sub_len _ _ ((dis_ch za).1 ha).2 ((dis_ch zb).1 hb).2
  rw [toR_length, toR_length] at this
  rw [subF, fromR_length]
  omega
theorem subF_u64 (ha : Rg.disB za = true) (hb : Rg.disB zb = true) (hu : U64 za) : U64 (subF za zb) :=
  u64_fromR _ (Rg.sub_bd _ _ ((dis_ch za).1 ha).2 ((dis_ch zb).1 hb).2 (bd_toR za hu))
theorem uniF_can (ha : Rg.byfB za = true) (hb : Rg.byfB zb = true) : Rg.canB (uniF za zb) = true :=
  (can_ch _).2 ⟨even_fromR _, by rw [toR_uniF]; exact Rg.uni_ch _ _ ((byf_ch za).1 ha).2 ((byf_ch zb).1 hb).2⟩
theorem uniF_has (ha : Rg.byfB za = true) (hb : Rg.byfB zb = true) (x : Int) : Rg.Has (toR (uniF za zb)) x ↔ Rg.Has (toR za) x ∨ Rg.Has (toR zb) x := by
  rw [toR_uniF]; exact Rg.uni_has _ _ ((byf_ch za).1 ha).2 ((byf_ch zb).1 hb).2 x
theorem uniF_len (ha : Rg.byfB za = true) (hb : Rg.byfB zb = true) : (uniF za zb).length ≤ za.length + zb.length := by
  have := Rg.uni_len _ _ ((byf_ch za).1 ha).2 ((byf_ch zb).1 hb).2
  rw [toR_length, toR_length] at this
  rw [uniF, fromR_length]
  omega
theorem uniF_u64 (ha : U64 za) (hb : U64 zb) : U64 (uniF za zb) := u64_fromR _ (Rg.uni_bd _ _ (bd_toR za ha) (bd_toR zb hb))
theorem can_eq (ha : Rg.canB za = true) (hb : Rg.canB zb = true) (h : ∀ x, Rg.Has (toR za) x ↔ Rg.Has (toR zb) x) : za = zb := by
  have e := Rg.can_unique _ _ ((can_ch za).1 ha).2 ((can_ch zb).1 hb).2 h
  rw [← fromR_toR za ((can_ch za).1 ha).1, e, fromR_toR zb ((can_ch zb).1 hb).1]
end
theorem can_nilF : Rg.canB [] = true := rfl
theorem no_has (x : Int) : ¬ Rg.Has (toR []) x := Rg.has_nil x

/-! ### The contracts, of flat lists -/
theorem flt_nil (w : World) : Flt w none 0 [] := ⟨.inl rfl, rfl, u64_nil, by omega⟩
theorem cSub (a : Option Addr) (la ca : Nat) (za : List Int) (b : Option Addr) (lb cb : Nat) (zb : List Int) (w : World) (ha : Flt w a la za) (hb : Flt w b lb zb)
    (hda : Rg.disB za = true) (hdb : Rg.disB zb = true) (hl : la + lb ≤ 1073741824) :
    Calls Try.prog 11 #[.slice a la ca, .slice b lb cb] w fun e w' => ∃ a' n c, e = .returned (.slice a' n c) ∧ Flt w' a' n (subF za zb) ∧ n ≤ la + lb ∧ Below w.heap.size w w' := by
  refine (zsub_any a la ca za b lb cb zb w ha hb ((dis_ch za).1 hda).2 ((dis_ch zb).1 hdb).2).mono ?_
  rintro e w' ⟨a', n, c, rfl, r, hn, hbl⟩
  have hle := subF_len hda hdb
  have hn' : n = (subF za zb).length := hn
  rw [← hn', ha.2.1, hb.2.1] at hle
  exact ⟨a', n, c, rfl, ⟨r, hn.symm, subF_u64 hda hdb ha.2.2.1, by omega⟩, hle, hbl⟩
theorem cUni (a : Option Addr) (la ca : Nat) (za : List Int) (b : Option Addr) (lb cb : Nat) (zb : List Int) (w : World) (ha : Flt w a la za) (hb : Flt w b lb zb)
    (hda : Rg.byfB za = true) (hdb : Rg.byfB zb = true) (hl : la + lb ≤ 1073741824) :
    Calls Try.prog 15 #[.slice a la ca, .slice b lb cb] w fun e w' => ∃ a' n c, e = .returned (.slice a' n c) ∧ Flt w' a' n (uniF za zb) ∧ n ≤ la + lb ∧ Below w.heap.size w w' := by
  refine (zuni_any a la ca za b lb cb zb w ha hb ((byf_ch za).1 hda).2 ((byf_ch zb).1 hdb).2).mono ?_
  rintro e w' ⟨a', n, c, rfl, r, hn, hbl⟩
  have hle := uniF_len hda hdb
  have hn' : n = (uniF za zb).length := hn
  rw [← hn', ha.2.1, hb.2.1] at hle
  exact ⟨a', n, c, rfl, ⟨r, hn.symm, uniF_u64 ha.2.2.1 hb.2.2.1, by omega⟩, hle, hbl⟩
theorem cSame (a : Option Addr) (la ca : Nat) (za : List Int) (b : Option Addr) (lb cb : Nat) (zb : List Int) (w : World) (ha : Flt w a la za) (hb : Flt w b lb zb) (he : za = zb) :
    Calls Try.prog 16 #[.slice a la ca, .slice b lb cb] w fun e w' => e = .returned (.bool true) ∧ Below w.heap.size w w' := by
  refine (same_any a b la ca lb cb za zb w ha.1 hb.1 ha.2.1 hb.2.1 (by have := ha.2.2.2; omega) (by have := hb.2.2.2; omega)).mono ?_
  rintro e w' ⟨rfl, n, rfl⟩
  exact ⟨ret_bool (decide_eq_true he), below_drewN (Below.refl _ _) n⟩
theorem cCan (a : Option Addr) (la ca : Nat) (za : List Int) (w : World) (ha : Flt w a la za) (v : Bool) (hv : Rg.canB za = v) :
    Calls Try.prog 12 #[.slice a la ca] w fun e w' => e = .returned (.bool v) ∧ Below w.heap.size w w' := by
  refine (can_any a la ca za w ha.1 ha.2.1 (by have := ha.2.2.2; omega) ha.2.2.1).mono ?_
  rintro e w' ⟨rfl, n, rfl⟩
  exact ⟨ret_bool hv, below_drewN (Below.refl _ _) n⟩

theorem cCanB (a : Option Addr) (la ca : Nat) (za : List Int) (w : World) (ha : Flt w a la za) :
    Calls Try.prog 12 #[.slice a la ca] w fun e w' => e = .returned (.bool (Rg.canB za)) ∧ Below w.heap.size w w' := cCan a la ca za w ha _ rfl
theorem cDis (a : Option Addr) (la ca : Nat) (za : List Int) (w : World) (ha : Flt w a la za) :
    Calls Try.prog 10 #[.slice a la ca] w fun e w' => e = .returned (.bool (Rg.disB za)) ∧ Below w.heap.size w w' := by
  refine (dis_any a la ca za w ha.1 ha.2.1 (by have := ha.2.2.2; omega)).mono ?_
  rintro e w' ⟨rfl, n, rfl⟩
  exact ⟨rfl, below_drewN (Below.refl _ _) n⟩
theorem cByf (a : Option Addr) (la ca : Nat) (za : List Int) (w : World) (ha : Flt w a la za) :
    Calls Try.prog 19 #[.slice a la ca] w fun e w' => e = .returned (.bool (Rg.byfB za)) ∧ Below w.heap.size w w' := by
  refine (byf_any a la ca za w ha.1 ha.2.1 (by have := ha.2.2.2; omega)).mono ?_
  rintro e w' ⟨rfl, n, rfl⟩
  exact ⟨rfl, below_drewN (Below.refl _ _) n⟩

/-! ### The bounds on total length -/
theorem bytes18_yes (a b : Option Addr) (la ca lb cb : Nat) (x : Int) (w : World) (h : la + lb ≤ 1048576) :
    Calls Try.prog 18 #[.slice a la ca, .slice b lb cb, .int .u64 x] w fun e w' => e = .returned (.bool true) ∧ w = w' := by
  go_enter Try.func18, Try.ntmps18
  go_wp2
  go_ret
  exact ⟨rfl, rfl⟩
theorem bytes18_no (a b : Option Addr) (la ca lb cb : Nat) (x : Int) (w : World) (h : ¬ la + lb ≤ 1048576) :
    Calls Try.prog 18 #[.slice a la ca, .slice b lb cb, .int .u64 x] w fun e w' => e = .returned (.bool false) ∧ w = w' := by
  go_enter Try.func18, Try.ntmps18
  go_wp2
  all_goals
    go_ret
    exact ⟨rfl, rfl⟩
theorem bytes21_yes (a b : Option Addr) (la ca lb cb : Nat) (w : World) (h : la + lb ≤ 1048576) :
    Calls Try.prog 21 #[.slice a la ca, .slice b lb cb] w fun e w' => e = .returned (.bool true) ∧ w = w' := by
  go_enter Try.func21, Try.ntmps21
  go_wp2
  go_ret
  exact ⟨rfl, rfl⟩
theorem bytes21_no (a b : Option Addr) (la ca lb cb : Nat) (w : World) (h : ¬ la + lb ≤ 1048576) :
    Calls Try.prog 21 #[.slice a la ca, .slice b lb cb] w fun e w' => e = .returned (.bool false) ∧ w = w' := by
  go_enter Try.func21, Try.ntmps21
  go_wp2
  all_goals
    go_ret
    exact ⟨rfl, rfl⟩
theorem bytes17_yes (a b : Option Addr) (la ca lb cb : Nat) (w : World) (h : la + lb ≤ 1048576) :
    Calls Try.prog 17 #[.slice a la ca, .slice b lb cb] w fun e w' => e = .returned (.bool true) ∧ w = w' := by
  go_enter Try.func17, Try.ntmps17
  go_wp2
  go_ret
  exact ⟨rfl, rfl⟩
theorem bytes17_no (a b : Option Addr) (la ca lb cb : Nat) (w : World) (h : ¬ la + lb ≤ 1048576) :
    Calls Try.prog 17 #[.slice a la ca, .slice b lb cb] w fun e w' => e = .returned (.bool false) ∧ w = w' := by
  go_enter Try.func17, Try.ntmps17
  go_wp2
  all_goals
    go_ret
    exact ⟨rfl, rfl⟩
theorem bytes14_yes (a b c : Option Addr) (la ca lb cb lc cc : Nat) (w : World) (h : la + lb + lc ≤ 1048576) :
    Calls Try.prog 14 #[.slice a la ca, .slice b lb cb, .slice c lc cc] w fun e w' => e = .returned (.bool true) ∧ w = w' := by
  go_enter Try.func14, Try.ntmps14
  go_wp2
  go_ret
  exact ⟨rfl, rfl⟩
theorem bytes14_no (a b c : Option Addr) (la ca lb cb lc cc : Nat) (w : World) (h : ¬ la + lb + lc ≤ 1048576) :
    Calls Try.prog 14 #[.slice a la ca, .slice b lb cb, .slice c lc cc] w fun e w' => e = .returned (.bool false) ∧ w = w' := by
  go_enter Try.func14, Try.ntmps14
  go_wp2
  all_goals
    go_ret
    exact ⟨rfl, rfl⟩

end Go.Proofs.Qxb6600453a
