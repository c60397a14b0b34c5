import Derived.Test.Qxb6619458aAPr
namespace Go.Proofs.Qxb6619458a
open Go.RowKit
attribute [local go_sem ↓] Go.wp_at_zero Go.wp_at_succ

set_option maxRecDepth 1000000 in
set_option maxHeartbeats 16000000 in
theorem adv_main (linger sNow now : Int) (aR aF aO aL aE aK aV : Option Addr) (n nf no nl ne nk nv cR cF cO cL cE cK cV : Nat) (A : Nat → AR) (T U : Nat → Nat → Int) (fr O la va : Nat → Int) (ex : Nat → Int × Int) (ky : Nat → ByteArray) (w : World)
    (hA : IsA w aR n A) (hT : IsT w n A T) (hU : IsU w n A U) (hF : IsI w aF nf fr) (hO : IsI w aO no O) (hL : IsI w aL nl la) (hE : IsS w aE ne ex) (hK : IsK w aK nk ky) (hV : IsI w aV nv va) (hWd : Wide A n) (hWK : WideK ky nk)
    (hn : n ≤ 9223372036854775807) (hnf : nf ≤ 9223372036854775807) (hno : no ≤ 9223372036854775807) (hnl : nl ≤ 9223372036854775807) (hne : ne ≤ 9223372036854775807) (hnk : nk ≤ 9223372036854775807) (hnv : nv ≤ 9223372036854775807)
    (hOw : ∀ g, g < no → wrap64 (O g) = O g) :
    Calls Try.prog 3 #[.int .i64 linger, .int .i64 sNow, .slice aR n cR, .slice aF nf cF, .slice aO no cO, .slice aL nl cL, .slice aE ne cE, .slice aK nk cK, .slice aV nv cV, .int .i64 now] w fun e w' => e = .returned (.bool true) ∧ Below w.heap.size w w' := by
  have HA := Hid.mk' hA
  have HT := Hid.mk' hT
  have HU := Hid.mk' hU
  have HF := Hid.mk' hF
  have HO := Hid.mk' hO
  have HL := Hid.mk' hL
  have HE := Hid.mk' hE
  have HK := Hid.mk' hK
  have HV := Hid.mk' hV
  have HWd := Hid.mk' hWd
  have HWK := Hid.mk' hWK
  have HOw := Hid.mk' hOw
  clear hA hT hU hF hO hL hE hK hV hWd hWK hOw
  go_enter Try.func3, Try.ntmps3
  go_wp2_with fail
  refine (bytes8_any linger sNow now aR aF aO aL aE aK aV n nf no nl ne nk nv cR cF cO cL cE cK cV A ky w HA.out HK.out HWd.out HWK.out hn hnf hno hnl hne hnk hnv).mono ?_
  rintro e w1 ⟨⟨t, rfl, ht⟩, hw1⟩
  subst hw1
  have HTt := Hid.mk' ht
  clear ht
  cases t
  case false =>
    go_wp2
    go_ret
    exact ⟨rfl, Below.refl _ _⟩
  case true =>
    have HSm := Hid.mk' (HTt.out rfl)
    clear HTt
    by_cases g1 : (n : Int) ≤ 65536
    case neg =>
      have g1' : (65536 : Int) < n := by omega
      go_wp2
      go_ret
      exact ⟨rfl, Below.refl _ _⟩
    by_cases g2 : (nf : Int) ≤ 65536
    case neg =>
      have g2' : (65536 : Int) < nf := by omega
      go_wp2
      go_ret
      exact ⟨rfl, Below.refl _ _⟩
    by_cases g3 : (no : Int) ≤ 65536
    case neg =>
      have g3' : (65536 : Int) < no := by omega
      go_wp2
      go_ret
      exact ⟨rfl, Below.refl _ _⟩
    by_cases g4 : (nl : Int) ≤ 65536
    case neg =>
      have g4' : (65536 : Int) < nl := by omega
      go_wp2
      go_ret
      exact ⟨rfl, Below.refl _ _⟩
    by_cases g5 : (ne : Int) ≤ 65536
    case neg =>
      have g5' : (65536 : Int) < ne := by omega
      go_wp2
      go_ret
      exact ⟨rfl, Below.refl _ _⟩
    by_cases g6 : (nk : Int) ≤ 65536
    case neg =>
      have g6' : (65536 : Int) < nk := by omega
      go_wp2
      go_ret
      exact ⟨rfl, Below.refl _ _⟩
    by_cases g7 : (nv : Int) ≤ 65536
    case neg =>
      have g7' : (65536 : Int) < nv := by omega
      go_wp2
      go_ret
      exact ⟨rfl, Below.refl _ _⟩
    go_wp2_with fail
    refine (afits_any aR aF aO aL aE aK aV n nf no nl ne nk nv cR cF cO cL cE cK cV A T fr la va ex ky w1 HA.out HT.out HF.out HL.out HE.out HK.out HV.out HWd.out HWK.out (by omega) (by omega) (by omega) (by omega) (by omega) (by omega) (by omega)).mono ?_
    rintro e w2 ⟨⟨t, rfl, ht⟩, hb2⟩
    have HTt := Hid.mk' ht
    clear ht
    cases t
    case false =>
      go_wp2
      go_ret
      exact ⟨rfl, hb2⟩
    case true =>
      have hFi := HTt.out rfl
      have e1 := hFi.lo
      have e2 := hFi.kv
      subst e1 e2
      have HFi := Hid.mk' hFi
      clear hFi HTt
      go_upto_if 103 with fail
      go_step
      go_step
      go_step
      go_step
      exact partR linger sNow now aR aF aO aL aE aK aV n nf nl ne nk cR cF cO cL cE cK cV A T U fr O la va ex ky w1 w2 (HA.out.below hb2) (fun k hk => (HT.out k hk).below hb2) (fun k hk => (HU.out k hk).below hb2) (HF.out.below hb2) (HO.out.below hb2) (HL.out.below hb2) (HE.out.below hb2) (HK.out.below hb2) (HV.out.below hb2)
        HSm.out ⟨HFi.out.s0, HFi.out.s2, HFi.out.s1, HFi.out.s3, HFi.out.s4, HFi.out.qf, HFi.out.ql, HFi.out.qe, HFi.out.qv⟩ HFi.out.qt HOw.out hb2

end Go.Proofs.Qxb6619458a
