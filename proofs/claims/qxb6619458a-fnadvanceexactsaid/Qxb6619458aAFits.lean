import Derived.Test.Qxb6619458aABytes
namespace Go.Proofs.Qxb6619458a
open Go.RowKit
attribute [local go_sem ↓] Go.wp_at_zero Go.wp_at_succ

/-- The first k of f lie from lo on and below n. -/
def InR (f : Nat → Int) (lo n : Int) (k : Nat) : Prop := ∀ i, i < k → lo ≤ f i ∧ f i < n
theorem InR.zero (f : Nat → Int) (lo n : Int) : InR f lo n 0 := fun i hi => by omega
theorem InR.step {f : Nat → Int} {lo n : Int} {k : Nat} (h : InR f lo n k) (h1 : lo ≤ f k) (h2 : f k < n) : InR f lo n (k + 1) := fun i hi => by
  by_cases e : i = k
  · subst e; exact ⟨h1, h2⟩
  · exact h i (by omega)
/-- The groups that the first k fresh records list. -/
def InT (fr : Nat → Int) (A : Nat → AR) (T : Nat → Nat → Int) (G : Int) (k : Nat) : Prop := ∀ i, i < k → InR (T (fr i).toNat) 0 G (A (fr i).toNat).tl
theorem InT.zero (fr : Nat → Int) (A : Nat → AR) (T : Nat → Nat → Int) (G : Int) : InT fr A T G 0 := fun i hi => by omega
theorem InT.step {fr : Nat → Int} {A : Nat → AR} {T : Nat → Nat → Int} {G : Int} {k : Nat} (h : InT fr A T G k) (h1 : InR (T (fr k).toNat) 0 G (A (fr k).toNat).tl) : InT fr A T G (k + 1) := fun i hi => by
  by_cases e : i = k
  · subst e; exact h1
  · exact h i (by omega)

/-- What advanceFits asks. -/
structure AFits (n nf no nl ne nk nv : Nat) (A : Nat → AR) (T : Nat → Nat → Int) (fr la va : Nat → Int) (ex : Nat → Int × Int) : Prop where
  s0 : n ≤ 65536
  s1 : nf ≤ 65536
  s2 : no ≤ 65536
  s3 : ne ≤ 65536
  s4 : nk ≤ 65536
  lo : nl = no
  kv : nk = nv
  qf : InR fr 0 n nf
  ql : InR la (-1) n nl
  qe : InR (fun i => (ex i).2) 0 n ne
  qv : InR va (-1) n nv
  qt : InT fr A T no nf

/-- The records' lists, read. -/
def IsT (w : World) (n : Nat) (A : Nat → AR) (T : Nat → Nat → Int) : Prop := ∀ k, k < n → IsI w (A k).ta (A k).tl (T k)
def IsU (w : World) (n : Nat) (A : Nat → AR) (T : Nat → Nat → Int) : Prop := ∀ k, k < n → IsI w (A k).ua (A k).ul (T k)
theorem IsT.below {w w' : World} {n : Nat} {A : Nat → AR} {T : Nat → Nat → Int} (h : IsT w n A T) (hb : Below w.heap.size w w') : IsT w' n A T := fun k hk => (h k hk).below hb
theorem IsU.below {w w' : World} {n : Nat} {A : Nat → AR} {T : Nat → Nat → Int} (h : IsU w n A T) (hb : Below w.heap.size w w') : IsU w' n A T := fun k hk => (h k hk).below hb

set_option maxRecDepth 100000 in
set_option maxHeartbeats 4000000 in
theorem afits_any (ar af ao al ae ak av : Option Addr) (n nf no nl ne nk nv cr cf co cl ce ck cv : Nat) (A : Nat → AR) (T : Nat → Nat → Int) (fr la va : Nat → Int) (ex : Nat → Int × Int) (K : Nat → ByteArray) (w : World)
    (hA : IsA w ar n A) (hT : IsT w n A T) (hF : IsI w af nf fr) (hL : IsI w al nl la) (hE : IsS w ae ne ex) (hK : IsK w ak nk K) (hV : IsI w av nv va) (hW : Wide A n) (hWK : WideK K nk)
    (hn : n ≤ 65536) (hnf : nf ≤ 65536) (hno : no ≤ 65536) (hnl : nl ≤ 65536) (hne : ne ≤ 65536) (hnk : nk ≤ 65536) (hnv : nv ≤ 65536) :
    Calls Try.prog 9 #[.slice ar n cr, .slice af nf cf, .slice ao no co, .slice al nl cl, .slice ae ne ce, .slice ak nk ck, .slice av nv cv] w fun e w' => IsBool e (AFits n nf no nl ne nk nv A T fr la va ex) ∧ Below w.heap.size w w' := by
  have HT : Hid (IsT w n A T) := hT
  have HW : Hid (Wide A n) := hW
  have HWK : Hid (WideK K nk) := hWK
  clear hT hW hWK
  go_enter Try.func9, Try.ntmps9
  go_wp2
  go_loopw [15, 16] (fun z i wr => ∃ (k : Nat) (y : Int), k ≤ n ∧ i = .int .i64 k ∧ z = .int .i64 y ∧ Below w.heap.size w wr) (fun _ i _ => n - (intOf i).toNat)
  case atStart => exact ⟨0, _, Nat.zero_le _, rfl, rfl, Below.refl _ _⟩
  case round =>
    obtain ⟨k, y, hk, rfl, rfl, hb⟩ := hrel
    by_cases hlt : k < n ∧ y ≤ 1048576
    · obtain ⟨hlt, hy⟩ := hlt
      obtain ⟨b, off, rfl, hl, c0, c1, c2, c3, c4⟩ := (hA.below hb).le hlt
      obtain ⟨g1, g2, g3⟩ := HW.out k hlt
      clear hA hF hL hE hK hV
      go_wp2
      go_quiet (fail)
      go_wp2
      go_roundw
      case rel => exact ⟨k + 1, _, by omega, by go_num, rfl, below_drewN hb _⟩
      case measure => simp [intOf]; omega
    · by_cases hkn : k < n
      · have hy : 1048576 < y := by omega
        clear hlt hA hF hL hE hK hV
        go_wp2
        go_loopw [15, 17] (fun z i wx => z = .int .i64 y ∧ i = .int .i64 0 ∧ wx = wr) (fun _ _ _ => 0)
        case atStart => exact ⟨rfl, rfl, rfl⟩
        case round =>
          obtain ⟨rfl, rfl, rfl⟩ := hrel
          by_cases h0 : (0 : Int) < nk
          · go_wp2
            go_ret
            exact ⟨IsBool.mk _ _ (fun h => by cases h), hb⟩
          · go_wp2
            go_ret
            exact ⟨IsBool.mk _ _ (fun h => by cases h), hb⟩
      · have e : n = k := by omega
        subst e
        clear hlt
        obtain ⟨w1, rfl⟩ : ∃ w1 : World, w1 = wr := ⟨_, rfl⟩
        have hA1 := hA.below hb
        have HT1 : Hid (IsT w1 n A T) := HT.out.below hb
        have hF1 := hF.below hb
        have hL1 := hL.below hb
        have hE1 := hE.below hb
        have hK1 := hK.below hb
        have hV1 := hV.below hb
        clear hA HT hF hL hE hK hV
        go_wp2
        go_loopw [15, 17] (fun z i wx => ∃ (k : Nat) (y : Int), k ≤ nk ∧ i = .int .i64 k ∧ z = .int .i64 y ∧ wx = w1) (fun _ i _ => nk - (intOf i).toNat)
        case atStart => exact ⟨0, _, Nat.zero_le _, rfl, rfl, rfl⟩
        case round =>
          obtain ⟨k, y, hk, rfl, rfl, rfl⟩ := hrel
          by_cases hlt : k < nk
          · by_cases hy : y ≤ 1048576
            · obtain ⟨b, off, rfl, hl, c0⟩ := hK1.le hlt
              have g1 := HWK.out k hlt
              clear hA1 hF1 hL1 hE1 hK1 hV1
              go_wp2
              go_roundw
              case rel => first | exact ⟨k + 1, _, by omega, by go_num, rfl, rfl⟩ | exact ⟨k + 1, _, by omega, by go_num, rfl, trivial⟩
              case measure => simp [intOf]; omega
            · clear hA1 hF1 hL1 hE1 hK1 hV1
              go_wp2
              go_ret
              exact ⟨IsBool.mk _ _ (fun h => by cases h), hb⟩
          · have e : nk = k := by omega
            subst e
            clear hlt hK1
            by_cases hy : y ≤ 1048576
            case neg =>
              clear hA1 hF1 hL1 hE1 hV1
              go_wp2
              go_ret
              exact ⟨IsBool.mk _ _ (fun h => by cases h), hb⟩
            by_cases hlo : (nl : Int) = no
            case neg =>
              clear hA1 hF1 hL1 hE1 hV1
              go_wp2
              go_ret
              exact ⟨IsBool.mk _ _ (fun h => by cases h), hb⟩
            by_cases hkv : (nk : Int) = nv
            case neg =>
              clear hA1 hF1 hL1 hE1 hV1
              go_wp2
              go_ret
              exact ⟨IsBool.mk _ _ (fun h => by cases h), hb⟩
            have hlo' : nl = no := by omega
            have hkv' : nk = nv := by omega
            subst hlo'
            subst hkv'
            clear hlo hkv
            go_wp2
            go_loop [19] (fun i => ∃ k : Nat, k ≤ nf ∧ i = .int .i64 k ∧ InR fr 0 n k) (fun i => nf - (intOf i).toNat)
            case atStart => exact ⟨0, Nat.zero_le _, rfl, InR.zero _ _ _⟩
            case round =>
              obtain ⟨k, hk, rfl, hS⟩ := hrel
              by_cases hlt : k < nf
              · obtain ⟨b, off, rfl, hl, c0⟩ := hF1.le hlt
                clear hA1 hF1 hL1 hE1 hV1
                by_cases g1 : 0 ≤ fr k
                case neg =>
                  go_wp2
                  go_ret
                  exact ⟨IsBool.mk _ _ (fun h => by cases h), hb⟩
                by_cases g2 : fr k < n
                case neg =>
                  go_wp2
                  go_ret
                  exact ⟨IsBool.mk _ _ (fun h => by cases h), hb⟩
                go_wp2
                go_round
                case rel => exact ⟨k + 1, by omega, by go_num, hS.step g1 g2⟩
                case measure => simp [intOf]; omega
              · have e : nf = k := by omega
                subst e
                have HF : Hid (InR fr 0 n nf) := hS
                clear hlt hS
                go_wp2
                go_loop [20] (fun i => ∃ k : Nat, k ≤ nl ∧ i = .int .i64 k ∧ InR la (-1) n k) (fun i => nl - (intOf i).toNat)
                case atStart => exact ⟨0, Nat.zero_le _, rfl, InR.zero _ _ _⟩
                case round =>
                  obtain ⟨k, hk, rfl, hS⟩ := hrel
                  by_cases hlt : k < nl
                  · obtain ⟨b, off, rfl, hl, c0⟩ := hL1.le hlt
                    clear hA1 hF1 hL1 hE1 hV1
                    by_cases g1 : -1 ≤ la k
                    case neg =>
                      go_wp2
                      go_ret
                      exact ⟨IsBool.mk _ _ (fun h => by cases h), hb⟩
                    by_cases g2 : la k < n
                    case neg =>
                      go_wp2
                      go_ret
                      exact ⟨IsBool.mk _ _ (fun h => by cases h), hb⟩
                    go_wp2
                    go_round
                    case rel => exact ⟨k + 1, by omega, by go_num, hS.step g1 g2⟩
                    case measure => simp [intOf]; omega
                  · have e : nl = k := by omega
                    subst e
                    have HL : Hid (InR la (-1) n nl) := hS
                    clear hlt hS hL1
                    go_wp2
                    go_loop [21] (fun i => ∃ k : Nat, k ≤ ne ∧ i = .int .i64 k ∧ InR (fun i => (ex i).2) 0 n k) (fun i => ne - (intOf i).toNat)
                    case atStart => exact ⟨0, Nat.zero_le _, rfl, InR.zero _ _ _⟩
                    case round =>
                      obtain ⟨k, hk, rfl, hS⟩ := hrel
                      by_cases hlt : k < ne
                      · obtain ⟨b, off, rfl, hl, c0, c1⟩ := hE1.le hlt
                        clear hA1 hF1 hE1 hV1
                        by_cases g1 : 0 ≤ (ex k).2
                        case neg =>
                          go_wp2
                          go_ret
                          exact ⟨IsBool.mk _ _ (fun h => by cases h), hb⟩
                        by_cases g2 : (ex k).2 < n
                        case neg =>
                          go_wp2
                          go_ret
                          exact ⟨IsBool.mk _ _ (fun h => by cases h), hb⟩
                        go_wp2
                        go_round
                        case rel => exact ⟨k + 1, by omega, by go_num, hS.step g1 g2⟩
                        case measure => simp [intOf]; omega
                      · have e : ne = k := by omega
                        subst e
                        have HE : Hid (InR (fun i => (ex i).2) 0 n ne) := hS
                        clear hlt hS hE1
                        go_wp2
                        go_loop [22] (fun i => ∃ k : Nat, k ≤ nk ∧ i = .int .i64 k ∧ InR va (-1) n k) (fun i => nk - (intOf i).toNat)
                        case atStart => exact ⟨0, Nat.zero_le _, rfl, InR.zero _ _ _⟩
                        case round =>
                          obtain ⟨k, hk, rfl, hS⟩ := hrel
                          by_cases hlt : k < nk
                          · obtain ⟨b, off, rfl, hl, c0⟩ := hV1.le hlt
                            clear hA1 hF1 hV1
                            by_cases g1 : -1 ≤ va k
                            case neg =>
                              go_wp2
                              go_ret
                              exact ⟨IsBool.mk _ _ (fun h => by cases h), hb⟩
                            by_cases g2 : va k < n
                            case neg =>
                              go_wp2
                              go_ret
                              exact ⟨IsBool.mk _ _ (fun h => by cases h), hb⟩
                            go_wp2
                            go_round
                            case rel => exact ⟨k + 1, by omega, by go_num, hS.step g1 g2⟩
                            case measure => simp [intOf]; omega
                          · have e : nk = k := by omega
                            subst e
                            have HV : Hid (InR va (-1) n nk) := hS
                            clear hlt hS hV1
                            go_wp2
                            go_loop [23, 24] (fun z i => ∃ (k : Nat) (y : Int), k ≤ nf ∧ i = .int .i64 k ∧ z = .int .i64 y) (fun _ i => nf - (intOf i).toNat)
                            case atStart => exact ⟨0, _, Nat.zero_le _, rfl, rfl⟩
                            case round =>
                              obtain ⟨k, y, hk, rfl, rfl⟩ := hrel
                              by_cases hlt : k < nf
                              · by_cases hy2 : y ≤ 1048576
                                · obtain ⟨b, off, rfl, hl, c0⟩ := hF1.le hlt
                                  obtain ⟨g1, g2⟩ := HF.out k hlt
                                  obtain ⟨m, hm⟩ : ∃ m : Nat, fr k = m := ⟨(fr k).toNat, by omega⟩
                                  rw [hm] at c0 g1 g2
                                  have hmn : m < n := by omega
                                  obtain ⟨b2, off2, rfl, hl2, c2, c3, c4, c5, c6⟩ := hA1.le hmn
                                  obtain ⟨g3, g4, g5⟩ := HW.out m hmn
                                  clear hA1 hF1 hm
                                  go_wp2
                                  go_round
                                  case rel => exact ⟨k + 1, _, by omega, by go_num, rfl⟩
                                  case measure => simp [intOf]; omega
                                · clear hA1 hF1
                                  go_wp2
                                  go_ret
                                  exact ⟨IsBool.mk _ _ (fun h => by cases h), hb⟩
                              · have e : nf = k := by omega
                                subst e
                                clear hlt
                                by_cases hy2 : y ≤ 1048576
                                case neg =>
                                  clear hA1 hF1
                                  go_wp2
                                  go_ret
                                  exact ⟨IsBool.mk _ _ (fun h => by cases h), hb⟩
                                go_wp2
                                go_loop [25, 26, 27] (fun i _ _ => ∃ k : Nat, k ≤ nf ∧ i = .int .i64 k ∧ InT fr A T nl k) (fun i _ _ => nf - (intOf i).toNat)
                                case atStart => exact ⟨0, Nat.zero_le _, rfl, InT.zero _ _ _ _⟩
                                case round =>
                                  obtain ⟨k, hk, rfl, hS⟩ := hrel
                                  by_cases hlt : k < nf
                                  · obtain ⟨b, off, rfl, hl, c0⟩ := hF1.le hlt
                                    obtain ⟨g1, g2⟩ := HF.out k hlt
                                    obtain ⟨m, hm⟩ : ∃ m : Nat, fr k = m := ⟨(fr k).toNat, by omega⟩
                                    have HM : Hid (fr k = m) := hm
                                    rw [hm] at c0 g1 g2
                                    have hmn : m < n := by omega
                                    obtain ⟨b2, off2, rfl, hl2, c2, c3, c4, c5, c6⟩ := hA1.le hmn
                                    obtain ⟨g3, g4, g5⟩ := HW.out m hmn
                                    have hTm := HT1.out m hmn
                                    clear hA1 hF1 hm
                                    go_wp2
                                    go_loop [27] (fun i => ∃ j : Nat, j ≤ (A m).tl ∧ i = .int .i64 j ∧ InR (T m) 0 nl j) (fun i => (A m).tl - (intOf i).toNat)
                                    case atStart => exact ⟨0, Nat.zero_le _, rfl, InR.zero _ _ _⟩
                                    case round =>
                                      obtain ⟨j, hj, rfl, hR⟩ := hrel
                                      by_cases hjt : j < (A m).tl
                                      · obtain ⟨b3, off3, hx3, hl3, d0⟩ := hTm.le hjt
                                        rw [hx3] at c3
                                        clear hTm
                                        by_cases e1 : 0 ≤ T m j
                                        case neg =>
                                          go_wp2
                                          go_ret
                                          exact ⟨IsBool.mk _ _ (fun h => by cases h), hb⟩
                                        by_cases e2 : T m j < nl
                                        case neg =>
                                          go_wp2
                                          go_ret
                                          exact ⟨IsBool.mk _ _ (fun h => by cases h), hb⟩
                                        go_wp2
                                        go_round
                                        case rel => exact ⟨j + 1, by omega, by go_num, hR.step e1 e2⟩
                                        case measure => simp [intOf]; omega
                                      · have ej : (A m).tl = j := by omega
                                        have HR : Hid (InR (T m) 0 nl (A m).tl) := by rw [ej]; exact hR
                                        clear hTm hR ej
                                        go_wp2
                                        go_round
                                        case rel => exact ⟨k + 1, by omega, by go_num, hS.step (by rw [HM.out]; exact HR.out)⟩
                                        case measure => simp [intOf]; omega
                                  · have e : nf = k := by omega
                                    subst e
                                    have HQ : Hid (AFits n nf nl nl ne nk nk A T fr la va ex) := ⟨hn, hnf, hnl, hne, hnk, rfl, rfl, HF.out, HL.out, HE.out, HV.out, hS⟩
                                    clear hA1 hF1 hS
                                    go_wp2
                                    go_ret
                                    exact ⟨IsBool.mk _ _ (fun _ => HQ.out), hb⟩

end Go.Proofs.Qxb6619458a
