/- The walk of decimal128.String at a finite number other than 0. -/
import Derived.Test.YtjjfdamlicoeeaaDoorStrD
set_option linter.unusedVariables false
set_option linter.unusedSimpArgs false
set_option maxRecDepth 100000
namespace Go.Proofs.YtjjfdamlicoeeaaDoor.X
open Go.RowKit Go.Deep Go.Proofs.YtjjfdamlicoeeaaDoorW.PrintLast
def R33.T52 : Bool × List (List Nat × List Nat) := (true, [([], []), ([], []), ([0, 1], [0, 1]), ([2], [2]), ([3], [3]), ([4], [4]), ([], []), ([6], [6]), ([5, 7], [5, 7]), ([8, 7, 0, 1, 2, 3, 4, 5, 6, 7, 8], [8])])
def R33.B52 : List Nat := [0, 0, 3, 7, 15, 31, 0, 64, 255, 511]
theorem R33.tab52 : rtab .any (opsOf Tryd.f33 52) = R33.T52 := by kernel_rfl
theorem R33.bits52 : waitsOk R33.T52.2 R33.B52 = true := by kernel_rfl
def R33.T50 : Bool × List (List Nat × List Nat) := (true, [([], []), ([], []), ([0, 1], [0, 1]), ([2], [2]), ([3], [3]), ([4], [4]), ([], []), ([6], [6]), ([5, 7], [5, 7]), ([8, 7, 0, 1, 2, 3, 4, 5, 6, 7, 8], [8])])
def R33.B50 : List Nat := [0, 0, 3, 7, 15, 31, 0, 64, 255, 511]
theorem R33.tab50 : rtab .any (opsOf Tryd.f33 50) = R33.T50 := by kernel_rfl
theorem R33.bits50 : waitsOk R33.T50.2 R33.B50 = true := by kernel_rfl
set_option maxHeartbeats 40000000 in
theorem decStr (h l : Int) (w : World) (h1 : 0 ≤ h) (h2 : h ≤ 18446744073709551615) (h3 : 0 ≤ l) (h4 : l ≤ 18446744073709551615) (htab : Lib.TabIs Tryd.prog w "internal/strconv.uint64pow10" .u64 Lib.pow10Tab) (hk31 : k5P h ≠ 31) (hk30 : k5P h ≠ 30) (hz : ¬ (hiP h = 0 ∧ loP h l = 0 ∧ exP h = 0)) :
    Calls Tryd.prog 33 #[.int .u64 h, .int .u64 l] w fun e w' => e = .returned (.string (finT (sgP h) (outr 5 (s0P (exP h) (hiP h) (loP h l))))) ∧ Below w.heap.size w w' := by
  have HT := Lib.hid htab
  have b31 : (bits .and .u64 (h / 288230376151711744) 31 == 31) = false := by rw [beq_eq_false_iff_ne]; exact hk31
  have b30 : (bits .and .u64 (h / 288230376151711744) 31 == 30) = false := by rw [beq_eq_false_iff_ne]; exact hk30
  have hE := exP_bd h h1 h2
  have hH := hiP_bd h h1 h2
  have hL := loP_bd h l h3 h4
  obtain ⟨sg, hsg⟩ : ∃ x, x = sgP h := ⟨_, rfl⟩
  obtain ⟨E, hEE⟩ : ∃ x, x = exP h := ⟨_, rfl⟩
  obtain ⟨E6, hE6⟩ : ∃ x, x = exP h + 6176 := ⟨_, rfl⟩
  obtain ⟨H, hHH⟩ : ∃ x, x = hiP h := ⟨_, rfl⟩
  obtain ⟨Lw, hLL⟩ : ∃ x, x = loP h l := ⟨_, rfl⟩
  rw [← hEE] at hE hz
  rw [← hHH] at hH hz
  rw [← hLL] at hL hz
  have hE6b : 0 ≤ E6 ∧ E6 ≤ 16383 := by omega
  have HE : Hid (E6 + -6176 = E) := Lib.hid (by omega)
  obtain ⟨T, hT⟩ : ∃ T, T = outr 5 (s0P E H Lw) := ⟨_, rfl⟩
  rw [← hsg, ← hEE, ← hHH, ← hLL, ← hT]
  have HTT := Lib.hid hT
  have HZ := Lib.hid hz
  have HSG := Lib.hid hsg
  have HE6 := Lib.hid hE6
  have HHH := Lib.hid hHH
  have HLL := Lib.hid hLL
  clear htab hT hz hk31 hk30 hsg hEE hE6 hHH hLL
  go_enter Tryd.func33, Tryd.ntmps33
  go_wp2_with fail
  go_step3
  go_upto_if 20 with (fail)
  go_cut [5] (fun p5 w' => p5 = .int .i64 sg ∧ w = w')
  case first =>
    go_wp2_with fail
    · go_meet
      case rel => have := HSG.out; simp_all [sgP]
    · go_meet
      case rel => have := HSG.out; simp_all [sgP]
  case rest =>
    obtain ⟨rfl, rfl⟩ := hcut
    go_upto_if 34 with (fail)
    go_cut [6, 7, 8] (fun e6 h7 l8 w' => e6 = .int .i64 E6 ∧ h7 = .int .u64 H ∧ l8 = .int .u64 Lw ∧ w = w')
    case first =>
      go_wp2_with fail
      · go_meet
        case rel =>
          rename_i hq
          have b := bits14 (h / 140737488355328) (by omega) (by omega)
          have hw : wrap64 (bits .and .u64 (h / 140737488355328) 16383) = bits .and .u64 (h / 140737488355328) 16383 := by unfold wrap64; omega
          have e3 : e3P h = 3 := by unfold e3P; simpa using hq
          have x6 := HE6.out
          have xh := HHH.out
          have xl := HLL.out
          simp only [exP, hiP, loP, if_pos e3] at x6 xh xl
          exact ⟨by rw [hw]; congr 1; omega, by rw [xh], by rw [xl], rfl⟩
      · go_meet
        case rel =>
          rename_i hq
          have b := bits14 (h / 562949953421312) (by omega) (by omega)
          have hw : wrap64 (bits .and .u64 (h / 562949953421312) 16383) = bits .and .u64 (h / 562949953421312) 16383 := by unfold wrap64; omega
          have e3 : ¬ e3P h = 3 := by unfold e3P; simpa using hq
          have x6 := HE6.out
          have xh := HHH.out
          have xl := HLL.out
          simp only [exP, hiP, loP, if_neg e3] at x6 xh xl
          exact ⟨by rw [hw]; congr 1; omega, by rw [xh], by rw [xl], rfl⟩
    case rest =>
      obtain ⟨rfl, rfl, rfl, rfl⟩ := hcut
      go_upto_region 18 with (fail)
      go_cut [6, 7, 8, 56] (fun e6 h7 l8 v w' => e6 = .int .i64 (E6 + -6176) ∧ h7 = .int .u64 H ∧ l8 = .int .u64 Lw ∧ v = .bool false ∧ w = w')
      case first =>
        go_wp2_with fail
        all_goals go_meet
        all_goals
          have hz := HZ.out
          have he := HE.out
          clear HZ HE HE6 HHH HLL HSG
        · rename_i q1 q2
          subst q1 q2
          refine ⟨rfl, rfl, rfl, ?_, rfl⟩
          have hne : ¬ E6 + -6176 = 0 := fun e => hz ⟨rfl, rfl, by omega⟩
          first | (simp [hne]; done) | (simp; omega)
        · rename_i q1 q2
          subst q1
          exact ⟨rfl, rfl, rfl, rfl, rfl⟩
        · exact ⟨rfl, rfl, rfl, rfl, rfl⟩
      case rest =>
        obtain ⟨rfl, rfl, rfl, rfl, rfl⟩ := hcut
        go_wp2_with fail
        go_step3
        go_upto_block 1 with fail
        go_cut [6, 10] (fun e6 l10 w' => FinS w T e6 l10 w')
        case first =>
          as_aux_lemma =>
            go_wp2_with fail
            go_loopw [6, 7, 8, 10, 11, 12, 13, 14] (fun e6 h7 l8 l10 i11 d12 r13 d14 wr => ORelS w T e6 h7 l8 l10 i11 d12 r13 d14 wr) (fun _ _ _ _ _ _ _ d _ => 5 - (intOf d).toNat)
            case atStart =>
              have he := HE.out
              refine ⟨s0P E H Lw, 0, by omega, by rw [he]; rfl, rfl, rfl, rfl, rfl, by rw [he]; rfl, rfl, rfl, s0P_inv E H Lw hE hH hL, HTT.out.symm, start48 w⟩
            case round =>
              as_aux_lemma =>
                obtain ⟨⟨sH, sL, sr, se, si, sl, sd, sR⟩, d, hd, rfl, rfl, rfl, rfl, rfl, rfl, rfl, rfl, hinv, hout, hmem⟩ := hrel
                simp only at hinv hout hmem ⊢
                by_cases hd5 : d < 5
                · have hn := nine_ok hinv
                  obtain ⟨⟨o1, o2, o3, o4, o5, o6, -, -, -, -, -, -, -⟩, -⟩ := hn
                  simp only [nine] at o1 o2 o3 o4 o5 o6
                  have HD := Lib.hid (fun wx => divmod sH sL wx hinv.ok.1 hinv.ok.2 hinv.ok.3 hinv.ok.4)
                  have HN : Hid (Inv ⟨dmH sH sL, dmL sH sL, dmR sH sL, se, si, sl, sd, sR⟩ (9 * d)) := Lib.hid (nine_ok hinv)
                  have HO : Hid (outr (5 - d) ⟨sH, sL, sr, se, si, sl, sd, sR⟩ = if (inn 9 ⟨dmH sH sL, dmL sH sL, dmR sH sL, se, si, sl, sd, sR⟩).2 then (inn 9 ⟨dmH sH sL, dmL sH sL, dmR sH sL, se, si, sl, sd, sR⟩).1 else outr (5 - (d + 1)) (inn 9 ⟨dmH sH sL, dmL sH sL, dmR sH sL, se, si, sl, sd, sR⟩).1) := Lib.hid (by
                    rw [show 5 - d = (5 - (d + 1)) + 1 from by omega]; rfl)
                  rw [hout] at HO
                  obtain ⟨qH, hqH⟩ : ∃ x, x = dmH sH sL := ⟨_, rfl⟩
                  obtain ⟨qL, hqL⟩ : ∃ x, x = dmL sH sL := ⟨_, rfl⟩
                  obtain ⟨qR, hqR⟩ : ∃ x, x = dmR sH sL := ⟨_, rfl⟩
                  rw [← hqH, ← hqL, ← hqR] at HD HN HO
                  rw [← hqH] at o1 o2
                  rw [← hqL] at o3 o4
                  rw [← hqR] at o5 o6
                  obtain ⟨F, hF⟩ : ∃ F, F = inn 9 ⟨qH, qL, qR, se, si, sl, sd, sR⟩ := ⟨_, rfl⟩
                  rw [← hF] at HO
                  have HF := Lib.hid hF
                  have HM := Lib.hid hmem
                  clear hqH hqL hqR hF hinv hout hmem
                  go_wp2_with fail
                  refine (HD.out _).mono ?_
                  rintro e w' ⟨rfl, rfl⟩
                  go_wp2_with fail
                  obtain ⟨wo, rfl⟩ : ∃ wo : World, wo = wr := ⟨_, rfl⟩
                  go_loopw [6, 10, 11, 12, 13, 15] (fun e6 l10 i11 d12 r13 j15 wr => IRelS w qH qL (9 * d) F e6 l10 i11 d12 r13 j15 wr) (fun _ _ _ _ _ j _ => 9 - (intOf j).toNat)
                  case atStart => exact ⟨⟨qH, qL, qR, se, si, sl, sd, sR⟩, 0, by omega, rfl, rfl, rfl, rfl, rfl, rfl, rfl, rfl, HN.out, HF.out.symm, HM.out⟩
                  case round =>
                    as_aux_lemma =>
                      obtain ⟨⟨H', L', r, ex, i, la, dt, R⟩, j, hj, rfl, rfl, rfl, rfl, rfl, rfl, hH', hL', hinv, hinn, hmem⟩ := hrel
                      simp only at hH' hL' hinv hinn hmem ⊢
                      subst hH' hL'
                      clear HM HN HF HD
                      have HM := Lib.hid hmem
                      have HV := Lib.hid hinv
                      have HIN := Lib.hid hinn
                      have hok := hinv.ok
                      obtain ⟨-, -, -, -, b5, b6, b7, b8, b9, b10, b11, b12, -⟩ := hok
                      simp only at b5 b6 b7 b8 b9 b10 b11 b12
                      by_cases hj9 : j < 9
                      · have hi3 : 3 ≤ i ∧ i ≤ 48 := by
                          have := hinv.at_
                          simp only at this
                          omega
                        clear hmem hinv hinn
                        obtain ⟨zL, hzL⟩ : ∃ z, (L' == 0) = z := ⟨_, rfl⟩
                        obtain ⟨zH, hzH⟩ : ∃ z, (H' == 0) = z := ⟨_, rfl⟩
                        obtain ⟨zD, hzD⟩ : ∃ z, (dt == i) = z := ⟨_, rfl⟩
                        have dzL : decide (L' = 0) = zL := by rw [← hzL, Bool.eq_iff_iff]; simp
                        have dzH : decide (H' = 0) = zH := by rw [← hzH, Bool.eq_iff_iff]; simp
                        have dzD : decide (dt = i) = zD := by rw [← hzD, Bool.eq_iff_iff]; simp
                        obtain ⟨cA, hcA⟩ : ∃ c, c = condA ⟨H', L', r, ex, i, la, dt, R⟩ := ⟨_, rfl⟩
                        have HCA := Lib.hid hcA
                        have HCA2 : Hid (cA = (decide (i < 48) && (zD || (zL && zH && decide (0 < r) && decide (r < 10) && (decide (dt < i - 6) || decide (0 < ex)))))) := Lib.hid (by rw [hcA, condA]; simp only [dzL, dzH, dzD])
                        have HZ2 := Lib.hid (And.intro dzL dzH)
                        clear hcA dzL dzH dzD
                        go_upto_region 32 with (fail)
                        go_cut [6, 7, 8, 10, 11, 12, 13, 108] (fun e6 h7 l8 l10 i11 d12 r13 v w' => e6 = .int .i64 ex ∧ h7 = .int .u64 H' ∧ l8 = .int .u64 L' ∧ l10 = .int .i64 la ∧ i11 = .int .i64 i ∧ d12 = .int .i64 dt ∧ r13 = .int .u32 r ∧ v = .bool cA ∧ wr = w')
                        case first =>
                          as_aux_lemma =>
                            go_wp2_with fail
                            all_goals go_meet
                            all_goals (refine ⟨?_, ?_, ?_, ?_, ?_, ?_, ?_, ?_, rfl⟩ <;> first | rfl | (congr 1; omega) | (congr 1; rw [HCA2.out]; simp [*]; done) | (congr 1; rw [HCA2.out, Bool.eq_iff_iff]; simp [*]; omega) | fail)
                        case rest =>
                          as_aux_lemma =>
                            obtain ⟨rfl, rfl, rfl, rfl, rfl, rfl, rfl, rfl, rfl⟩ := hcut
                            have hA := aft_ok HV.out (by omega)
                            obtain ⟨A, hAA⟩ : ∃ A, A = aft ⟨H', L', r, ex, i, la, dt, R⟩ := ⟨_, rfl⟩
                            rw [← hAA] at hA
                            obtain ⟨aH, aL, ar, ae, ai, al, ad, aR⟩ := A
                            obtain ⟨okA, e1, e2, e3, ib1, ib2, -⟩ := hA
                            simp only at e1 e2 e3 ib1 ib2
                            have e1' := e1.symm
                            have e2' := e2.symm
                            have e3' := e3.symm
                            clear e1 e2 e3
                            subst e1' e2' e3'
                            have c1 := okA.exp0
                            have c2 := okA.exp1
                            have c3 := okA.dot0
                            have c4 := okA.dot1
                            simp only at c1 c2 c3 c4
                            have HAT : Hid (cA = true → ae = ex + (48 - i) ∧ al = i - 1 - 1 ∧ ai = i - 1 ∧ ad = 48 ∧ aR = setR R (i - 1) 46) := Lib.hid (by
                              intro h
                              rw [HCA.out] at h
                              rw [aft, if_pos h, dotS] at hAA
                              injection hAA with _ _ _ q1 q2 q3 q4 q5
                              exact ⟨q1, q3, q2, q4, q5⟩)
                            have HAF : Hid (cA = false → ae = ex ∧ al = la ∧ ai = i ∧ ad = dt ∧ aR = R) := Lib.hid (by
                              intro h
                              rw [HCA.out] at h
                              rw [aft, if_neg (by rw [h]; simp)] at hAA
                              injection hAA with _ _ _ q1 q2 q3 q4 q5
                              exact ⟨q1, q3, q2, q4, q5⟩)
                            have HAA := Lib.hid hAA.symm
                            clear hAA okA
                            go_upto_if 108 with (fail)
                            go_cut [6, 10, 11, 12] (fun e6 l10 i11 d12 w' => e6 = .int .i64 ae ∧ l10 = .int .i64 al ∧ i11 = .int .i64 ai ∧ d12 = .int .i64 ad ∧ MemR w w' aR)
                            case first =>
                              as_aux_lemma =>
                                cases cA
                                · go_wp2_with fail
                                  go_meet
                                  case rel =>
                                    obtain ⟨rfl, rfl, rfl, rfl, rfl⟩ := HAF.out (by trivial)
                                    exact ⟨rfl, rfl, rfl, rfl, HM.out⟩
                                · obtain ⟨i1, hi1⟩ : ∃ x, i - 1 = x := ⟨_, rfl⟩
                                  have hi1b : 2 ≤ i1 ∧ i1 ≤ 47 := by omega
                                  have hcell := HM.out.1 i1.toNat (by omega)
                                  have hfz := HM.out.2.1 i1.toNat
                                  have hszz := HM.out.2.2.1
                                  go_wp2_with fail
                                  go_meet
                                  case rel =>
                                    obtain ⟨a1, a2, a3, a4, a5⟩ := HAT.out (by trivial)
                                    rw [hi1] at a2 a3 a5
                                    subst a1 a2 a3 a4 a5
                                    exact ⟨rfl, rfl, rfl, rfl, HM.out.set _ 46 _ rfl⟩
                            case rest =>
                              as_aux_lemma =>
                                obtain ⟨rfl, rfl, rfl, rfl, hma⟩ := hcut
                                obtain ⟨wa, rfl⟩ : ∃ wa : World, wa = wc := ⟨_, rfl⟩
                                have hcell := hma.1 (ai - 1).toNat (by omega)
                                have hfz := hma.2.1 (ai - 1).toNat
                                have hszz := hma.2.2.1
                                obtain ⟨bi, hbi⟩ : ∃ x, ai - 1 = x := ⟨_, rfl⟩
                                obtain ⟨y, hy⟩ : ∃ x, r % 10 = x := ⟨_, rfl⟩
                                obtain ⟨rz, hrz⟩ : ∃ x, r / 10 = x := ⟨_, rfl⟩
                                have hyb : 0 ≤ y ∧ y ≤ 9 := by omega
                                have hrzb : 0 ≤ rz ∧ rz < 100000000 := by omega
                                have hbib : 2 ≤ bi ∧ bi ≤ 47 := by omega
                                have HBI := Lib.hid hbi.symm
                                have HY := Lib.hid hy.symm
                                have HRZ := Lib.hid hrz.symm
                                rw [hbi] at hcell hfz
                                have w8 : IntKind.u8.wrap y = y := IntWalk.u8_in _ (by omega)
                                have w9 : IntKind.u8.wrap (48 + y) = 48 + y := IntWalk.u8_in _ (by omega)
                                have HMB : Hid (∀ v, v = .int .u8 (48 + y) → MemR w (wa.setCell ⟨w.heap.size, bi.toNat, none⟩ v) (setR aR bi (48 + y))) := Lib.hid fun v hv => hma.set bi (48 + y) v hv
                                obtain ⟨bR, hbR⟩ : ∃ x, x = setR aR bi (48 + y) := ⟨_, rfl⟩
                                rw [← hbR] at HMB
                                obtain ⟨cB, hcB⟩ : ∃ c, c = condB ⟨H', L', rz, ae, bi, al, ad, bR⟩ := ⟨_, rfl⟩
                                obtain ⟨cl, hcl⟩ : ∃ c, c = if y = 0 then al else bi := ⟨_, rfl⟩
                                obtain ⟨cC, hcC⟩ : ∃ c, c = condC ⟨H', L', rz, ae, bi, cl, ad, bR⟩ := ⟨_, rfl⟩
                                obtain ⟨p1, p2, p3⟩ := round_step H' L' r ex i la dt R d j HV.out hd5 hj9 F T HIN.out HO.out ae ai al ad aR HAA.out rz y bi cl bR HRZ.out HY.out HBI.out (by rw [hbR, ← hbi]) hcl cB cC hcB hcC
                                have P1 := Lib.hid p1
                                have P2 := Lib.hid p2
                                have P3 := Lib.hid p3
                                have HCB2 : Hid (cB = (zL && zH && decide (rz = 0) && decide (bi = 47) && (decide (ad < bi - 5) || decide (0 < ae)))) := Lib.hid (by rw [hcB, condB]; simp only [HZ2.out.1, HZ2.out.2])
                                have HCL := Lib.hid hcl
                                have HCC2 : Hid (cC = (decide (bi < ad) && zL && zH && decide (rz = 0))) := Lib.hid (by rw [hcC, condC]; simp only [HZ2.out.1, HZ2.out.2])
                                clear hma hbR hcB hcl hcC p1 p2 p3 HAT HAF HAA HCA HCA2 HZ2 hzD
                                go_upto_region 42 with (fail)
                                go_cut [6, 7, 8, 10, 11, 12, 13, 16, 153] (fun e6 h7 l8 l10 i11 d12 r13 c16 v w' => e6 = .int .i64 ae ∧ h7 = .int .u64 H' ∧ l8 = .int .u64 L' ∧ l10 = .int .i64 al ∧ i11 = .int .i64 bi ∧ d12 = .int .i64 ad ∧ r13 = .int .u32 rz ∧ c16 = .int .u8 (48 + y) ∧ v = .bool cB ∧ MemR w w' bR)
                                case first =>
                                  as_aux_lemma =>
                                    go_wp2_with fail
                                    all_goals go_meet
                                    all_goals (refine ⟨?_, ?_, ?_, ?_, ?_, ?_, ?_, ?_, ?_, ?_⟩ <;> first | rfl | (exact HMB.out _ rfl) | (have h47 := HMB.out (.int .u8 (48 + y)) rfl; rw [show bi = 47 from by omega] at h47; exact h47) | (congr 1; omega) | (congr 1; rw [HCB2.out]; simp [*]; done) | (congr 1; rw [HCB2.out, Bool.eq_iff_iff]; simp [*]; omega) | fail)
                                case rest =>
                                  as_aux_lemma =>
                                    obtain ⟨rfl, rfl, rfl, rfl, rfl, rfl, rfl, rfl, rfl, hmb⟩ := hcut
                                    obtain ⟨wb, rfl⟩ : ∃ wb : World, wb = wc := ⟨_, rfl⟩
                                    have HB := Lib.hid hmb
                                    clear hmb hbi hy hrz hcell hfz HMB
                                    cases cB
                                    · go_upto_if 156 with (fail)
                                      go_cut [10] (fun l10 w' => l10 = .int .i64 cl ∧ wb = w')
                                      case first =>
                                        as_aux_lemma =>
                                          by_cases hy0 : y = 0
                                          · have f0 : (48 + y != 48) = false := by simp; omega
                                            have HY0 := Lib.hid hy0
                                            clear hy0
                                            go_wp2_with fail
                                            go_meet
                                            case rel => exact ⟨by rw [HCL.out, if_pos HY0.out], rfl⟩
                                          · have f0 : (48 + y != 48) = true := by simp; omega
                                            have HY0 := Lib.hid hy0
                                            clear hy0
                                            go_wp2_with fail
                                            go_meet
                                            case rel => exact ⟨by rw [HCL.out, if_neg HY0.out], rfl⟩
                                      case rest =>
                                        as_aux_lemma =>
                                          obtain ⟨rfl, rfl⟩ := hcut
                                          go_upto_region 46 with (fail)
                                          go_cut [6, 7, 8, 10, 11, 12, 13, 172] (fun e6 h7 l8 l10 i11 d12 r13 v w' => e6 = .int .i64 ae ∧ h7 = .int .u64 H' ∧ l8 = .int .u64 L' ∧ l10 = .int .i64 cl ∧ i11 = .int .i64 bi ∧ d12 = .int .i64 ad ∧ r13 = .int .u32 rz ∧ v = .bool cC ∧ wb = w')
                                          case first =>
                                            as_aux_lemma =>
                                              go_wp2_with fail
                                              all_goals go_meet
                                              all_goals (refine ⟨?_, ?_, ?_, ?_, ?_, ?_, ?_, ?_, rfl⟩ <;> first | rfl | (congr 1; omega) | (congr 1; rw [HCC2.out]; simp [*]; done) | (congr 1; rw [HCC2.out, show (rz == 0) = decide (rz = 0) from by rw [Bool.eq_iff_iff]; simp]; simp [*]; done) | (congr 1; rw [HCC2.out, Bool.eq_iff_iff]; simp [*]; omega) | fail)
                                          case rest =>
                                            as_aux_lemma =>
                                              obtain ⟨rfl, rfl, rfl, rfl, rfl, rfl, rfl, rfl, rfl⟩ := hcut
                                              cases cC
                                              · go_wp2_with fail
                                                go_roundw
                                                case rel =>
                                                  obtain ⟨q1, q2⟩ := P3.out (by trivial) (by trivial)
                                                  exact ⟨⟨H', L', rz, ae, bi, cl, ad, bR⟩, j + 1, by omega, rfl, rfl, rfl, rfl, rfl, by simp, rfl, rfl, q2, q1, HB.out⟩
                                                case measure => simp [intOf]; omega
                                              · go_wp2_with fail
                                                go_meet
                                                case rel =>
                                                  obtain ⟨q1, q2⟩ := P2.out (by trivial) (by trivial)
                                                  rw [q1] at q2 ⊢
                                                  exact ⟨rfl, rfl, q2, HB.out⟩
                                    · go_wp2_with fail
                                      go_meet
                                      case rel =>
                                        obtain ⟨q1, q2⟩ := P1.out (by trivial)
                                        rw [q1] at q2 ⊢
                                        exact ⟨rfl, rfl, q2, HB.out⟩
                      · obtain rfl : j = 9 := by omega
                        clear hmem hinv hinn
                        go_wp2_with fail
                        go_roundw
                        case rel =>
                          exact ⟨⟨H', L', r, ex, i, la, dt, R⟩, d + 1, by omega, rfl, rfl, rfl, rfl, rfl, rfl, rfl, by simp, (by have := HV.out; rwa [show 9 * d + 9 = 9 * (d + 1) from by omega] at this), done_inner _ d F T HIN.out HO.out, HM.out⟩
                        case measure => simp [intOf]; omega
                · obtain rfl : d = 5 := by omega
                  have HI := Lib.hid hinv
                  have HO := Lib.hid hout
                  have HM := Lib.hid hmem
                  clear hinv hout hmem
                  go_wp2_with fail
                  go_meet
                  case rel =>
                    have ho : (⟨sH, sL, sr, se, si, sl, sd, sR⟩ : DS) = T := HO.out
                    rw [← ho]
                    exact ⟨rfl, rfl, HI.out.ok, HM.out⟩
        case rest =>
          as_aux_lemma =>
            obtain ⟨te, hte⟩ : ∃ x, x = T.exp := ⟨_, rfl⟩
            obtain ⟨tl, htl⟩ : ∃ x, x = T.last := ⟨_, rfl⟩
            obtain ⟨tR, htR⟩ : ∃ x, x = T.R := ⟨_, rfl⟩
            obtain ⟨rfl, rfl, hok, hm⟩ := hcut
            obtain ⟨wa, rfl⟩ : ∃ wa : World, wa = wc := ⟨_, rfl⟩
            have g1 := hok.exp0
            have g2 := hok.exp1
            have g3 := hok.last0
            have g4 := hok.last1
            have g5 := hok.cell
            rw [← hte] at g1 g2 ⊢
            rw [← htl] at g3 g4 ⊢
            rw [← htR] at hm g5
            obtain ⟨tb, htb⟩ : ∃ x, tl - 1 = x := ⟨_, rfl⟩
            have htbb : 1 ≤ tb ∧ tb ≤ 47 := by omega
            have hcell := hm.1 tb.toNat (by omega)
            have hfz := hm.2.1 tb.toNat
            have hszz := hm.2.2.1
            have hsgb : 0 ≤ sg ∧ sg ≤ 1 := by have := HSG.out; rw [this]; unfold sgP; split <;> omega
            obtain ⟨q, hq⟩ : ∃ q, tb + sg = q := ⟨_, rfl⟩
            have hqb : 1 ≤ q ∧ q ≤ 48 := by omega
            have hwq : wrap64 q = q := by unfold wrap64; omega
            have hwt : wrap64 tb = tb := by unfold wrap64; omega
            have hm2 := hm.set tb 45 (.int .u8 45) rfl
            obtain ⟨AQ, e1, e2⟩ := slice48 w.heap.size q hqb.1 hqb.2 (setR tR tb 45) (setR_cell g5 (by omega))
            obtain ⟨m, hmq⟩ : ∃ m, m = 48 - q.toNat := ⟨_, rfl⟩
            obtain ⟨X, hX⟩ : ∃ X, X = txtB (setR tR tb 45) q.toNat := ⟨_, rfl⟩
            have hXs := txtB_size (setR tR tb 45) q.toNat
            rw [← hmq] at e1 e2
            rw [← hX] at e2 hXs
            obtain ⟨Y, hY⟩ : ∃ Y, Y = itB te := ⟨_, rfl⟩
            have hYs := itB_size te (by omega) (by omega)
            rw [← hY] at hYs
            have HC : Hid (∀ wx, Below (w.heap.size + 1) (wa.setCell ⟨w.heap.size, tb.toNat, none⟩ (.int .u8 45)) wx → (convert 38 9 (.slice AQ m m)).run Tryd.prog wx = .ok (.string X) wx) := Lib.hid fun wx hb => e2 wx (fun j hj => (hb.cell (p := ⟨w.heap.size, j, none⟩) (by show w.heap.size < w.heap.size + 1; omega)).trans (hm2.1 j hj))
            have HB2 := Lib.hid hm2.2.2.2
            have HI : Hid (∀ wx, Below w.heap.size w wx → Calls Tryd.prog 57 #[.int .i64 te] wx fun e w' => e = .returned (.string Y) ∧ Below wx.heap.size wx w') := Lib.hid fun wx hb => by rw [hY]; exact itoa te (by omega) (by omega) wx (tab_keep HT.out hb)
            have HFIN : Hid (finT sg T = if 0 < te then X ++ ⟨#[69, 43]⟩ ++ Y else if te < 0 then X ++ ⟨#[69]⟩ ++ Y else X) := Lib.hid (by rw [finT, ← hte, ← htl, ← htR, htb, hq, ← hX, ← hY])
            have z5 : (9223372036854775807 < X.size + 2 + Y.size) = False := by simp; omega
            have z6 : (9223372036854775807 < X.size + 1 + Y.size) = False := by simp; omega
            have z1 : (9223372036854775807 < X.size + 2) = False := by simp; omega
            have z2 : (9223372036854775807 < X.size + 1) = False := by simp; omega
            have z3 : (9223372036854775807 < (X ++ (⟨#[69, 43]⟩ : ByteArray)).size + Y.size) = False := by rw [ByteArray.size_append]; simp; have : (⟨#[69, 43]⟩ : ByteArray).size = 2 := rfl; omega
            have z4 : (9223372036854775807 < (X ++ (⟨#[69]⟩ : ByteArray)).size + Y.size) = False := by rw [ByteArray.size_append]; simp; have : (⟨#[69]⟩ : ByteArray).size = 1 := rfl; omega
            clear hok hm hm2 hte htl htR e2 hmq hX hY g5 hXs hYs
            rcases Int.lt_trichotomy te 0 with ht | ht | ht
            · have f1 : decide ((0 : Int) < te) = false := by simp; omega
              have f2 : decide (te < (0 : Int)) = true := by simp; omega
              have HF2 : Hid (finT sg T = X ++ ⟨#[69]⟩ ++ Y) := Lib.hid (by rw [HFIN.out, if_neg (by omega), if_pos ht])
              clear ht
              go_wp2_with fail
              refine start_ (n := 10) (S := fun w' => (convert 38 9 (.slice AQ m m)).run Tryd.prog w' = .ok (.string X) w') (ds := []) #[false, false, false, false, false, false, false, false, false, false] (by kernel_rfl) rfl rfl ((by exact HC.out _ (bdrew (Below.refl _ _)))) (fun hHeld => ?_)
              refine with_tabW R33.tab52 R33.bits52 (fun HT_ HW_ => ?_)
              refine pure_ (i := 0) (N := some 191) (v := ?_) (a' := ?_) #[true, false, false, false, false, false, false, false, false, false] rfl rfl (any_of HT_.out (by kernel_rfl)) (fun _ _ _ h => h) (Or.inl ⟨by rfl, ?_⟩) ?_ ?_
              rotate_left
              · intro w'
                go_simp
                with_reducible rfl
              rotate_left
              · simp only [Act.put, List.setIfInBounds_toArray, List.set_cons_zero, List.set_cons_succ, i64_w, i32_w]
                rfl
              refine pure_ (i := 1) (N := some 192) (v := ?_) (a' := ?_) #[true, true, false, false, false, false, false, false, false, false] rfl rfl (any_of HT_.out (by kernel_rfl)) (fun _ _ _ h => h) (Or.inl ⟨by rfl, ?_⟩) ?_ ?_
              rotate_left
              · intro w'
                go_simp
                with_reducible rfl
              rotate_left
              · simp only [Act.put, List.setIfInBounds_toArray, List.set_cons_zero, List.set_cons_succ, i64_w, i32_w]
                rfl
              refine pure_ (i := 2) (N := some 193) (v := ?_) (a' := ?_) #[true, true, true, false, false, false, false, false, false, false] rfl rfl (any_of HT_.out (by kernel_rfl)) (fun _ _ _ h => h) (Or.inl ⟨by rfl, ?_⟩) ?_ ?_
              rotate_left
              · intro w'
                go_simp
                with_reducible rfl
              rotate_left
              · simp only [Act.put, List.setIfInBounds_toArray, List.set_cons_zero, List.set_cons_succ, i64_w, i32_w]
                rfl
              refine pure_ (i := 3) (N := some 194) (v := ?_) (a' := ?_) #[true, true, true, true, false, false, false, false, false, false] rfl rfl (any_of HT_.out (by kernel_rfl)) (fun _ _ _ h => h) (Or.inl ⟨by rfl, ?_⟩) ?_ ?_
              rotate_left
              · intro w'
                go_simp
                with_reducible rfl
              rotate_left
              · simp only [Act.put, List.setIfInBounds_toArray, List.set_cons_zero, List.set_cons_succ, i64_w, i32_w]
                rfl
              refine pure_ (i := 6) (N := some 197) (v := ?_) (a' := ?_) #[true, true, true, true, false, false, true, false, false, false] rfl rfl (any_of HT_.out (by kernel_rfl)) (fun _ _ _ h => h) (Or.inl ⟨by rfl, ?_⟩) ?_ ?_
              rotate_left
              · intro w'
                go_simp
                with_reducible rfl
              rotate_left
              · simp only [Act.put, List.setIfInBounds_toArray, List.set_cons_zero, List.set_cons_succ, i64_w, i32_w]
                rfl
              refine take_ (i := 4) (N := some 195) (v := ?_) (a' := ?_) #[true, true, true, true, true, false, true, false, false, false] rfl rfl (take_ofW HT_.out HW_.out (by kernel_rfl)) (fun _ _ _ h => h) (Or.inl ⟨by rfl, ?_⟩) hHeld ?_ ?_
              rotate_left
              · intro w' s0
                go_simp
                with_reducible rfl
              rotate_left
              · simp only [Act.put, List.setIfInBounds_toArray, List.set_cons_zero, List.set_cons_succ, i64_w, i32_w]
                rfl
              refine pure_ (i := 5) (N := some 196) (v := ?_) (a' := ?_) #[true, true, true, true, true, true, true, false, false, false] rfl rfl (any_of HT_.out (by kernel_rfl)) (fun _ _ _ h => h) (Or.inl ⟨by rfl, ?_⟩) ?_ ?_
              rotate_left
              · intro w'
                go_simp
                with_reducible rfl
              rotate_left
              · simp only [Act.put, List.setIfInBounds_toArray, List.set_cons_zero, List.set_cons_succ, i64_w, i32_w]
                rfl
              refine one_ (i := 7) (N := some 198) #[true, true, true, true, true, true, true, true, false, false] rfl rfl (one_of HT_.out (by kernel_rfl)) (by decide) (fun K hK => ?_)
              refine goes_ Tryd.func57 (by kernel_rfl) rfl #[.int .i64 te] (by rfl) rfl rfl (by simp only [List.map_toArray, List.map_cons, List.map_nil]; rfl) ?_
              with_reducible refine (HI.out _ (bdrew HB2.out)).mono ?_
              rintro e w3 ⟨rfl, hb3⟩
              refine ⟨_, rfl, ?_⟩
              have HB3 := Lib.hid (bstep HB2.out (by simp; omega) (bdrew_left hb3))
              refine hK.out _ _ ((by exact HC.out _ ((bdrew (Below.refl _ _)).trans (hb3.mono (by simp; omega))))) (fun hHeld => ?_)
              clear hK K
              refine norm_ (a' := ?_) ?_ ?_
              rotate_left
              · show Act.put _ (some 198) _ = _
                simp only [Act.put, List.setIfInBounds_toArray, List.set_cons_zero, List.set_cons_succ, i64_w, i32_w]
                rfl
              refine pure_ (i := 8) (N := some 199) (v := ?_) (a' := ?_) #[true, true, true, true, true, true, true, true, true, false] rfl rfl (any_of HT_.out (by kernel_rfl)) (fun _ _ _ h => h) (Or.inl ⟨by rfl, ?_⟩) ?_ ?_
              rotate_left
              · intro w'
                go_simp
                with_reducible rfl
              rotate_left
              · simp only [Act.put, List.setIfInBounds_toArray, List.set_cons_zero, List.set_cons_succ, i64_w, i32_w]
                rfl
              refine pure_ (i := 9) (N := some 4) (v := ?_) (a' := ?_) #[true, true, true, true, true, true, true, true, true, true] rfl rfl (any_of HT_.out (by kernel_rfl)) (fun _ _ _ h => h) (Or.inl ⟨by rfl, ?_⟩) ?_ ?_
              rotate_left
              · intro w'
                go_simp
                with_reducible rfl
              rotate_left
              · simp only [Act.put, List.setIfInBounds_toArray, List.set_cons_zero, List.set_cons_succ, i64_w, i32_w]
                rfl
              refine done_ (done_of HT_.out (by kernel_rfl)) ?_
              go_wp2_with fail
              try rw [Exit.noGoto_ret]
              go_ret
              exact ⟨by first | (rw [HF2.out]; done) | (rw [HF2.out]; rfl), HB3.out⟩
            · have f1 : decide ((0 : Int) < te) = false := by simp; omega
              have f2 : decide (te < (0 : Int)) = false := by simp; omega
              have HF2 : Hid (finT sg T = X) := Lib.hid (by rw [HFIN.out, if_neg (by omega), if_neg (by omega)])
              have e3 := HC.out _ (Below.refl _ _)
              clear ht
              go_wp2_with fail
              try rw [Exit.noGoto_ret]
              go_ret
              exact ⟨by first | (rw [HF2.out]; done) | (rw [HF2.out]; rfl), HB2.out⟩
            · have f1 : decide ((0 : Int) < te) = true := by simp; omega
              have HF2 : Hid (finT sg T = X ++ ⟨#[69, 43]⟩ ++ Y) := Lib.hid (by rw [HFIN.out, if_pos ht])
              clear ht
              go_wp2_with fail
              refine start_ (n := 10) (S := fun w' => (convert 38 9 (.slice AQ m m)).run Tryd.prog w' = .ok (.string X) w') (ds := []) #[false, false, false, false, false, false, false, false, false, false] (by kernel_rfl) rfl rfl ((by exact HC.out _ (bdrew (Below.refl _ _)))) (fun hHeld => ?_)
              refine with_tabW R33.tab50 R33.bits50 (fun HT_ HW_ => ?_)
              refine pure_ (i := 0) (N := some 180) (v := ?_) (a' := ?_) #[true, false, false, false, false, false, false, false, false, false] rfl rfl (any_of HT_.out (by kernel_rfl)) (fun _ _ _ h => h) (Or.inl ⟨by rfl, ?_⟩) ?_ ?_
              rotate_left
              · intro w'
                go_simp
                with_reducible rfl
              rotate_left
              · simp only [Act.put, List.setIfInBounds_toArray, List.set_cons_zero, List.set_cons_succ, i64_w, i32_w]
                rfl
              refine pure_ (i := 1) (N := some 181) (v := ?_) (a' := ?_) #[true, true, false, false, false, false, false, false, false, false] rfl rfl (any_of HT_.out (by kernel_rfl)) (fun _ _ _ h => h) (Or.inl ⟨by rfl, ?_⟩) ?_ ?_
              rotate_left
              · intro w'
                go_simp
                with_reducible rfl
              rotate_left
              · simp only [Act.put, List.setIfInBounds_toArray, List.set_cons_zero, List.set_cons_succ, i64_w, i32_w]
                rfl
              refine pure_ (i := 2) (N := some 182) (v := ?_) (a' := ?_) #[true, true, true, false, false, false, false, false, false, false] rfl rfl (any_of HT_.out (by kernel_rfl)) (fun _ _ _ h => h) (Or.inl ⟨by rfl, ?_⟩) ?_ ?_
              rotate_left
              · intro w'
                go_simp
                with_reducible rfl
              rotate_left
              · simp only [Act.put, List.setIfInBounds_toArray, List.set_cons_zero, List.set_cons_succ, i64_w, i32_w]
                rfl
              refine pure_ (i := 3) (N := some 183) (v := ?_) (a' := ?_) #[true, true, true, true, false, false, false, false, false, false] rfl rfl (any_of HT_.out (by kernel_rfl)) (fun _ _ _ h => h) (Or.inl ⟨by rfl, ?_⟩) ?_ ?_
              rotate_left
              · intro w'
                go_simp
                with_reducible rfl
              rotate_left
              · simp only [Act.put, List.setIfInBounds_toArray, List.set_cons_zero, List.set_cons_succ, i64_w, i32_w]
                rfl
              refine pure_ (i := 6) (N := some 186) (v := ?_) (a' := ?_) #[true, true, true, true, false, false, true, false, false, false] rfl rfl (any_of HT_.out (by kernel_rfl)) (fun _ _ _ h => h) (Or.inl ⟨by rfl, ?_⟩) ?_ ?_
              rotate_left
              · intro w'
                go_simp
                with_reducible rfl
              rotate_left
              · simp only [Act.put, List.setIfInBounds_toArray, List.set_cons_zero, List.set_cons_succ, i64_w, i32_w]
                rfl
              refine take_ (i := 4) (N := some 184) (v := ?_) (a' := ?_) #[true, true, true, true, true, false, true, false, false, false] rfl rfl (take_ofW HT_.out HW_.out (by kernel_rfl)) (fun _ _ _ h => h) (Or.inl ⟨by rfl, ?_⟩) hHeld ?_ ?_
              rotate_left
              · intro w' s0
                go_simp
                with_reducible rfl
              rotate_left
              · simp only [Act.put, List.setIfInBounds_toArray, List.set_cons_zero, List.set_cons_succ, i64_w, i32_w]
                rfl
              refine pure_ (i := 5) (N := some 185) (v := ?_) (a' := ?_) #[true, true, true, true, true, true, true, false, false, false] rfl rfl (any_of HT_.out (by kernel_rfl)) (fun _ _ _ h => h) (Or.inl ⟨by rfl, ?_⟩) ?_ ?_
              rotate_left
              · intro w'
                go_simp
                with_reducible rfl
              rotate_left
              · simp only [Act.put, List.setIfInBounds_toArray, List.set_cons_zero, List.set_cons_succ, i64_w, i32_w]
                rfl
              refine one_ (i := 7) (N := some 187) #[true, true, true, true, true, true, true, true, false, false] rfl rfl (one_of HT_.out (by kernel_rfl)) (by decide) (fun K hK => ?_)
              refine goes_ Tryd.func57 (by kernel_rfl) rfl #[.int .i64 te] (by rfl) rfl rfl (by simp only [List.map_toArray, List.map_cons, List.map_nil]; rfl) ?_
              with_reducible refine (HI.out _ (bdrew HB2.out)).mono ?_
              rintro e w3 ⟨rfl, hb3⟩
              refine ⟨_, rfl, ?_⟩
              have HB3 := Lib.hid (bstep HB2.out (by simp; omega) (bdrew_left hb3))
              refine hK.out _ _ ((by exact HC.out _ ((bdrew (Below.refl _ _)).trans (hb3.mono (by simp; omega))))) (fun hHeld => ?_)
              clear hK K
              refine norm_ (a' := ?_) ?_ ?_
              rotate_left
              · show Act.put _ (some 187) _ = _
                simp only [Act.put, List.setIfInBounds_toArray, List.set_cons_zero, List.set_cons_succ, i64_w, i32_w]
                rfl
              refine pure_ (i := 8) (N := some 188) (v := ?_) (a' := ?_) #[true, true, true, true, true, true, true, true, true, false] rfl rfl (any_of HT_.out (by kernel_rfl)) (fun _ _ _ h => h) (Or.inl ⟨by rfl, ?_⟩) ?_ ?_
              rotate_left
              · intro w'
                go_simp
                with_reducible rfl
              rotate_left
              · simp only [Act.put, List.setIfInBounds_toArray, List.set_cons_zero, List.set_cons_succ, i64_w, i32_w]
                rfl
              refine pure_ (i := 9) (N := some 4) (v := ?_) (a' := ?_) #[true, true, true, true, true, true, true, true, true, true] rfl rfl (any_of HT_.out (by kernel_rfl)) (fun _ _ _ h => h) (Or.inl ⟨by rfl, ?_⟩) ?_ ?_
              rotate_left
              · intro w'
                go_simp
                with_reducible rfl
              rotate_left
              · simp only [Act.put, List.setIfInBounds_toArray, List.set_cons_zero, List.set_cons_succ, i64_w, i32_w]
                rfl
              refine done_ (done_of HT_.out (by kernel_rfl)) ?_
              go_wp2_with fail
              try rw [Exit.noGoto_ret]
              go_ret
              exact ⟨by first | (rw [HF2.out]; done) | (rw [HF2.out]; rfl), HB3.out⟩
end Go.Proofs.YtjjfdamlicoeeaaDoor.X
