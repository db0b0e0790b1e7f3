import Derived.Test.Qxb6003432aFindL
namespace Go.Proofs.Qxb6003432a.Stored
open Go.ChangeShapes Go.WideShapes Go.ChangeAt Go.RowKit
open Go.Proofs.Qxb6003432a.FindA
open Go.Proofs.Qxb6003432a.FindB
open Go.Proofs.Qxb6003432a.FindC
open Go.Proofs.Qxb6003432a.FindD
open Go.Proofs.Qxb6003432a.FindE
open Go.Proofs.Qxb6003432a.FindG
open Go.Proofs.Qxb6003432a.FindL
set_option linter.unusedVariables false

set_option maxHeartbeats 2000000 in
theorem walk (a1 a2 a3 a4 : Option Addr) (n1 c1 n2 c2 n3 c3 n4 c4 : Nat) (F M : List ByteArray) (fa ma : List Int) (hF : F.length = n1) (hfa : fa.length = n2) (hM : M.length = n3) (hma : ma.length = n4)
    (m1 : n1 ≤ maxLen) (m3 : n3 ≤ maxLen) (z1 : a1 = none → n1 = 0 ∧ c1 = 0) (z2 : a2 = none → n2 = 0 ∧ c2 = 0) (z3 : a3 = none → n3 = 0 ∧ c3 = 0) (z4 : a4 = none → n4 = 0 ∧ c4 = 0)
    (hFl : ∀ s ∈ F, s.size ≤ maxLen) (hMl : ∀ s ∈ M, s.size ≤ maxLen) (hwf : ∀ z ∈ ma, (Lit.int .i64 z).wf = true) (w : World) (r1 : StrRow w a1 F) (r2 : IntRow w a2 fa) (r3 : StrRow w a3 M) (r4 : IntRow w a4 ma) :
    Calls Try.prog 9 #[.slice a1 n1 c1, .slice a2 n2 c2, .slice a3 n3 c3, .slice a4 n4 c4] w fun e w' => e = .returned (.bool true) ∧ Below w.heap.size w w' := by
  have C25 := hide (bytes25_any a1 a2 a3 a4 n1 c1 n2 c2 n3 c3 n4 c4 F M hF m1 hM m3 w r1 r3)
  have C26 := hide (findTooBig_any a1 a2 a3 a4 n1 c1 n2 c2 n3 c3 n4 c4 F M hF m1 hM m3 ⟨#[]⟩ w r1 r3)
  have HF := hide hF
  have Hfa := hide hfa
  have HM := hide hM
  have Hma := hide hma
  have R1 := hide r1
  have R2 := hide r2
  have R3 := hide r3
  have R4 := hide r4
  have Z1 := hide z1
  have Z2 := hide z2
  have Z3 := hide z3
  have Z4 := hide z4
  have HFL := hide hFl
  have HML := hide hMl
  have HWF := hide hwf
  clear hF hfa hM hma r1 r2 r3 r4 z1 z2 z3 z4 hFl hMl hwf
  go_enter Try.func9, Try.ntmps9
  go_wp2_with fail
  refine C25.out.mono ?_
  rintro e w1 ⟨b, rfl, rfl⟩
  cases b
  · go_wp2
    go_ret
    exact ⟨rfl, Below.refl _ _⟩
  go_wp2_with fail
  refine C26.out.mono ?_
  rintro e w2 ⟨b, rfl, rfl⟩
  cases b
  case true =>
    go_wp2
    go_ret
    exact ⟨rfl, Below.refl _ _⟩
  by_cases g1 : (16 : Int) < (n1 : Int)
  · go_wp2
    go_ret
    exact ⟨rfl, Below.refl _ _⟩
  have dg1 : decide ((16 : Int) < (n1 : Int)) = false := decide_eq_false g1
  by_cases g2 : n1 = n2
  case neg =>
    have e2 : ((n1 : Int) != (n2 : Int)) = true := by rw [bne_iff_ne]; omega
    go_wp2
    go_ret
    exact ⟨rfl, Below.refl _ _⟩
  subst g2
  by_cases g3 : (65536 : Int) < (n3 : Int)
  · go_wp2
    go_ret
    exact ⟨rfl, Below.refl _ _⟩
  have dg3 : decide ((65536 : Int) < (n3 : Int)) = false := decide_eq_false g3
  by_cases g4 : n3 = n4
  case neg =>
    have e2 : ((n3 : Int) != (n4 : Int)) = true := by rw [bne_iff_ne]; omega
    go_wp2
    go_ret
    exact ⟨rfl, Below.refl _ _⟩
  subst g4
  have CD := hide (distinctAll_any a1 a3 n1 c1 n3 c3 F M HF.out (by omega) HM.out (by omega) w2 R1.out R3.out)
  clear m1 m3 C25 C26
  go_wp2_with fail
  refine CD.out.mono ?_
  rintro e w3 ⟨b, rfl, hdist, rfl⟩
  have HD0 := hide hdist
  clear hdist CD
  cases b
  · go_wp2
    go_ret
    exact ⟨rfl, Below.refl _ _⟩
  have HD := hide (HD0.out rfl)
  clear HD0
  go_wp2_with fail
  refine (cloneS a1 n1 c1 F HF.out (by omega) _ R1.out Z1.out).mono ?_
  rintro e w4 ⟨p1, q1, rfl, s1, hb1⟩
  have S1 := hide s1
  have B1 := hide hb1
  have T2 := hide (intB R2.out hb1 (Nat.le_refl _))
  have T3 := hide (strB R3.out hb1 (Nat.le_refl _))
  have T4 := hide (intB R4.out hb1 (Nat.le_refl _))
  clear s1 hb1
  go_wp2_with fail
  refine (cloneI a2 n1 c2 fa Hfa.out (by omega) _ T2.out Z2.out).mono ?_
  rintro e w5 ⟨p2, q2, rfl, s2, hb2⟩
  have S1' := hide (strB S1.out hb2 (Nat.le_refl _))
  have S2 := hide s2
  have B2 := hide (B1.out.trans (hb2.mono B1.out.size))
  have T3' := hide (strB T3.out hb2 (Nat.le_refl _))
  have T4' := hide (intB T4.out hb2 (Nat.le_refl _))
  clear s2 hb2 S1 B1 T2 T3 T4
  go_wp2_with fail
  refine (cloneS a3 n3 c3 M HM.out (by omega) _ T3'.out Z3.out).mono ?_
  rintro e w6 ⟨p3, q3, rfl, s3, hb3⟩
  have S1 := hide (strB S1'.out hb3 (Nat.le_refl _))
  have S2' := hide (intB S2.out hb3 (Nat.le_refl _))
  have S3 := hide s3
  have B3 := hide (B2.out.trans (hb3.mono B2.out.size))
  have T4 := hide (intB T4'.out hb3 (Nat.le_refl _))
  clear s3 hb3 S1' B2 T3' T4' S2
  go_wp2_with fail
  refine (cloneI a4 n3 c4 ma Hma.out (by omega) _ T4.out Z4.out).mono ?_
  rintro e w7 ⟨p4, q4, rfl, s4, hb4⟩
  have U1 := hide (strB S1.out hb4 (Nat.le_refl _))
  have U2 := hide (intB S2'.out hb4 (Nat.le_refl _))
  have U3 := hide (strB S3.out hb4 (Nat.le_refl _))
  have U4 := hide s4
  have B4 := hide (B3.out.trans (hb4.mono B3.out.size))
  clear s4 hb4 S1 S2' S3 B3 T4
  go_wp2_with fail
  go_loopw [9, 10, 11] (fun i _ _ wr => ∃ k : Nat, k ≤ n1 ∧ i = .int .i64 k ∧ Hid (Below w7.heap.size w7 wr)) (fun i _ _ _ => n1 - (intOf i).toNat)
  case atStart => exact ⟨0, Nat.zero_le _, rfl, Below.refl _ _⟩
  case round =>
    obtain ⟨k, hk, rfl, hB⟩ := hrel
    by_cases hlt : k < n1
    · have hkF : k < F.length := by rw [HF.out]; exact hlt
      have hka : k < fa.length := by rw [Hfa.out]; exact hlt
      have hfind := zzfind_any p1 p2 p3 p4 n1 q1 q2 n3 q3 q4 F M fa ma HF.out Hfa.out (by omega) HM.out Hma.out (by omega) F[k] (HFL.out _ (List.getElem_mem hkF)) HML.out HWF.out wr
        (strB U1.out hB.out (Nat.le_refl _)) (intB U2.out hB.out (Nat.le_refl _)) (strB U3.out hB.out (Nat.le_refl _)) (intB U4.out hB.out (Nat.le_refl _)) (fun h => by rw [← HM.out]; exact strSome U3.out h)
      rw [fv_few (ma := ma) HD.out (by rw [HF.out, Hfa.out]) k hkF] at hfind
      obtain ⟨b1, o1, rfl, d1⟩ := (strB U1.out hB.out (Nat.le_refl _)) k hkF
      obtain ⟨b2, o2, rfl, d2⟩ := (intB U2.out hB.out (Nat.le_refl _)) k hka
      generalize F[k] = y at *
      generalize fa[k] = z at *
      have HFI := hide hfind
      clear hfind
      go_wp2_with fail
      refine HFI.out.mono ?_
      rintro e w8 ⟨rfl, hb8⟩
      have d3 : w8.cell? ⟨b2, o2 + k, none⟩ = some (.int .i64 z) := cellB hb8 (cell_lt d2) d2
      have HB8 := hide (hB.out.trans (hb8.mono hB.out.size))
      clear hb8 d1 d2
      go_wp2
      go_roundw
      case rel => exact ⟨k + 1, by omega, by go_num, HB8⟩
      case measure => simp [intOf]; omega
    · have hk1 : decide (k < n1) = false := decide_eq_false hlt
      clear hk
      have B5 := hide (B4.out.trans (hB.out.mono B4.out.size))
      have V1 := hide (strB U1.out hB.out (Nat.le_refl _))
      have V2 := hide (intB U2.out hB.out (Nat.le_refl _))
      have V3 := hide (strB U3.out hB.out (Nat.le_refl _))
      have V4 := hide (intB U4.out hB.out (Nat.le_refl _))
      clear hB B4 U1 U2 U3 U4
      obtain ⟨wv, hwv⟩ : ∃ wv, wv = wr := ⟨_, rfl⟩
      go_wp2_with fail
      subst hwv

      go_loopw [12, 13, 14] (fun i _ _ wq => ∃ j : Nat, j ≤ n3 ∧ i = .int .i64 j ∧ Hid (Below wv.heap.size wv wq)) (fun i _ _ _ => n3 - (intOf i).toNat)
      case atStart => exact ⟨0, Nat.zero_le _, rfl, Below.refl _ _⟩
      case round =>
        obtain ⟨j, hj, rfl, hB⟩ := hrel
        by_cases hlj : j < n3
        · have hkF : j < M.length := by rw [HM.out]; exact hlj
          have hka : j < ma.length := by rw [Hma.out]; exact hlj
          have hfind := zzfind_any p1 p2 p3 p4 n1 q1 q2 n3 q3 q4 F M fa ma HF.out Hfa.out (by omega) HM.out Hma.out (by omega) M[j] (HML.out _ (List.getElem_mem hkF)) HML.out HWF.out wr
            (strB V1.out hB.out (Nat.le_refl _)) (intB V2.out hB.out (Nat.le_refl _)) (strB V3.out hB.out (Nat.le_refl _)) (intB V4.out hB.out (Nat.le_refl _)) (fun h => by rw [← HM.out]; exact strSome V3.out h)
          rw [fv_many (fa := fa) HD.out (by rw [HM.out, Hma.out]) j hkF] at hfind
          obtain ⟨b1, o1, rfl, d1⟩ := (strB V3.out hB.out (Nat.le_refl _)) j hkF
          obtain ⟨b2, o2, rfl, d2⟩ := (intB V4.out hB.out (Nat.le_refl _)) j hka
          generalize M[j] = y at *
          generalize ma[j] = z at *
          have HFI := hide hfind
          clear hfind
          go_wp2_with fail
          refine HFI.out.mono ?_
          rintro e w8 ⟨rfl, hb8⟩
          have d3 : w8.cell? ⟨b2, o2 + j, none⟩ = some (.int .i64 z) := cellB hb8 (cell_lt d2) d2
          have HB8 := hide (hB.out.trans (hb8.mono hB.out.size))
          clear hb8 d1 d2
          go_wp2
          go_roundw
          case rel => exact ⟨j + 1, by omega, by go_num, HB8⟩
          case measure => simp [intOf]; omega
        · have B6 := hide (B5.out.trans (hB.out.mono B5.out.size))
          clear hB
          go_wp2
          go_ret
          exact ⟨rfl, B6⟩
end Go.Proofs.Qxb6003432a.Stored
