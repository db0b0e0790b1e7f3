import Derived.Test.Qxb6003432aFindL
namespace Go.Proofs.Qxb6003432a.Assoc
open Go.ChangeShapes Go.WideShapes Go.ChangeAt Go.RowKit
open Go.Proofs.Qxb6003432a.FindA
open Go.Proofs.Qxb6003432a.FindB
open Go.Proofs.Qxb6003432a.FindC
open Go.Proofs.Qxb6003432a.FindD
open Go.Proofs.Qxb6003432a.FindE
open Go.Proofs.Qxb6003432a.FindG
open Go.Proofs.Qxb6003432a.FindL
set_option linter.unusedVariables false

theorem lastAt_none {M : List ByteArray} {ma : List Int} {x : ByteArray} : ∀ n, (∀ k, k < n → M[k]? ≠ some x) → lastAt M ma n x = none
  | 0, _ => rfl
  | n + 1, h => by
    simp only [lastAt, if_neg (h n (by omega))]
    exact lastAt_none n (fun k hk => h k (by omega))

/-- find is a look-up in the one plain list of pairs. -/
theorem fv_assoc {F M : List ByteArray} {fa ma : List Int} (h : Dist (F ++ M) (F ++ M).length) (hfa : fa.length = F.length) (hma : ma.length = M.length) (x : ByteArray) :
    fv F fa M ma x = ((lastAt (F ++ M) (fa ++ ma) (F ++ M).length x).getD 0, (lastAt (F ++ M) (fa ++ ma) (F ++ M).length x).isSome) := by
  have hd : ∀ i j (hi : i < (F ++ M).length) (hj : j < (F ++ M).length), i < j → (F ++ M)[i] ≠ (F ++ M)[j] := by
    intro i j hi hj hij e
    exact h i j hi hij hj (by rw [List.getElem?_eq_getElem hi, List.getElem?_eq_getElem hj, e])
  have hl : (fa ++ ma).length = (F ++ M).length := by simp [hfa, hma]
  by_cases hF : ∃ k, ∃ hk : k < F.length, F[k] = x
  · obtain ⟨k, hk, rfl⟩ := hF
    have e1 := lastAt_hit hd hl k (by simp; omega) (F ++ M).length (by simp; omega) (Nat.le_refl _)
    rw [List.getElem_append_left hk, List.getElem_append_left (by omega)] at e1
    rw [fv_few h hfa k hk, e1]; rfl
  · by_cases hM : ∃ k, ∃ hk : k < M.length, M[k] = x
    · obtain ⟨k, hk, rfl⟩ := hM
      have e1 := lastAt_hit hd hl (F.length + k) (by simp; omega) (F ++ M).length (by simp; omega) (Nat.le_refl _)
      rw [List.getElem_append_right (by omega), List.getElem_append_right (by omega)] at e1
      simp only [Nat.add_sub_cancel_left, hfa] at e1
      rw [fv_many h hma k hk, e1]; rfl
    · have n1 : ∀ k, k < (F ++ M).length → (F ++ M)[k]? ≠ some x := by
        intro k hk e
        rw [List.getElem?_append] at e
        split at e
        · rename_i hlt
          rw [List.getElem?_eq_getElem hlt] at e
          exact hF ⟨k, hlt, Option.some.inj e⟩
        · obtain ⟨h1, h2⟩ := List.getElem?_eq_some_iff.1 e
          exact hM ⟨_, h1, h2⟩
      rw [lastAt_none _ n1, fv, out, firstAt_none x F fa (fun j hj e => hF ⟨j, hj, e⟩), lastAt_none M.length (fun k hk e => by
        obtain ⟨h1, h2⟩ := List.getElem?_eq_some_iff.1 e
        exact hM ⟨_, h1, h2⟩)]

set_option maxHeartbeats 2000000 in
theorem walk (a1 a2 a3 a4 : Option Addr) (n1 c1 n2 c2 n3 c3 n4 c4 : Nat) (F M : List ByteArray) (fa ma : List Int) (hF : F.length = n1) (hfa : fa.length = n2) (hM : M.length = n3) (hma : ma.length = n4)
    (m1 : n1 ≤ maxLen) (m3 : n3 ≤ maxLen) (z1 : a1 = none → n1 = 0 ∧ c1 = 0) (z2 : a2 = none → n2 = 0 ∧ c2 = 0) (z3 : a3 = none → n3 = 0 ∧ c3 = 0) (z4 : a4 = none → n4 = 0 ∧ c4 = 0)
    (hFl : ∀ s ∈ F, s.size ≤ maxLen) (hMl : ∀ s ∈ M, s.size ≤ maxLen) (hwf : ∀ z ∈ ma, (Lit.int .i64 z).wf = true) (x : ByteArray) (hx : x.size ≤ maxLen) (w : World) (r1 : StrRow w a1 F) (r2 : IntRow w a2 fa) (r3 : StrRow w a3 M) (r4 : IntRow w a4 ma) :
    Calls Try.prog 10 #[.slice a1 n1 c1, .slice a2 n2 c2, .slice a3 n3 c3, .slice a4 n4 c4, .string x] w fun e w' => e = .returned (.bool true) ∧ Below w.heap.size w w' := by
  have C25 := hide (bytes31_any a1 a2 a3 a4 n1 c1 n2 c2 n3 c3 n4 c4 F M hF m1 hM m3 x w r1 r3)
  have C26 := hide (findTooBig_any a1 a2 a3 a4 n1 c1 n2 c2 n3 c3 n4 c4 F M hF m1 hM m3 x w r1 r3)
  have HX := hide hx
  have HF := hide hF
  have Hfa := hide hfa
  have HM := hide hM
  have Hma := hide hma
  have R1 := hide r1
  have R2 := hide r2
  have R3 := hide r3
  have R4 := hide r4
  have Z1 := hide z1
  have Z2 := hide z2
  have Z3 := hide z3
  have Z4 := hide z4
  have HFL := hide hFl
  have HML := hide hMl
  have HWF := hide hwf
  clear hx hF hfa hM hma r1 r2 r3 r4 z1 z2 z3 z4 hFl hMl hwf
  go_enter Try.func10, Try.ntmps10
  go_wp2_with fail
  refine C25.out.mono ?_
  rintro e w1 ⟨b, rfl, rfl⟩
  cases b
  · go_wp2
    go_ret
    exact ⟨rfl, Below.refl _ _⟩
  go_wp2_with fail
  refine C26.out.mono ?_
  rintro e w2 ⟨b, rfl, rfl⟩
  cases b
  case true =>
    go_wp2
    go_ret
    exact ⟨rfl, Below.refl _ _⟩
  by_cases g1 : (16 : Int) < (n1 : Int)
  · go_wp2
    go_ret
    exact ⟨rfl, Below.refl _ _⟩
  have dg1 : decide ((16 : Int) < (n1 : Int)) = false := decide_eq_false g1
  by_cases g2 : n1 = n2
  case neg =>
    have e2 : ((n1 : Int) != (n2 : Int)) = true := by rw [bne_iff_ne]; omega
    go_wp2
    go_ret
    exact ⟨rfl, Below.refl _ _⟩
  subst g2
  by_cases g3 : (65536 : Int) < (n3 : Int)
  · go_wp2
    go_ret
    exact ⟨rfl, Below.refl _ _⟩
  have dg3 : decide ((65536 : Int) < (n3 : Int)) = false := decide_eq_false g3
  by_cases g4 : n3 = n4
  case neg =>
    have e2 : ((n3 : Int) != (n4 : Int)) = true := by rw [bne_iff_ne]; omega
    go_wp2
    go_ret
    exact ⟨rfl, Below.refl _ _⟩
  subst g4
  have CD := hide (distinctAll_any a1 a3 n1 c1 n3 c3 F M HF.out (by omega) HM.out (by omega) w2 R1.out R3.out)
  clear m1 m3 C25 C26
  go_wp2_with fail
  refine CD.out.mono ?_
  rintro e w3 ⟨b, rfl, hdist, rfl⟩
  have HD0 := hide hdist
  clear hdist CD
  cases b
  · go_wp2
    go_ret
    exact ⟨rfl, Below.refl _ _⟩
  have HD := hide (HD0.out rfl)
  clear HD0
  go_wp2_with fail
  refine (cloneS a1 n1 c1 F HF.out (by omega) _ R1.out Z1.out).mono ?_
  rintro e w4 ⟨p1, q1, rfl, s1, hb1⟩
  have S1 := hide s1
  have B1 := hide hb1
  have T2 := hide (intB R2.out hb1 (Nat.le_refl _))
  have T3 := hide (strB R3.out hb1 (Nat.le_refl _))
  have T4 := hide (intB R4.out hb1 (Nat.le_refl _))
  clear s1 hb1
  go_wp2_with fail
  refine (cloneI a2 n1 c2 fa Hfa.out (by omega) _ T2.out Z2.out).mono ?_
  rintro e w5 ⟨p2, q2, rfl, s2, hb2⟩
  have S1' := hide (strB S1.out hb2 (Nat.le_refl _))
  have S2 := hide s2
  have B2 := hide (B1.out.trans (hb2.mono B1.out.size))
  have T3' := hide (strB T3.out hb2 (Nat.le_refl _))
  have T4' := hide (intB T4.out hb2 (Nat.le_refl _))
  clear s2 hb2 S1 B1 T2 T3 T4
  go_wp2_with fail
  refine (cloneS a3 n3 c3 M HM.out (by omega) _ T3'.out Z3.out).mono ?_
  rintro e w6 ⟨p3, q3, rfl, s3, hb3⟩
  have S1 := hide (strB S1'.out hb3 (Nat.le_refl _))
  have S2' := hide (intB S2.out hb3 (Nat.le_refl _))
  have S3 := hide s3
  have B3 := hide (B2.out.trans (hb3.mono B2.out.size))
  have T4 := hide (intB T4'.out hb3 (Nat.le_refl _))
  clear s3 hb3 S1' B2 T3' T4' S2
  go_wp2_with fail
  refine (cloneI a4 n3 c4 ma Hma.out (by omega) _ T4.out Z4.out).mono ?_
  rintro e w7 ⟨p4, q4, rfl, s4, hb4⟩
  have U1 := hide (strB S1.out hb4 (Nat.le_refl _))
  have U2 := hide (intB S2'.out hb4 (Nat.le_refl _))
  have U3 := hide (strB S3.out hb4 (Nat.le_refl _))
  have U4 := hide s4
  have B4 := hide (B3.out.trans (hb4.mono B3.out.size))
  clear s4 hb4 S1 S2' S3 B3 T4
  have hfind := zzfind_any p1 p2 p3 p4 n1 q1 q2 n3 q3 q4 F M fa ma HF.out Hfa.out (by omega) HM.out Hma.out (by omega) x HX.out HML.out HWF.out w7 U1.out U2.out U3.out U4.out (fun h => by rw [← HM.out]; exact strSome U3.out h)
  rw [fv_assoc HD.out (by rw [HF.out, Hfa.out]) (by rw [HM.out, Hma.out]) x] at hfind
  have HFI := hide hfind
  have PS := hide (fun (i : Nat) (y : ByteArray) (hy : (F ++ M)[i]? = some y) => pick_any p1 p3 n1 q1 n3 q3 F M HF.out (by unfold maxLen; omega) HM.out (by unfold maxLen; omega) i y hy w7 U1.out U3.out)
  have PI := hide (fun (i : Nat) (y : Int) (hy : (fa ++ ma)[i]? = some y) => pickInt_any p2 p4 n1 q2 n3 q4 fa ma Hfa.out (by unfold maxLen; omega) Hma.out (by unfold maxLen; omega) i y hy w7 U2.out U4.out)
  have hl : Hid ((F ++ M).length = n1 + n3) := by show _ = _; rw [List.length_append, HF.out, HM.out]
  have hl' : Hid ((fa ++ ma).length = n1 + n3) := by show _ = _; rw [List.length_append, Hfa.out, Hma.out]
  clear hfind HD
  generalize F ++ M = L at *
  generalize fa ++ ma = Z at *
  go_wp2_with fail
  go_loop [11, 12, 13] (fun t o i => ∃ k : Nat, k ≤ n1 + n3 ∧ i = .int .i64 k ∧ t = .int .i64 ((lastAt L Z k x).getD 0) ∧ o = .bool (lastAt L Z k x).isSome) (fun _ _ i => n1 + n3 - (intOf i).toNat)
  case atStart => exact ⟨0, Nat.zero_le _, rfl, rfl, rfl⟩
  case round =>
    obtain ⟨k, hk, rfl, rfl, rfl⟩ := hrel
    by_cases hlt : k < n1 + n3
    · obtain ⟨y, hy⟩ : ∃ y, L[k]? = some y := ⟨_, List.getElem?_eq_getElem (by have := hl.out; omega)⟩
      obtain ⟨z, hz⟩ : ∃ z, Z[k]? = some z := ⟨_, List.getElem?_eq_getElem (by have := hl'.out; omega)⟩
      have P1 := hide (PS.out k y hy)
      have P2 := hide (PI.out k z hz)
      by_cases hxy : y = x
      · have e1 := str_eq hxy
        have HS : Hid (lastAt L Z (k + 1) x = some z) := by
          show _ = _
          simp only [lastAt, hy, hxy, if_true]
          rw [List.getD_eq_getElem?_getD, hz]; rfl
        clear hy hz hxy
        generalize lastAt L Z k x = lw at *
        go_wp2_with fail
        refine P1.out.mono ?_
        rintro e w8 ⟨rfl, rfl⟩
        go_wp2_with fail
        refine P2.out.mono ?_
        rintro e w8 ⟨rfl, rfl⟩
        go_wp2
        go_round
        case rel => exact ⟨k + 1, by omega, by go_num, by rw [HS.out]; rfl, by rw [HS.out]; rfl⟩
        case measure => simp [intOf]; omega
      · have e1 := str_ne hxy
        have HS : Hid (lastAt L Z (k + 1) x = lastAt L Z k x) := by
          show _ = _
          simp only [lastAt, hy, Option.some.injEq, hxy, if_false]
        clear hy hz hxy
        generalize hlw : lastAt L Z k x = lw at *
        have HLW := hide hlw
        clear hlw
        go_wp2_with fail
        refine P1.out.mono ?_
        rintro e w8 ⟨rfl, rfl⟩
        go_wp2
        go_round
        case rel => exact ⟨k + 1, by omega, by go_num, by rw [HS.out], by rw [HS.out]⟩
        case measure => simp [intOf]; omega
    · have hke : k = n1 + n3 := by omega
      subst hke
      have HFI2 : Hid (Calls Try.prog 30 #[.slice p1 n1 q1, .slice p2 n1 q2, .slice p3 n3 q3, .slice p4 n3 q4, .string x] w7 fun e w' => FindPost ((lastAt L Z (n1 + n3) x).getD 0, (lastAt L Z (n1 + n3) x).isSome) w7 e w') := by
        have h := HFI.out
        rw [hl.out] at h
        exact h
      clear HFI
      generalize lastAt L Z (n1 + n3) x = lw at *
      generalize lw.getD 0 = va at *
      generalize lw.isSome = vb at *
      go_wp2_with fail
      refine HFI2.out.mono ?_
      rintro e w8 ⟨rfl, hb8⟩
      have HB8 := hide (B4.out.trans (hb8.mono B4.out.size))
      clear hb8
      go_wp2
      go_ret
      exact ⟨rfl, HB8⟩
end Go.Proofs.Qxb6003432a.Assoc
