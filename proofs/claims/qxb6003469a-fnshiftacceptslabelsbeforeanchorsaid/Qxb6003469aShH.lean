import Derived.Test.Qxb6003469aShG
namespace Go.Proofs.Qxb6003469a.ShH
open Go.ChangeShapes Go.WideShapes Go.ChangeAt Go.RowKit
open Go.Proofs.Qxb6003469a.BitA
open Go.Proofs.Qxb6003469a.ShA
open Go.Proofs.Qxb6003469a.ShB
open Go.Proofs.Qxb6003469a.ShC
open Go.Proofs.Qxb6003469a.ShD
open Go.Proofs.Qxb6003469a.ShE
open Go.Proofs.Qxb6003469a.ShF
open Go.Proofs.Qxb6003469a.ShG
set_option linter.unusedVariables false

set_option maxHeartbeats 1000000 in
theorem walk (A T : ByteArray) (a1 a3 : Option Addr) (n1 c1 n3 c3 : Nat) (F M : List ByteArray) (h1 : F.length = n1) (m1 : n1 ≤ maxLen) (h3 : M.length = n3) (m3 : n3 ≤ maxLen) (z1 : a1 = none → n1 = 0 ∧ c1 = 0) (z3 : a3 = none → n3 = 0 ∧ c3 = 0)
    (hA : A.size ≤ maxLen) (hT : T.size ≤ maxLen) (w : World) (r1 : StrRow w a1 F) (r3 : StrRow w a3 M) :
    Calls Try.prog 6 #[.string A, .slice a1 n1 c1, .slice a3 n3 c3, .string T] w fun e w' => e = .returned (.bool true) ∧ Below w.heap.size w w' := by
  have H1 := hide h1
  have H3 := hide h3
  have Z1 := hide z1
  have Z3 := hide z3
  have R1 := hide r1
  have R3 := hide r3
  clear h1 h3 z1 z3 r1 r3
  go_enter Try.func6, Try.ntmps6
  go_wp2_with fail
  refine (bytes15_any A T a1 a3 n1 c1 n3 c3 F M H1.out m1 H3.out m3 w R1.out R3.out).mono ?_
  rintro e w0 ⟨b, rfl, e0⟩
  obtain rfl : w = w0 := e0.symm
  cases b with
  | false =>
    go_wp2
    go_ret
    exact ⟨rfl, Below.refl _ _⟩
  | true =>
  go_wp2_with fail
  refine (dom_any A T a1 a3 n1 c1 n3 c3 F M H1.out H3.out w R1.out R3.out).mono ?_
  rintro e w0 ⟨b, rfl, hd, e0⟩
  obtain rfl : w = w0 := e0.symm
  cases b with
  | true =>
    go_wp2
    go_ret
    exact ⟨rfl, Below.refl _ _⟩
  | false =>
  obtain ⟨⟨g1, g2, g3, g4⟩, g5, g6, g7⟩ := hd rfl
  rw [H1.out] at g3
  rw [H3.out] at g4
  have G5 := hide g5
  have G6 := hide g6
  have G7 := hide g7
  clear hd g5 g6 g7
  go_wp2_with fail
  refine (cloneS_any a1 n1 c1 F H1.out (by omega) w R1.out Z1.out).mono ?_
  rintro e w1 ⟨b1, d1, rfl, s1, bel1⟩
  have S1 := hide s1
  have B1 := hide bel1
  have P3 := hide (strB R3.out bel1 (Nat.le_refl _))
  clear s1 bel1
  go_wp2_with fail
  refine (cloneS_any a3 n3 c3 M H3.out (by omega) w1 P3.out Z3.out).mono ?_
  rintro e w2 ⟨b3, d3, rfl, s3, bel2⟩
  have S3 := hide s3
  have B2 := hide (B1.out.trans (bel2.mono B1.out.size))
  have P1 := hide (strB S1.out bel2 (Nat.le_refl _))
  clear s3 bel2
  go_wp2_with fail
  refine (last_any b1 b3 n1 d1 n3 d3 F M H1.out m1 H3.out m3 w2 P1.out S3.out).mono ?_
  rintro e w0 ⟨b, rfl, hl, e0⟩
  obtain rfl : w2 = w0 := e0.symm
  cases b with
  | true =>
    go_wp2
    go_ret
    exact ⟨rfl, B2.out⟩
  | false =>
  have HL := hide (hl rfl)
  clear hl
  go_wp2_with fail
  refine (question_any A T g1 g2 b1 n1 d1 F H1.out g3 G5.out w2 P1.out).mono ?_
  rintro e w3 ⟨gq, m, nB, C, rfl, hm, hm1, hn, hnC, hC, hU, bel3⟩
  have Hm := hide hm
  have HU := hide hU
  have B3 := hide (B2.out.trans (bel3.mono B2.out.size))
  have Q3 := hide (strB S3.out bel3 (Nat.le_refl _))
  clear hm hU bel3
  go_wp2_with fail
  refine (encode_any b3 n3 d3 M H3.out g4 G6.out w3 Q3.out).mono ?_
  rintro e w4 ⟨gd, go, md, rfl, hmd, _, hD, hO, bel4⟩
  have Hmd := hide hmd
  have HD := hide hD
  have HO := hide hO
  have B4 := hide (B3.out.trans (bel4.mono B3.out.size))
  have HU4 := hide (UB.below HU.out bel4 (Nat.le_refl _))
  have hmd2 : md ≤ 65535 := by rw [hmd]; exact G7.out
  clear hmd hD hO bel4
  go_wp2_with fail
  have hz := zz_any A T F M gd md go n3 gq (12 + m + A.size + T.size) C m (12 + m + A.size) g1 hm1 Hm.out rfl (by omega) (by omega) hC G5.out G6.out Hmd.out hmd2 H3.out.symm g4 HL.out w4 HU4.out HD.out HO.out
  rw [show ((12 + m + A.size : Nat) : Int) = 12 + (m : Int) + (A.size : Int) by omega] at hz
  refine hz.mono ?_
  rintro e w5 ⟨rfl, bel5⟩
  have B5 := hide (B4.out.trans (bel5.mono B4.out.size))
  clear bel5 hz
  go_wp2
  go_ret
  exact ⟨rfl, B5.out⟩
end Go.Proofs.Qxb6003469a.ShH
