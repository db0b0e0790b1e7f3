import Derived.Test.Qxb6003469aBitE
namespace Go.Proofs.Qxb6003469a.BitF
open Go.ChangeShapes Go.WideShapes Go.ChangeAt Go.RowKit
open Go.Proofs.Qxb6003469a.BitA
open Go.Proofs.Qxb6003469a.BitB
open Go.Proofs.Qxb6003469a.BitE
set_option linter.unusedVariables false

set_option maxHeartbeats 400000 in
theorem walk (a : Option Addr) (n c : Nat) (zs : List Int) (hn : zs.length = n) (h0 : a = none → n = 0 ∧ c = 0) (hwf : ∀ z ∈ zs, (Lit.int .u16 z).wf = true) (w : World) (hr : KRow .u16 w a zs) :
    Calls Try.prog 8 #[.slice a n c] w fun e w' => e = .returned (.bool true) ∧ Below w.heap.size w w' := by
  have HN := hide hn
  have HR := hide hr
  have HW := hide hwf
  have H0 := hide h0
  clear hn hr hwf h0
  go_enter Try.func8, Try.ntmps8
  go_wp2_with fail
  refine (bytes23_any a n c _).mono ?_
  rintro e w1 ⟨b, rfl, rfl⟩
  cases b
  · go_wp2
    go_ret
    exact ⟨rfl, Below.refl _ _⟩
  by_cases g : (65536 : Int) < (n : Int)
  · go_wp2
    go_ret
    exact ⟨rfl, Below.refl _ _⟩
  have g' : decide ((65536 : Int) < (n : Int)) = false := decide_eq_false g
  go_wp2_with fail
  refine (cloneU16_any a n c zs HN.out (by omega) _ HR.out H0.out).mono ?_
  rintro e w2 ⟨p, q, rfl, hrow, hb⟩
  have HRow := hide hrow
  have HB := hide hb
  clear hrow hb
  go_wp2_with fail
  refine (encode_any p n q zs HN.out (by omega) HW.out _ HRow.out).mono ?_
  rintro e w3 ⟨p2, n2, c2, kk, bl, rfl, k1, k2, k3, k4, k5, k6, k7⟩
  have K1 := hide k1
  have K5 := hide k5
  have K6 := hide k6
  have HB2 := hide (HB.out.trans (k7.mono HB.out.size))
  clear k1 k5 k6 k7
  go_wp2_with fail
  refine (zzvalid_any p2 n2 c2 bl K1.out (by omega) k3 k4 _ K5.out K6.out).mono ?_
  rintro e w4 ⟨rfl, hb4⟩
  have HB3 := hide (HB2.out.trans (hb4.mono HB2.out.size))
  clear hb4
  go_wp2
  go_ret
  exact ⟨rfl, HB3⟩
end Go.Proofs.Qxb6003469a.BitF
