import Derived.Test.Qxb6003469aRows
import Derived.WalkKit
import Derived.ProofKit
import Derived.OpenShut
import Derived.ShutString
namespace Go.Proofs.Qxb6003469a.Units
open Go.ChangeShapes Go.WideShapes Go.ChangeAt Go.RowKit

theorem law_115 (w : World) : Calls Try.prog 4 #[.int .u8 115] w fun e w' => e = .returned (.bool true) ∧ Grown w w' := by
  go_enter Try.func4, Try.ntmps4
  go_wp2
  go_ret
  exact ⟨rfl, Grown.refl _⟩
theorem law_83 (w : World) : Calls Try.prog 4 #[.int .u8 83] w fun e w' => e = .returned (.bool true) ∧ Grown w w' := by
  go_enter Try.func4, Try.ntmps4
  go_wp2
  go_ret
  exact ⟨rfl, Grown.refl _⟩
theorem law_109 (w : World) : Calls Try.prog 4 #[.int .u8 109] w fun e w' => e = .returned (.bool true) ∧ Grown w w' := by
  go_enter Try.func4, Try.ntmps4
  go_wp2
  go_ret
  exact ⟨rfl, Grown.refl _⟩
theorem law_77 (w : World) : Calls Try.prog 4 #[.int .u8 77] w fun e w' => e = .returned (.bool true) ∧ Grown w w' := by
  go_enter Try.func4, Try.ntmps4
  go_wp2
  go_ret
  exact ⟨rfl, Grown.refl _⟩
theorem law_104 (w : World) : Calls Try.prog 4 #[.int .u8 104] w fun e w' => e = .returned (.bool true) ∧ Grown w w' := by
  go_enter Try.func4, Try.ntmps4
  go_wp2
  go_ret
  exact ⟨rfl, Grown.refl _⟩
theorem law_72 (w : World) : Calls Try.prog 4 #[.int .u8 72] w fun e w' => e = .returned (.bool true) ∧ Grown w w' := by
  go_enter Try.func4, Try.ntmps4
  go_wp2
  go_ret
  exact ⟨rfl, Grown.refl _⟩
theorem law_100 (w : World) : Calls Try.prog 4 #[.int .u8 100] w fun e w' => e = .returned (.bool true) ∧ Grown w w' := by
  go_enter Try.func4, Try.ntmps4
  go_wp2
  go_ret
  exact ⟨rfl, Grown.refl _⟩
theorem law_68 (w : World) : Calls Try.prog 4 #[.int .u8 68] w fun e w' => e = .returned (.bool true) ∧ Grown w w' := by
  go_enter Try.func4, Try.ntmps4
  go_wp2
  go_ret
  exact ⟨rfl, Grown.refl _⟩
theorem law_119 (w : World) : Calls Try.prog 4 #[.int .u8 119] w fun e w' => e = .returned (.bool true) ∧ Grown w w' := by
  go_enter Try.func4, Try.ntmps4
  go_wp2
  go_ret
  exact ⟨rfl, Grown.refl _⟩
theorem law_87 (w : World) : Calls Try.prog 4 #[.int .u8 87] w fun e w' => e = .returned (.bool true) ∧ Grown w w' := by
  go_enter Try.func4, Try.ntmps4
  go_wp2
  go_ret
  exact ⟨rfl, Grown.refl _⟩
theorem secs0 (c : Int) (h : (c ≠ 115 ∧ c ≠ 83 ∧ c ≠ 109 ∧ c ≠ 77 ∧ c ≠ 104) ∧ c ≠ 72 ∧ c ≠ 100 ∧ c ≠ 68 ∧ c ≠ 119 ∧ c ≠ 87) (w : World) :
    Calls Try.prog 30 #[.int .u8 c] w fun e w' => e = .returned (.int .u64 0) ∧ w' = w := by
  obtain ⟨⟨h1, h2, h3, h4, h5⟩, h6, h7, h8, h9, h10⟩ := h
  have e1 : (c == 115) = false := beq_eq_false_iff_ne.2 h1
  have e2 : (c == 83) = false := beq_eq_false_iff_ne.2 h2
  have e3 : (c == 109) = false := beq_eq_false_iff_ne.2 h3
  have e4 : (c == 77) = false := beq_eq_false_iff_ne.2 h4
  have e5 : (c == 104) = false := beq_eq_false_iff_ne.2 h5
  have e6 : (c == 72) = false := beq_eq_false_iff_ne.2 h6
  have e7 : (c == 100) = false := beq_eq_false_iff_ne.2 h7
  have e8 : (c == 68) = false := beq_eq_false_iff_ne.2 h8
  have e9 : (c == 119) = false := beq_eq_false_iff_ne.2 h9
  have e10 : (c == 87) = false := beq_eq_false_iff_ne.2 h10
  clear h1 h2 h3 h4 h5 h6 h7 h8 h9 h10
  go_enter Try.func30, Try.ntmps30
  go_wp2
  go_ret
  exact ⟨rfl, rfl⟩


def lowC (c : Int) : Int := if 65 ≤ c ∧ c ≤ 90 then c + 32 else c
theorem lower_any (c : Int) (h0 : 0 ≤ c) (h1 : c ≤ 255) (w : World) :
    Calls Try.prog 12 #[.int .u8 c] w fun e w' => e = .returned (.int .u8 (lowC c)) ∧ w' = w := by
  by_cases ha : 65 ≤ c
  · by_cases hb : c ≤ 90
    · have e : Hid (lowC c = c + 32) := if_pos ⟨ha, hb⟩
      go_enter Try.func12, Try.ntmps12
      go_wp2
      go_ret
      exact ⟨by rw [e.out]; rfl, rfl⟩
    · have e : Hid (lowC c = c) := if_neg (fun x => hb x.2)
      go_enter Try.func12, Try.ntmps12
      go_wp2
      go_ret
      exact ⟨by rw [e.out]; rfl, rfl⟩
  · have e : Hid (lowC c = c) := if_neg (fun x => ha x.1)
    go_enter Try.func12, Try.ntmps12
    go_wp2
    go_ret
    exact ⟨by rw [e.out]; rfl, rfl⟩

theorem rank0 (c : Int) (h0 : 0 ≤ c) (h1 : c ≤ 255) (h : lowC c ≠ 115 ∧ lowC c ≠ 109 ∧ lowC c ≠ 104 ∧ lowC c ≠ 100 ∧ lowC c ≠ 119) (w : World) :
    Calls Try.prog 14 #[.int .u8 c] w fun e w' => e = .returned (.int .i64 0) ∧ w' = w := by
  obtain ⟨h1', h2, h3, h4, h5⟩ := h
  have e1 : (lowC c == 115) = false := beq_eq_false_iff_ne.2 h1'
  have e2 : (lowC c == 109) = false := beq_eq_false_iff_ne.2 h2
  have e3 : (lowC c == 104) = false := beq_eq_false_iff_ne.2 h3
  have e4 : (lowC c == 100) = false := beq_eq_false_iff_ne.2 h4
  have e5 : (lowC c == 119) = false := beq_eq_false_iff_ne.2 h5
  clear h1' h2 h3 h4 h5
  go_enter Try.func14, Try.ntmps14
  go_wp2_with (go_at_call 12; refine (lower_any c h0 h1 _).mono ?_; rintro e w' ⟨rfl, rfl⟩)
  go_ret
  exact ⟨rfl, rfl⟩

theorem secs0' (c : Int) (h : (c ≠ 115 ∧ c ≠ 83 ∧ c ≠ 109 ∧ c ≠ 77 ∧ c ≠ 104) ∧ c ≠ 72 ∧ c ≠ 100 ∧ c ≠ 68 ∧ c ≠ 119 ∧ c ≠ 87) (w : World) :
    Calls Try.prog 11 #[.int .u8 c] w fun e w' => e = .returned (.int .u64 0) ∧ w' = w := by
  have H : Hid _ := h
  clear h
  go_enter Try.func11, Try.ntmps11
  go_wp2_with (go_at_call 30; refine (secs0 c H.out _).mono ?_; rintro e w' ⟨rfl, rfl⟩)
  go_ret
  exact ⟨rfl, rfl⟩

theorem law_other (c : Int) (h0 : 0 ≤ c) (h1 : c ≤ 255) (h : (c ≠ 115 ∧ c ≠ 83 ∧ c ≠ 109 ∧ c ≠ 77 ∧ c ≠ 104) ∧ c ≠ 72 ∧ c ≠ 100 ∧ c ≠ 68 ∧ c ≠ 119 ∧ c ≠ 87) (w : World) :
    Calls Try.prog 4 #[.int .u8 c] w fun e w' => e = .returned (.bool true) ∧ Grown w w' := by
  have hl : lowC c ≠ 115 ∧ lowC c ≠ 109 ∧ lowC c ≠ 104 ∧ lowC c ≠ 100 ∧ lowC c ≠ 119 := by
    obtain ⟨⟨h1', h2, h3, h4, h5⟩, h6, h7, h8, h9, h10⟩ := h
    unfold lowC
    split <;> refine ⟨?_, ?_, ?_, ?_, ?_⟩ <;> omega
  have H : Hid _ := h
  have HL : Hid _ := hl
  clear h hl
  go_enter Try.func4, Try.ntmps4
  go_wp2_with (first | (go_at_call 11; refine (secs0' c H.out _).mono ?_; rintro e w' ⟨rfl, rfl⟩) | (go_at_call 14; refine (rank0 c h0 h1 HL.out _).mono ?_; rintro e w' ⟨rfl, rfl⟩))
  go_ret
  exact ⟨rfl, Grown.refl _⟩

theorem walk (a0 : Int) (w0 : (Lit.int .u8 a0).wf = true) (w : World) :
    Calls Try.prog 4 #[.int .u8 a0] w fun e w' => e = .returned (.bool true) ∧ Grown w w' := by
  have hb : 0 ≤ a0 ∧ a0 ≤ 255 := by
    have := bounds_u8 w0
    omega
  by_cases c115 : a0 = 115
  · subst c115; exact law_115 w
  by_cases c83 : a0 = 83
  · subst c83; exact law_83 w
  by_cases c109 : a0 = 109
  · subst c109; exact law_109 w
  by_cases c77 : a0 = 77
  · subst c77; exact law_77 w
  by_cases c104 : a0 = 104
  · subst c104; exact law_104 w
  by_cases c72 : a0 = 72
  · subst c72; exact law_72 w
  by_cases c100 : a0 = 100
  · subst c100; exact law_100 w
  by_cases c68 : a0 = 68
  · subst c68; exact law_68 w
  by_cases c119 : a0 = 119
  · subst c119; exact law_119 w
  by_cases c87 : a0 = 87
  · subst c87; exact law_87 w
  exact law_other a0 hb.1 hb.2 ⟨⟨c115, c83, c109, c77, c104⟩, c72, c100, c68, c119, c87⟩ w
end Go.Proofs.Qxb6003469a.Units
