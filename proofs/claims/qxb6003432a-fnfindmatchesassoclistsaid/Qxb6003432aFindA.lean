import Derived.Test.Qxb6003432aRows
import Derived.WalkKit
import Derived.ProofKit
import Derived.OpenShut
import Derived.ShutString
import Derived.RegionTactic
import Derived.Deep.QuietTactic
import Derived.BigQuiet
import Derived.Outline
import Derived.WalkSmall
import Derived.WalkLawsBesides
import Derived.Handy
namespace Go.Proofs.Qxb6003432a.FindA
open Go.ChangeShapes Go.WideShapes Go.ChangeAt Go.RowKit

theorem hide {p : Prop} (h : p) : Hid p := h

/-- A slice's elements lie in memory: each is a string. -/
def StrRow (w : World) (a : Option Addr) (ss : List ByteArray) : Prop :=
  ∀ k (h : k < ss.length), ∃ b off, a = some ⟨b, off, none⟩ ∧ w.cell? ⟨b, off + k, none⟩ = some (.string ss[k])
def IntRow (w : World) (a : Option Addr) (zs : List Int) : Prop :=
  ∀ k (h : k < zs.length), ∃ b off, a = some ⟨b, off, none⟩ ∧ w.cell? ⟨b, off + k, none⟩ = some (.int .i64 zs[k])

def RetB (w : World) (e : Ending) (w' : World) : Prop := ∃ b : Bool, e = .returned (.bool b) ∧ w' = w
def RetI (w : World) (e : Ending) (w' : World) : Prop := ∃ z : Int, e = .returned (.int .i64 z) ∧ w' = w

theorem stringBytes_any (a : Option Addr) (n c : Nat) (ss : List ByteArray) (hn : ss.length = n) (hm : n ≤ maxLen) (w : World) (hr : StrRow w a ss) :
    Calls Try.prog 40 #[.slice a n c] w fun e w' => RetI w e w' := by
  unfold maxLen at hm
  have HR := hide hr
  have HN := hide hn
  clear hr hn
  go_enter Try.func40, Try.ntmps40
  go_wp2
  · go_ret
    exact ⟨_, rfl, rfl⟩
  · go_loop [3, 4] (fun t i => ∃ k : Nat, k ≤ n ∧ i = .int .i64 k ∧ ∃ z : Int, t = .int .i64 z) (fun _ i => n - (intOf i).toNat)
    case atStart => exact ⟨0, Nat.zero_le _, rfl, 0, rfl⟩
    case round =>
      obtain ⟨k, hk, rfl, z, rfl⟩ := hrel
      by_cases hlt : k < n
      · obtain ⟨b, off, rfl, hcell⟩ := HR.out k (by rw [HN.out]; exact hlt)
        generalize ss[k]'(by rw [HN.out]; exact hlt) = s at hcell
        go_wp2
        · go_ret
          exact ⟨_, rfl, rfl⟩
        · go_ret
          exact ⟨_, rfl, rfl⟩
        · go_round
          case rel => exact ⟨k + 1, by omega, by go_num, _, rfl⟩
          case measure => simp [intOf]; omega
      · go_wp2
        go_ret
        exact ⟨_, rfl, rfl⟩

theorem findTooBig_any (a1 a2 a3 a4 : Option Addr) (n1 c1 n2 c2 n3 c3 n4 c4 : Nat) (F M : List ByteArray) (h1 : F.length = n1) (m1 : n1 ≤ maxLen) (h3 : M.length = n3) (m3 : n3 ≤ maxLen) (x : ByteArray) (w : World) (r1 : StrRow w a1 F) (r3 : StrRow w a3 M) :
    Calls Try.prog 26 #[.slice a1 n1 c1, .slice a2 n2 c2, .slice a3 n3 c3, .slice a4 n4 c4, .string x] w fun e w' => RetB w e w' := by
  have C1 := hide (stringBytes_any a1 n1 c1 F h1 m1 w r1)
  have C3 := hide (stringBytes_any a3 n3 c3 M h3 m3 w r3)
  clear r1 r3 h1 h3
  by_cases g2 : (1048576 : Int) < (n2 : Int)
  · go_enter Try.func26, Try.ntmps26
    go_wp2
    go_ret
    exact ⟨_, rfl, rfl⟩
  by_cases g4 : (1048576 : Int) < (n4 : Int)
  · go_enter Try.func26, Try.ntmps26
    go_wp2
    go_ret
    exact ⟨_, rfl, rfl⟩
  by_cases gx : (1048576 : Int) < (x.size : Int)
  · go_enter Try.func26, Try.ntmps26
    go_wp2
    go_ret
    exact ⟨_, rfl, rfl⟩
  go_enter Try.func26, Try.ntmps26
  go_wp2_with fail
  refine C1.out.mono ?_
  rintro e w1 ⟨z1, rfl, rfl⟩
  go_wp2_with fail
  refine C3.out.mono ?_
  rintro e w1 ⟨z3, rfl, rfl⟩
  go_wp2
  go_ret
  exact ⟨_, rfl, rfl⟩

/-- The byte guard of the first find law answers some bool and changes nothing. -/
theorem bytes25_any (a1 a2 a3 a4 : Option Addr) (n1 c1 n2 c2 n3 c3 n4 c4 : Nat) (F M : List ByteArray) (h1 : F.length = n1) (m1 : n1 ≤ maxLen) (h3 : M.length = n3) (m3 : n3 ≤ maxLen) (w : World) (r1 : StrRow w a1 F) (r3 : StrRow w a3 M) :
    Calls Try.prog 25 #[.slice a1 n1 c1, .slice a2 n2 c2, .slice a3 n3 c3, .slice a4 n4 c4] w fun e w' => RetB w e w' := by
  unfold maxLen at m1 m3
  have H1 := hide h1
  have H3 := hide h3
  have R1 := hide r1
  have R3 := hide r3
  clear r1 r3 h1 h3
  go_enter Try.func25, Try.ntmps25
  go_wp2
  all_goals try (go_ret; exact ⟨_, rfl, rfl⟩)
  go_loop [9, 10] (fun t i => ∃ k : Nat, k ≤ n1 ∧ i = .int .i64 k ∧ ∃ z : Int, t = .int .i64 z) (fun _ i => n1 - (intOf i).toNat)
  case atStart => exact ⟨0, Nat.zero_le _, rfl, _, rfl⟩
  case round =>
    obtain ⟨k, hk, rfl, z, rfl⟩ := hrel
    by_cases hlt : k < n1
    · obtain ⟨b, off, rfl, hcell⟩ := R1.out k (by rw [H1.out]; exact hlt)
      generalize F[k]'(by rw [H1.out]; exact hlt) = s at hcell
      go_wp2
      · go_ret
        exact ⟨_, rfl, rfl⟩
      · go_ret
        exact ⟨_, rfl, rfl⟩
      · go_round
        case rel => exact ⟨k + 1, by omega, by go_num, _, rfl⟩
        case measure => simp [intOf]; omega
    · go_wp2
      all_goals try (go_ret; exact ⟨_, rfl, rfl⟩)
      go_loop [9, 11] (fun t i => ∃ k : Nat, k ≤ n3 ∧ i = .int .i64 k ∧ ∃ z : Int, t = .int .i64 z) (fun _ i => n3 - (intOf i).toNat)
      case atStart => exact ⟨0, Nat.zero_le _, rfl, _, rfl⟩
      case round =>
        obtain ⟨j, hj, rfl, y, rfl⟩ := hrel
        by_cases hlj : j < n3
        · obtain ⟨b, off, rfl, hcell⟩ := R3.out j (by rw [H3.out]; exact hlj)
          generalize M[j]'(by rw [H3.out]; exact hlj) = s at hcell
          go_wp2
          · go_ret
            exact ⟨_, rfl, rfl⟩
          · go_ret
            exact ⟨_, rfl, rfl⟩
          · go_round
            case rel => exact ⟨j + 1, by omega, by go_num, _, rfl⟩
            case measure => simp [intOf]; omega
        · go_wp2
          all_goals (go_ret; exact ⟨_, rfl, rfl⟩)
end Go.Proofs.Qxb6003432a.FindA
