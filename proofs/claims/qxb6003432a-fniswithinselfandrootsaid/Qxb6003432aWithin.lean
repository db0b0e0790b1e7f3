import Derived.Test.Qxb6003432aRows
import Derived.WalkKit
import Derived.ProofKit
import Derived.OpenShut
import Derived.ShutString
import Derived.RegionTactic
import Derived.Deep.QuietTactic
import Derived.BigQuiet
import Derived.Outline
import Derived.WalkSmall
import Derived.WalkLawsBesides
import Derived.Handy
namespace Go.Proofs.Qxb6003432a.Within
open Go.ChangeShapes Go.WideShapes Go.ChangeAt Go.RowKit

theorem hide {p : Prop} (h : p) : Hid p := h

theorem quiet_same_add {P : Program} {f : FuncId} {args : Array Value} {w : World} {n m : Nat} {v : Value}
    (h : Calls P f args (w.drewN (n + m)) fun e w' => e = .returned v ∧ w' = w.drewN (n + m)) : Calls P f args (w.drewN (n + m)) fun e w'' => e = .returned v ∧ ∃ k, w'' = w.drewN (n + k) :=
  h.mono fun _ _ ⟨he, hm⟩ => ⟨he, m, hm⟩

theorem lower_ex (c : Int) (h0 : 0 ≤ c) (h1 : c ≤ 255) : ∃ r : Int, ∀ w : World,
    Calls Try.prog 42 #[.int .u8 c] w fun e w' => e = .returned (.int .u8 r) ∧ w' = w := by
  by_cases h : 65 ≤ c ∧ c ≤ 90
  · obtain ⟨ha, hb⟩ := h
    refine ⟨c + 97 - 65, fun w => ?_⟩
    go_enter Try.func42, Try.ntmps42
    go_wp2
    go_ret
    exact ⟨rfl, rfl⟩
  · by_cases ha : 65 ≤ c
    · have hb : ¬ c ≤ 90 := fun x => h ⟨ha, x⟩
      refine ⟨c, fun w => ?_⟩
      clear h
      go_enter Try.func42, Try.ntmps42
      go_wp2
      go_ret
      exact ⟨rfl, rfl⟩
    · refine ⟨c, fun w => ?_⟩
      clear h
      go_enter Try.func42, Try.ntmps42
      go_wp2
      go_ret
      exact ⟨rfl, rfl⟩

theorem fold_self (s : ByteArray) (hs : s.size ≤ maxLen) (w : World) :
    Calls Try.prog 38 #[.string s, .string s] w fun e w' => e = .returned (.bool true) ∧ ∃ n, w' = w.drewN n := by
  unfold maxLen at hs
  go_enter Try.func38, Try.ntmps38
  go_wp2
  go_loopw [5] (fun i w' => ∃ k : Nat, k ≤ s.size ∧ i = .int .i64 k ∧ ∃ n, w' = w.drewN n) (fun i _ => s.size - (intOf i).toNat)
  case atStart => exact ⟨0, Nat.zero_le _, rfl, 0, rfl⟩
  case round =>
    obtain ⟨k, hk, rfl, n, rfl⟩ := hrel
    by_cases hlt : k < s.size
    · have hb0 : (0 : Int) ≤ (s[k].toNat : Int) := by omega
      have hb1 : (s[k].toNat : Int) ≤ 255 := by have := s[k].toNat_lt; omega
      obtain ⟨r, hr⟩ := lower_ex _ hb0 hb1
      have hR := hide hr
      clear hr
      go_wp2
      go_quiet ((go_at_call 42; exact quiet_same_add (hR.out _)))
      go_wp2
      go_roundw
      case rel => exact ⟨k + 1, by omega, by go_num, n + nq, rfl⟩
      case measure => simp [intOf]; omega
    · go_wp2
      go_ret
      exact ⟨rfl, n, rfl⟩

theorem fold_eq (a b : ByteArray) (hab : a = b) (hs : b.size ≤ maxLen) (w : World) :
    Calls Try.prog 38 #[.string a, .string b] w fun e w' => e = .returned (.bool true) ∧ ∃ n, w' = w.drewN n := by
  subst hab; exact fold_self a hs w

theorem within_self (s : ByteArray) (hs : s.size ≤ maxLen) (w : World) :
    Calls Try.prog 18 #[.agg #[.string s], .agg #[.string s]] w fun e w' => e = .returned (.bool true) ∧ Below w.heap.size w w' := by
  have hs' := hs
  unfold maxLen at hs'
  go_enter Try.func18, Try.ntmps18
  go_wp2
  go_loop [6] (fun i => i = .int .i64 0) (fun _ => 0)
  case atStart => rfl
  case round =>
    subst hrel
    go_wp2
    go_quiet ((go_at_call 38; exact Calls.quiet_of (fold_eq _ _ (by simp) hs _)))
    go_wp2
    go_ret
    exact ⟨rfl, by repeat (first | exact Below.refl _ _ | apply below_drewN | apply Below.drew | refine Below.alloc ?_ (by simp) _)⟩

theorem within_root_no (s : ByteArray) (hs : s.size ≤ maxLen) (h0 : 0 < s.size) (w : World) :
    Calls Try.prog 18 #[.agg #[.string ByteArray.empty], .agg #[.string s]] w fun e w' => e = .returned (.bool false) ∧ Below w.heap.size w w' := by
  have hs' := hs
  unfold maxLen at hs'
  go_enter Try.func18, Try.ntmps18
  go_wp2
  go_ret
  exact ⟨rfl, by repeat (first | exact Below.refl _ _ | apply below_drewN | apply Below.drew | refine Below.alloc ?_ (by simp) _)⟩

/-- From place i on the labels fill the text exactly. -/
def okIn (s : ByteArray) : Nat → Nat → Prop
  | 0, i => i = s.size
  | f + 1, i => i = s.size ∨ ∃ h : i < s.size, i + 1 + s[i].toNat ≤ s.size ∧ okIn s f (i + 1 + s[i].toNat)
def OkFrom (s : ByteArray) (i : Nat) : Prop := ∃ f, okIn s f i

theorem OkFrom.step {s : ByteArray} {i : Nat} (h : OkFrom s i) (hi : i < s.size) : i + 1 + s[i].toNat ≤ s.size ∧ OkFrom s (i + 1 + s[i].toNat) := by
  obtain ⟨f, hf⟩ := h
  cases f with
  | zero => simp only [okIn] at hf; omega
  | succ f =>
    simp only [okIn] at hf
    rcases hf with hf | ⟨_, h1, h2⟩
    · omega
    · exact ⟨h1, f, h2⟩
theorem OkFrom.back {s : ByteArray} {i : Nat} (hi : i < s.size) (h1 : i + 1 + s[i].toNat ≤ s.size) (h2 : OkFrom s (i + 1 + s[i].toNat)) : OkFrom s i := by
  obtain ⟨f, hf⟩ := h2
  exact ⟨f + 1, .inr ⟨hi, h1, hf⟩⟩

theorem within_root (s : ByteArray) (hs : s.size ≤ maxLen) (hok : OkFrom s 0) (w : World) :
    Calls Try.prog 18 #[.agg #[.string s], .agg #[.string ByteArray.empty]] w fun e w' => e = .returned (.bool true) ∧ Below w.heap.size w w' := by
  have hs' := hs
  unfold maxLen at hs'
  have hO := hide hok
  clear hok
  go_enter Try.func18, Try.ntmps18
  go_wp2
  go_loop [6] (fun i => ∃ k : Nat, k ≤ s.size ∧ Hid (OkFrom s k) ∧ i = .int .i64 k) (fun i => s.size - (intOf i).toNat)
  case atStart => exact ⟨0, Nat.zero_le _, hO, rfl⟩
  case round =>
    obtain ⟨k, hk, hkO, rfl⟩ := hrel
    by_cases hlt : k < s.size
    · obtain ⟨hn, hN⟩ := hkO.out.step hlt
      have hb1 : (s[k].toNat : Int) ≤ 255 := by have := s[k].toNat_lt; omega
      have hNN := hide hN
      clear hN
      go_wp2
      go_round
      case rel => exact ⟨k + 1 + s[k].toNat, hn, hNN, by go_num⟩
      case measure => simp [intOf]; omega
    · have hke : k = s.size := by omega
      subst hke
      go_wp2
      go_quiet ((go_at_call 38; exact Calls.quiet_of (fold_eq _ _ (by simp) (by simp [maxLen]) _)))
      go_wp2
      go_ret
      exact ⟨rfl, by repeat (first | exact Below.refl _ _ | apply below_drewN | apply Below.drew | refine Below.alloc ?_ (by simp) _)⟩

def WfPost (s : ByteArray) (w : World) (e : Ending) (w' : World) : Prop := ∃ b : Bool, e = .returned (.bool b) ∧ (b = true → OkFrom s 0) ∧ w' = w
theorem wellFormed_any (s : ByteArray) (hs : s.size ≤ maxLen) (w : World) : Calls Try.prog 20 #[.string s] w fun e w' => WfPost s w e w' := by
  unfold maxLen at hs
  go_enter Try.func20, Try.ntmps20
  go_wp2
  go_loop [3] (fun i => ∃ k : Nat, k ≤ s.size ∧ Hid (OkFrom s k → OkFrom s 0) ∧ i = .int .i64 k) (fun i => s.size - (intOf i).toNat)
  case atStart => exact ⟨0, Nat.zero_le _, id, rfl⟩
  case round =>
    obtain ⟨k, hk, hkO, rfl⟩ := hrel
    by_cases hlt : k < s.size
    · have hb0 : (0 : Int) ≤ (s[k].toNat : Int) := by omega
      have hb1 : (s[k].toNat : Int) ≤ 255 := by have := s[k].toNat_lt; omega
      by_cases c1 : (s[k].toNat : Int) < 1
      · go_wp2
        go_ret
        exact ⟨false, rfl, (fun h => by cases h), rfl⟩
      · by_cases c2 : 63 < (s[k].toNat : Int)
        · go_wp2
          go_ret
          exact ⟨false, rfl, (fun h => by cases h), rfl⟩
        · by_cases c3 : (s.size : Int) - (k : Int) - 1 < (s[k].toNat : Int)
          · go_wp2
            go_ret
            exact ⟨false, rfl, (fun h => by cases h), rfl⟩
          · go_wp2
            go_round
            case rel => exact ⟨k + 1 + s[k].toNat, by omega, fun h => hkO.out (OkFrom.back hlt (by omega) h), by go_num⟩
            case measure => simp [intOf]; omega
    · have hke : k = s.size := by omega
      go_wp2
      go_ret
      exact ⟨true, rfl, fun _ => hkO.out ⟨0, hke⟩, rfl⟩
end Go.Proofs.Qxb6003432a.Within
