import Derived.Test.Qxb6003432aFindA
namespace Go.Proofs.Qxb6003432a.FindB
open Go.ChangeShapes Go.WideShapes Go.ChangeAt Go.RowKit
open Go.Proofs.Qxb6003432a.FindA
set_option linter.unusedVariables false

/-- The byte guard of the second find law answers some bool and changes nothing. -/
theorem bytes31_any (a1 a2 a3 a4 : Option Addr) (n1 c1 n2 c2 n3 c3 n4 c4 : Nat) (F M : List ByteArray) (h1 : F.length = n1) (m1 : n1 ≤ maxLen) (h3 : M.length = n3) (m3 : n3 ≤ maxLen) (x : ByteArray) (w : World) (r1 : StrRow w a1 F) (r3 : StrRow w a3 M) :
    Calls Try.prog 31 #[.slice a1 n1 c1, .slice a2 n2 c2, .slice a3 n3 c3, .slice a4 n4 c4, .string x] w fun e w' => RetB w e w' := by
  unfold maxLen at m1 m3
  have H1 := hide h1
  have H3 := hide h3
  have R1 := hide r1
  have R3 := hide r3
  clear r1 r3 h1 h3
  go_enter Try.func31, Try.ntmps31
  go_wp2
  all_goals try (go_ret; exact ⟨_, rfl, rfl⟩)
  go_loop [11, 12] (fun t i => ∃ k : Nat, k ≤ n1 ∧ i = .int .i64 k ∧ ∃ z : Int, t = .int .i64 z) (fun _ i => n1 - (intOf i).toNat)
  case atStart => exact ⟨0, Nat.zero_le _, rfl, _, rfl⟩
  case round =>
    obtain ⟨k, hk, rfl, z, rfl⟩ := hrel
    by_cases hlt : k < n1
    · obtain ⟨b, off, rfl, hcell⟩ := R1.out k (by rw [H1.out]; exact hlt)
      generalize F[k]'(by rw [H1.out]; exact hlt) = s at hcell
      go_wp2
      · go_ret
        exact ⟨_, rfl, rfl⟩
      · go_ret
        exact ⟨_, rfl, rfl⟩
      · go_round
        case rel => exact ⟨k + 1, by omega, by go_num, _, rfl⟩
        case measure => simp [intOf]; omega
    · go_wp2
      all_goals try (go_ret; exact ⟨_, rfl, rfl⟩)
      go_loop [11, 13] (fun t i => ∃ k : Nat, k ≤ n3 ∧ i = .int .i64 k ∧ ∃ z : Int, t = .int .i64 z) (fun _ i => n3 - (intOf i).toNat)
      case atStart => exact ⟨0, Nat.zero_le _, rfl, _, rfl⟩
      case round =>
        obtain ⟨j, hj, rfl, y, rfl⟩ := hrel
        by_cases hlj : j < n3
        · obtain ⟨b, off, rfl, hcell⟩ := R3.out j (by rw [H3.out]; exact hlj)
          generalize M[j]'(by rw [H3.out]; exact hlj) = s at hcell
          go_wp2
          · go_ret
            exact ⟨_, rfl, rfl⟩
          · go_ret
            exact ⟨_, rfl, rfl⟩
          · go_round
            case rel => exact ⟨j + 1, by omega, by go_num, _, rfl⟩
            case measure => simp [intOf]; omega
        · go_wp2
          all_goals (go_ret; exact ⟨_, rfl, rfl⟩)

theorem pick_any (a1 a3 : Option Addr) (n1 c1 n3 c3 : Nat) (F M : List ByteArray) (h1 : F.length = n1) (m1 : n1 ≤ maxLen) (h3 : M.length = n3) (m3 : n3 ≤ maxLen) (i : Nat) (x : ByteArray) (hx : (F ++ M)[i]? = some x) (w : World) (r1 : StrRow w a1 F) (r3 : StrRow w a3 M) :
    Calls Try.prog 32 #[.slice a1 n1 c1, .slice a3 n3 c3, .int .i64 i] w fun e w' => e = .returned (.string x) ∧ w' = w := by
  unfold maxLen at m1 m3
  by_cases hlt : i < n1
  · obtain ⟨b, off, rfl, hcell⟩ := r1 i (by omega)
    rw [List.getElem?_append_left (by omega), List.getElem?_eq_getElem (by omega)] at hx
    rw [Option.some.inj hx] at hcell
    clear hx h1 h3 r1 r3
    go_enter Try.func32, Try.ntmps32
    go_wp2
    go_ret
    exact ⟨rfl, rfl⟩
  · obtain ⟨j, rfl⟩ : ∃ j, i = n1 + j := ⟨i - n1, by omega⟩
    rw [List.getElem?_append_right (by omega), show n1 + j - F.length = j by omega] at hx
    obtain ⟨hj, hx'⟩ := List.getElem?_eq_some_iff.1 hx
    obtain ⟨b, off, rfl, hcell⟩ := r3 j hj
    rw [hx'] at hcell
    rw [h3] at hj
    clear hx hx' h1 h3 r1 r3
    have e1 : ((n1 + j : Nat) : Int) - (n1 : Int) = (j : Int) := by omega
    go_enter Try.func32, Try.ntmps32
    go_wp2
    go_ret
    exact ⟨rfl, rfl⟩

theorem pickInt_any (a1 a3 : Option Addr) (n1 c1 n3 c3 : Nat) (F M : List Int) (h1 : F.length = n1) (m1 : n1 ≤ maxLen) (h3 : M.length = n3) (m3 : n3 ≤ maxLen) (i : Nat) (x : Int) (hx : (F ++ M)[i]? = some x) (w : World) (r1 : IntRow w a1 F) (r3 : IntRow w a3 M) :
    Calls Try.prog 33 #[.slice a1 n1 c1, .slice a3 n3 c3, .int .i64 i] w fun e w' => e = .returned (.int .i64 x) ∧ w' = w := by
  unfold maxLen at m1 m3
  by_cases hlt : i < n1
  · obtain ⟨b, off, rfl, hcell⟩ := r1 i (by omega)
    rw [List.getElem?_append_left (by omega), List.getElem?_eq_getElem (by omega)] at hx
    rw [Option.some.inj hx] at hcell
    clear hx h1 h3 r1 r3
    go_enter Try.func33, Try.ntmps33
    go_wp2
    go_ret
    exact ⟨rfl, rfl⟩
  · obtain ⟨j, rfl⟩ : ∃ j, i = n1 + j := ⟨i - n1, by omega⟩
    rw [List.getElem?_append_right (by omega), show n1 + j - F.length = j by omega] at hx
    obtain ⟨hj, hx'⟩ := List.getElem?_eq_some_iff.1 hx
    obtain ⟨b, off, rfl, hcell⟩ := r3 j hj
    rw [hx'] at hcell
    rw [h3] at hj
    clear hx hx' h1 h3 r1 r3
    have e1 : ((n1 + j : Nat) : Int) - (n1 : Int) = (j : Int) := by omega
    go_enter Try.func33, Try.ntmps33
    go_wp2
    go_ret
    exact ⟨rfl, rfl⟩

/-- No two of the first k entries and any later one are the same. -/
def Dist (L : List ByteArray) (k : Nat) : Prop := ∀ i j, i < k → i < j → j < L.length → L[i]? ≠ L[j]?
def DistPost (L : List ByteArray) (w : World) (e : Ending) (w' : World) : Prop := ∃ b : Bool, e = .returned (.bool b) ∧ (b = true → Dist L L.length) ∧ w' = w

theorem str_ne {x y : ByteArray} (h : x ≠ y) : (x.toList == y.toList) = false := by
  rw [← beq_toListBytes]; exact Bool.eq_false_iff.2 (fun e => h ((MapKept.bytes_beq x y).1 e))
theorem str_eq {x y : ByteArray} (h : x = y) : (x.toList == y.toList) = true := by subst h; simp

theorem distinctAll_any (a1 a3 : Option Addr) (n1 c1 n3 c3 : Nat) (F M : List ByteArray) (h1 : F.length = n1) (m1 : n1 ≤ 4611686018427387904) (h3 : M.length = n3) (m3 : n3 ≤ 4611686018427387903) (w : World) (r1 : StrRow w a1 F) (r3 : StrRow w a3 M) :
    Calls Try.prog 27 #[.slice a1 n1 c1, .slice a3 n3 c3] w fun e w' => DistPost (F ++ M) w e w' := by
  have hl : Hid ((F ++ M).length = n1 + n3) := by show _ = _; rw [List.length_append, h1, h3]
  have PK := hide (fun (i : Nat) (x : ByteArray) (hx : (F ++ M)[i]? = some x) => pick_any a1 a3 n1 c1 n3 c3 F M h1 (by unfold maxLen; omega) h3 (by unfold maxLen; omega) i x hx w r1 r3)
  clear r1 r3 h1 h3
  generalize F ++ M = L at *
  go_enter Try.func27, Try.ntmps27
  go_wp2
  go_loop [6, 7] (fun i _ => ∃ k : Nat, k ≤ n1 + n3 ∧ i = .int .i64 k ∧ Hid (Dist L k)) (fun i _ => n1 + n3 - (intOf i).toNat)
  case atStart => exact ⟨0, Nat.zero_le _, rfl, fun i j h => absurd h (Nat.not_lt_zero _)⟩
  case round =>
    obtain ⟨k, hk, rfl, hD⟩ := hrel
    by_cases hlt : k < n1 + n3
    · go_wp2
      go_loop [7] (fun i => ∃ j : Nat, k + 1 ≤ j ∧ j ≤ n1 + n3 ∧ i = .int .i64 j ∧ Hid (∀ j', k < j' → j' < j → L[k]? ≠ L[j']?)) (fun i => n1 + n3 - (intOf i).toNat)
      case atStart => exact ⟨k + 1, Nat.le_refl _, by omega, by go_num, fun j' h h' => by omega⟩
      case round =>
        obtain ⟨j, hj1, hj2, rfl, hJ⟩ := hrel
        by_cases hlj : j < n1 + n3
        · obtain ⟨x, hx⟩ : ∃ x, L[k]? = some x := ⟨_, List.getElem?_eq_getElem (by have := hl.out; omega)⟩
          obtain ⟨y, hy⟩ : ∃ y, L[j]? = some y := ⟨_, List.getElem?_eq_getElem (by have := hl.out; omega)⟩
          have P1 := hide (PK.out k x hx)
          have P2 := hide (PK.out j y hy)
          have HX := hide hx
          have HY := hide hy
          clear hx hy
          by_cases hxy : x = y
          · have e1 := str_eq hxy
            clear hxy
            go_wp2_with fail
            refine P1.out.mono ?_
            rintro e w1 ⟨rfl, rfl⟩
            go_wp2_with fail
            refine P2.out.mono ?_
            rintro e w1 ⟨rfl, rfl⟩
            go_wp2
            go_ret
            exact ⟨false, rfl, (fun h => by cases h), rfl⟩
          · have e1 := str_ne hxy
            have HN := hide hxy
            clear hxy
            go_wp2_with fail
            refine P1.out.mono ?_
            rintro e w1 ⟨rfl, rfl⟩
            go_wp2_with fail
            refine P2.out.mono ?_
            rintro e w1 ⟨rfl, rfl⟩
            go_wp2
            go_round
            case rel =>
              refine ⟨j + 1, by omega, by omega, by go_num, fun j' h h' => ?_⟩
              by_cases hjj : j' = j
              · subst hjj; rw [HX.out, HY.out]; exact fun h => HN.out (Option.some.inj h)
              · exact hJ.out j' h (by omega)
            case measure => simp [intOf]; omega
        · go_wp2
          go_round
          case rel =>
            refine ⟨k + 1, by omega, by go_num, fun i j' hi hij hjl => ?_⟩
            by_cases hik : i = k
            · subst hik; exact hJ.out j' hij (by have := hl.out; omega)
            · exact hD.out i j' (by omega) hij hjl
          case measure => simp [intOf]; omega
    · go_wp2
      go_ret
      exact ⟨true, rfl, (fun _ i j hi hij hjl => hD.out i j (by have := hl.out; omega) hij hjl), rfl⟩
end Go.Proofs.Qxb6003432a.FindB
