import Derived.Test.Qxb6003469aBitA
namespace Go.Proofs.Qxb6003469a.ShA
open Go.ChangeShapes Go.WideShapes Go.ChangeAt Go.RowKit
open Go.Proofs.Qxb6003469a.BitA
set_option linter.unusedVariables false

def StrRow (w : World) (a : Option Addr) (ss : List ByteArray) : Prop :=
  ∀ k (h : k < ss.length), ∃ b off, a = some ⟨b, off, none⟩ ∧ w.cell? ⟨b, off + k, none⟩ = some (.string ss[k])
theorem strB {w w' : World} {a : Option Addr} {ss : List ByteArray} {B : Nat} (h : StrRow w a ss) (hb : Below B w w') (hB : w.heap.size ≤ B) : StrRow w' a ss := by
  intro k hk
  obtain ⟨b, off, e, hc⟩ := h k hk
  exact ⟨b, off, e, cellB hb (Nat.lt_of_lt_of_le (cell_lt hc) hB) hc⟩

/-- A label as it is written: its length, its octets. -/
def lab (s : ByteArray) : List UInt8 := UInt8.ofNat s.size :: s.data.toList
theorem lab_len (s : ByteArray) : (lab s).length = 1 + s.size := by simp only [lab, List.length_cons, Array.length_toList]; show s.size + 1 = _; omega
def encL : List ByteArray → List UInt8
  | [] => []
  | s :: r => lab s ++ encL r
theorem encL_snoc (s : ByteArray) : ∀ L : List ByteArray, encL (L ++ [s]) = encL L ++ lab s
  | [] => by simp [encL]
  | x :: r => by simp [encL, encL_snoc s r]
theorem take_snoc {α : Type} (l : List α) (k : Nat) (h : k < l.length) : l.take (k + 1) = l.take k ++ [l[k]] := List.take_succ_eq_append_getElem h
theorem encL_take (L : List ByteArray) (k : Nat) (h : k < L.length) : (encL (L.take (k + 1))).length = (encL (L.take k)).length + (1 + L[k].size) := by
  rw [take_snoc L k h, encL_snoc, List.length_append, lab_len]
theorem encL_bound : ∀ (L : List ByteArray), (∀ s ∈ L, s.size ≤ 255) → (encL L).length ≤ 256 * L.length
  | [], _ => by simp [encL]
  | s :: r, h => by
    have := encL_bound r (fun x hx => h x (by simp [hx]))
    have h2 := h s (by simp)
    simp only [encL, List.length_append, lab_len, List.length_cons]; omega

theorem str_ne {x y : ByteArray} (h : x ≠ y) : (x.toList == y.toList) = false := by
  rw [← beq_toListBytes]; exact Bool.eq_false_iff.2 (fun e => h ((MapKept.bytes_beq x y).1 e))
theorem str_eq {x y : ByteArray} (h : x = y) : (x.toList == y.toList) = true := by subst h; simp

theorem bytes15_any (A T : ByteArray) (a1 a3 : Option Addr) (n1 c1 n3 c3 : Nat) (F M : List ByteArray) (h1 : F.length = n1) (m1 : n1 ≤ maxLen) (h3 : M.length = n3) (m3 : n3 ≤ maxLen) (w : World) (r1 : StrRow w a1 F) (r3 : StrRow w a3 M) :
    Calls Try.prog 15 #[.string A, .slice a1 n1 c1, .slice a3 n3 c3, .string T] w fun e w' => RetB w e w' := by
  unfold maxLen at m1 m3
  have H1 := hide h1
  have H3 := hide h3
  have R1 := hide r1
  have R3 := hide r3
  clear r1 r3 h1 h3
  go_enter Try.func15, Try.ntmps15
  go_wp2
  all_goals try (go_ret; exact ⟨_, rfl, rfl⟩)
  go_loop [9, 10] (fun t i => ∃ k : Nat, k ≤ n1 ∧ i = .int .i64 k ∧ ∃ z : Int, t = .int .i64 z) (fun _ i => n1 - (intOf i).toNat)
  case atStart => exact ⟨0, Nat.zero_le _, rfl, _, rfl⟩
  case round =>
    obtain ⟨k, hk, rfl, z, rfl⟩ := hrel
    by_cases hlt : k < n1
    · obtain ⟨b, off, rfl, hcell⟩ := R1.out k (by rw [H1.out]; exact hlt)
      generalize F[k]'(by rw [H1.out]; exact hlt) = s at hcell
      go_wp2
      · go_ret
        exact ⟨_, rfl, rfl⟩
      · go_ret
        exact ⟨_, rfl, rfl⟩
      · go_round
        case rel => exact ⟨k + 1, by omega, by go_num, _, rfl⟩
        case measure => simp [intOf]; omega
    · go_wp2
      all_goals try (go_ret; exact ⟨_, rfl, rfl⟩)
      go_loop [9, 11] (fun t i => ∃ k : Nat, k ≤ n3 ∧ i = .int .i64 k ∧ ∃ z : Int, t = .int .i64 z) (fun _ i => n3 - (intOf i).toNat)
      case atStart => exact ⟨0, Nat.zero_le _, rfl, _, rfl⟩
      case round =>
        obtain ⟨j, hj, rfl, y, rfl⟩ := hrel
        by_cases hlj : j < n3
        · obtain ⟨b, off, rfl, hcell⟩ := R3.out j (by rw [H3.out]; exact hlj)
          generalize M[j]'(by rw [H3.out]; exact hlj) = s at hcell
          go_wp2
          · go_ret
            exact ⟨_, rfl, rfl⟩
          · go_ret
            exact ⟨_, rfl, rfl⟩
          · go_round
            case rel => exact ⟨j + 1, by omega, by go_num, _, rfl⟩
            case measure => simp [intOf]; omega
        · go_wp2
          all_goals (go_ret; exact ⟨_, rfl, rfl⟩)

/-- What the domain's guard tells where it lets the input by. -/
def DomPost (A T : ByteArray) (F M : List ByteArray) (w : World) (e : Ending) (w' : World) : Prop :=
  ∃ b : Bool, e = .returned (.bool b) ∧ (b = false → (A.size ≤ 1048576 ∧ T.size ≤ 1048576 ∧ F.length ≤ 65536 ∧ M.length ≤ 65536) ∧ (∀ s ∈ F, s.size ≤ 255) ∧ (∀ s ∈ M, s.size ≤ 255) ∧ (encL M).length ≤ 65535) ∧ w' = w

theorem all_of {F : List ByteArray} (h : ∀ j (hj : j < F.length), j < F.length → F[j].size ≤ 255) : ∀ s ∈ F, s.size ≤ 255 := by
  intro s hs
  obtain ⟨j, hj, rfl⟩ := List.getElem_of_mem hs
  exact h j hj hj

set_option maxHeartbeats 1000000 in
theorem dom_any (A T : ByteArray) (a1 a3 : Option Addr) (n1 c1 n3 c3 : Nat) (F M : List ByteArray) (h1 : F.length = n1) (h3 : M.length = n3) (w : World) (r1 : StrRow w a1 F) (r3 : StrRow w a3 M) :
    Calls Try.prog 16 #[.string A, .slice a1 n1 c1, .slice a3 n3 c3, .string T] w fun e w' => DomPost A T F M w e w' := by
  have H1 := hide h1
  have H3 := hide h3
  have R1 := hide r1
  have R3 := hide r3
  clear r1 r3 h1 h3
  by_cases g1 : (1048576 : Int) < (A.size : Int)
  · go_enter Try.func16, Try.ntmps16
    go_wp2
    go_ret
    exact ⟨true, rfl, (fun h => by cases h), rfl⟩
  by_cases g2 : (1048576 : Int) < (T.size : Int)
  · go_enter Try.func16, Try.ntmps16
    go_wp2
    go_ret
    exact ⟨true, rfl, (fun h => by cases h), rfl⟩
  by_cases g3 : (65536 : Int) < (n1 : Int)
  · go_enter Try.func16, Try.ntmps16
    go_wp2
    go_ret
    exact ⟨true, rfl, (fun h => by cases h), rfl⟩
  by_cases g4 : (65536 : Int) < (n3 : Int)
  · go_enter Try.func16, Try.ntmps16
    go_wp2
    go_ret
    exact ⟨true, rfl, (fun h => by cases h), rfl⟩
  have d1 : decide ((1048576 : Int) < (A.size : Int)) = false := decide_eq_false g1
  have d2 : decide ((1048576 : Int) < (T.size : Int)) = false := decide_eq_false g2
  have d3 : decide ((65536 : Int) < (n1 : Int)) = false := decide_eq_false g3
  have d4 : decide ((65536 : Int) < (n3 : Int)) = false := decide_eq_false g4
  go_enter Try.func16, Try.ntmps16
  go_wp2
  go_loop [9, 10] (fun t i => ∃ k : Nat, k ≤ n1 ∧ i = .int .i64 k ∧ Hid (∀ j (h : j < F.length), j < k → F[j].size ≤ 255) ∧ ∃ z : Int, (0 ≤ z ∧ z ≤ 4194304 + 271 * (k : Int)) ∧ t = .int .i64 z) (fun _ i => n1 - (intOf i).toNat)
  case atStart => exact ⟨0, Nat.zero_le _, rfl, (fun j _ h => absurd h (Nat.not_lt_zero _)), _, ⟨by omega, by omega⟩, rfl⟩
  case round =>
    obtain ⟨k, hk, rfl, hS, z, ⟨hz0, hz1⟩, rfl⟩ := hrel
    by_cases hlt : k < n1
    · have hkF : k < F.length := by rw [H1.out]; exact hlt
      obtain ⟨b, off, rfl, hcell⟩ := R1.out k hkF
      by_cases hs : (255 : Int) < (F[k].size : Int)
      · generalize F[k] = s at *
        go_wp2
        go_ret
        exact ⟨true, rfl, (fun h => by cases h), rfl⟩
      · have HS : Hid (F[k].size ≤ 255) := by show _ ≤ _; omega
        generalize hsk : F[k] = s at *
        have HK := hide hsk
        clear hsk
        go_wp2
        go_round
        case rel =>
          refine ⟨k + 1, by omega, by go_num, fun j hj hjk => ?_, _, ⟨?_, ?_⟩, rfl⟩
          · by_cases e : j = k
            · subst e; rw [HK.out]; exact HS.out
            · exact hS.out j hj (by omega)
          · omega
          · omega
        case measure => simp [intOf]; omega
    · have hkk : decide (k < n1) = false := decide_eq_false hlt
      have hSF : Hid (∀ s ∈ F, s.size ≤ 255) := all_of (fun j hj _ => hS.out j hj (by have := H1.out; omega))
      have hz2 : z ≤ 22020096 := by omega
      clear hz1 hS
      go_wp2
      go_loop [9, 11, 12] (fun t dd i => ∃ j : Nat, j ≤ n3 ∧ i = .int .i64 j ∧ Hid (∀ q (h : q < M.length), q < j → M[q].size ≤ 255) ∧ (∃ z : Int, (0 ≤ z ∧ z ≤ 22020096 + 271 * (j : Int)) ∧ t = .int .i64 z) ∧ ∃ d : Nat, (d ≤ 256 * j) ∧ Hid (d = (encL (M.take j)).length) ∧ dd = .int .i64 d) (fun _ _ i => n3 - (intOf i).toNat)
      case atStart => exact ⟨0, Nat.zero_le _, rfl, (fun j _ h => absurd h (Nat.not_lt_zero _)), ⟨_, ⟨by omega, by omega⟩, rfl⟩, 0, Nat.le_refl _, rfl, rfl⟩
      case round =>
        obtain ⟨j, hj, rfl, hS, ⟨y, ⟨hy0, hy1⟩, rfl⟩, d, hd0, hd, rfl⟩ := hrel
        by_cases hlj : j < n3
        · have hkM : j < M.length := by rw [H3.out]; exact hlj
          obtain ⟨b, off, rfl, hcell⟩ := R3.out j hkM
          by_cases hs : (255 : Int) < (M[j].size : Int)
          · generalize M[j] = s at *
            go_wp2
            go_ret
            exact ⟨true, rfl, (fun h => by cases h), rfl⟩
          · have HS : Hid (M[j].size ≤ 255) := by show _ ≤ _; omega
            have HD' : Hid (d + (1 + M[j].size) = (encL (M.take (j + 1))).length) := by show _ = _; rw [encL_take M j hkM, hd.out]
            generalize hsk : M[j] = s at *
            have HK := hide hsk
            clear hsk
            go_wp2
            go_round
            case rel =>
              refine ⟨j + 1, by omega, by go_num, (fun q hq hqj => ?_), ⟨_, ⟨?_, ?_⟩, rfl⟩, d + (1 + s.size), ?_, HD', by go_num⟩
              · by_cases e : q = j
                · subst e; rw [HK.out]; exact HS.out
                · exact hS.out q hq (by omega)
              · omega
              · omega
              · omega
            case measure => simp [intOf]; omega
        · have hSM : Hid (∀ s ∈ M, s.size ≤ 255) := all_of (fun q hq _ => hS.out q hq (by have := H3.out; omega))
          have hdM : Hid (d = (encL M).length) := by
            show _ = _
            rw [hd.out, List.take_of_length_le (by have := H3.out; omega)]
          by_cases k1 : (1048576 : Int) < y
          · go_wp2
            go_ret
            exact ⟨true, rfl, (fun h => by cases h), rfl⟩
          by_cases k2 : (65535 : Int) < (d : Int)
          · go_wp2
            go_ret
            exact ⟨true, rfl, (fun h => by cases h), rfl⟩
          · go_wp2
            go_ret
            refine ⟨false, ?_, fun _ => ⟨⟨by omega, by omega, by rw [H1.out]; omega, by rw [H3.out]; omega⟩, hSF.out, hSM.out, by rw [← hdM.out]; omega⟩, rfl⟩
            simp
end Go.Proofs.Qxb6003469a.ShA
