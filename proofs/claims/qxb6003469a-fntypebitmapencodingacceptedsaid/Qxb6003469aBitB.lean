import Derived.Test.Qxb6003469aBitA
namespace Go.Proofs.Qxb6003469a.BitB
open Go.ChangeShapes Go.WideShapes Go.ChangeAt Go.RowKit
open Go.Proofs.Qxb6003469a.BitA
set_option linter.unusedVariables false

/-- Blocks as section 4.1.2 writes them: the number, the map's length, the map. -/
def enc : List (Int × List Int) → List Int
  | [] => []
  | (b, ms) :: r => b :: (ms.length : Int) :: (ms ++ enc r)
/-- Blocks in increasing order after p, each map of 1 to 32 octets, its last one not 0. -/
def Good : Int → List (Int × List Int) → Prop
  | _, [] => True
  | p, (b, ms) :: r => (p < b ∧ 0 ≤ b ∧ b ≤ 255) ∧ (1 ≤ ms.length ∧ ms.length ≤ 32 ∧ ms.getD (ms.length - 1) 0 ≠ 0) ∧ Good b r

theorem getD_cons2 (x y : Int) (l : List Int) (i : Nat) : (x :: y :: l).getD (i + 2) 0 = l.getD i 0 := rfl
theorem getD_left (l r : List Int) (i : Nat) (h : i < l.length) : (l ++ r).getD i 0 = l.getD i 0 := by
  rw [List.getD_eq_getElem?_getD, List.getD_eq_getElem?_getD, List.getElem?_append_left h]
theorem getD_right (l r : List Int) (i : Nat) : (l ++ r).getD (l.length + i) 0 = r.getD i 0 := by
  rw [List.getD_eq_getElem?_getD, List.getD_eq_getElem?_getD, List.getElem?_append_right (by omega), Nat.add_sub_cancel_left]
theorem row_pos {q : IntKind} {w : World} {a : Option Addr} {zs : List Int} (h : KRow q w a zs) (h0 : 0 < zs.length) : ∃ b off, a = some ⟨b, off, none⟩ ∧ ∀ k, k < zs.length → w.cell? ⟨b, off + k, none⟩ = some (.int q (zs.getD k 0)) := by
  obtain ⟨b, off, e, _⟩ := h 0 h0
  refine ⟨b, off, e, fun k hk => ?_⟩
  obtain ⟨b', off', e', hc⟩ := h k hk
  rw [e] at e'
  obtain ⟨rfl, rfl⟩ : b = b' ∧ off = off' := by simpa using e'
  rw [hc, List.getD_eq_getElem?_getD, List.getElem?_eq_getElem hk]; rfl

set_option maxHeartbeats 400000 in
theorem valid_any (a : Option Addr) (n c : Nat) (bl : List (Int × List Int)) (hn : (enc bl).length = n) (hm : n ≤ 1048576) (hnc : n ≤ c) (hc : c ≤ maxLen) (w : World) (hr : KRow .u8 w a (enc bl)) (hg : Good (-1) bl) :
    Calls Try.prog 32 #[.agg #[.int .i64 0], .slice a n c] w fun e w' => e = .returned (.bool true) ∧ Below w.heap.size w w' := by
  unfold maxLen at hc
  have HN := hide hn
  have HR := hide hr
  have HG := hide hg
  clear hn hr hg
  go_enter Try.func32, Try.ntmps32
  go_wp2
  go_loopw [1, 5] (fun d p wr => ∃ (a : Option Addr) (n c : Nat) (pv : Int) (bl : List (Int × List Int)), d = .slice a n c ∧ p = .int .i64 pv ∧ (n ≤ 1048576 ∧ n ≤ c ∧ c ≤ 9223372036854775807 ∧ -1 ≤ pv ∧ pv ≤ 255) ∧ Hid ((enc bl).length = n ∧ KRow .u8 wr a (enc bl) ∧ Good pv bl) ∧ Hid (Below w.heap.size w wr))
    (fun d _ _ => match d with | .slice _ n _ => n | _ => 0)
  case atStart => exact ⟨a, n, c, -1, bl, rfl, rfl, ⟨hm, hnc, by omega, by omega, by omega⟩, ⟨HN.out, rowB HR.out ((Below.refl _ _).alloc (Nat.le_refl _) _) (Nat.le_refl _), HG.out⟩, (Below.refl _ _).alloc (Nat.le_refl _) _⟩
  case round =>
    clear HR HG HN hm hnc hc
    obtain ⟨a, n, c, pv, bl, rfl, rfl, ⟨hm, hnc, hc, hp1, hp2⟩, HH, hB⟩ := hrel
    cases bl with
    | nil =>
      have h0 : n = 0 := by have := HH.out.1; simp [enc] at this; omega
      subst h0
      go_wp2
      go_ret
      exact ⟨rfl, hB.out⟩
    | cons p r =>
      obtain ⟨b, ms⟩ := p
      obtain ⟨hl, hrow, ⟨g1, g2, g3⟩, ⟨g4, g5, g6⟩, g7⟩ := HH.out
      simp only [enc, List.length_cons, List.length_append] at hl
      obtain ⟨bb, off, rfl, hcell⟩ := row_pos hrow (by simp [enc])
      have d0 : wr.cell? ⟨bb, off, none⟩ = some (.int .u8 b) := hcell 0 (by simp [enc])
      have d1 : wr.cell? ⟨bb, off + 1, none⟩ = some (.int .u8 (ms.length : Int)) := hcell 1 (by simp [enc])
      obtain ⟨lz, hlz⟩ : ∃ lz, lz = ms.getD (ms.length - 1) 0 := ⟨_, rfl⟩
      have d2 : wr.cell? ⟨bb, off + (1 + ms.length), none⟩ = some (.int .u8 lz) := by
        rw [hcell (1 + ms.length) (by simp [enc]; omega), hlz]
        obtain ⟨m, hm'⟩ : ∃ m, ms.length = m + 1 := ⟨ms.length - 1, by omega⟩
        rw [show 1 + ms.length = m + 2 by omega, show ms.length - 1 = m by omega]
        simp only [enc]
        rw [getD_cons2, getD_left _ _ _ (by omega)]
      have hlz0 : (lz == 0) = false := beq_eq_false_iff_ne.2 (by rw [hlz]; exact g6)
      have HH2 : Hid ((enc r).length = n - (2 + ms.length) ∧ Good b r) := ⟨by omega, g7⟩
      have hcell2 : Hid (∀ k, k < (enc r).length → wr.cell? ⟨bb, off + (2 + ms.length) + k, none⟩ = some (.int .u8 ((enc r).getD k 0))) := by
        intro k hk
        rw [show off + (2 + ms.length) + k = off + (2 + ms.length + k) by omega, hcell (2 + ms.length + k) (by simp [enc]; omega)]
        rw [show 2 + ms.length + k = (ms.length + k) + 2 by omega]
        simp only [enc]
        rw [getD_cons2, getD_right]
      have hn2 : 2 + ms.length ≤ n := by omega
      clear hcell g6 hlz HH hrow
      generalize ms.length = m at *
      go_wp2
      go_quiet (fail)
      go_wp2
      go_quiet (fail)
      go_wp2
      refine ⟨⟨_, _, _, b, r, rfl, rfl, ⟨by omega, by omega, by omega, by omega, g3⟩, ⟨HH2.out.1, ?_, HH2.out.2⟩, below_drewN (below_drewN hB.out _) _⟩, ?_⟩
      · intro k hk
        have hl := HH2.out.1
        refine ⟨bb, off + (2 + m), if_neg (by omega), ?_⟩
        rw [World.cell?_drewN, World.cell?_drewN, hcell2.out k hk, List.getD_eq_getElem?_getD, List.getElem?_eq_getElem hk]; rfl
      · show n - (2 + m) < n
        omega

theorem zzvalid_any (a : Option Addr) (n c : Nat) (bl : List (Int × List Int)) (hn : (enc bl).length = n) (hm : n ≤ 1048576) (hnc : n ≤ c) (hc : c ≤ maxLen) (w : World) (hr : KRow .u8 w a (enc bl)) (hg : Good (-1) bl) :
    Calls Try.prog 26 #[.slice a n c] w fun e w' => e = .returned (.bool true) ∧ Below w.heap.size w w' := by
  have CV := hide (valid_any a n c bl hn hm hnc hc w hr hg)
  clear hr hg hn
  go_enter Try.func26, Try.ntmps26
  go_wp2_with fail
  refine CV.out.mono ?_
  rintro e w1 ⟨rfl, hb⟩
  go_wp2
  go_ret
  exact ⟨rfl, hb⟩
end Go.Proofs.Qxb6003469a.BitB
