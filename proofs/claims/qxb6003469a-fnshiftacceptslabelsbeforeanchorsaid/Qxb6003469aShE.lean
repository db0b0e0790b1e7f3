import Derived.Test.Qxb6003469aShD
import Derived.Laws.IdiomStrings
import Derived.Deep.Draws
namespace Go.Proofs.Qxb6003469a.ShE
open Go.ChangeShapes Go.WideShapes Go.ChangeAt Go.RowKit
open Go.Proofs.Qxb6003469a.BitA
open Go.Proofs.Qxb6003469a.ShA
open Go.Proofs.Qxb6003469a.ShB
open Go.Proofs.Qxb6003469a.ShC
open Go.Proofs.Qxb6003469a.ShD
set_option linter.unusedVariables false

/-! ### octets in memory -/
theorem UB.left {w : World} {g o : Nat} {l r : List UInt8} (h : UB w g o (l ++ r)) : UB w g o l := by
  intro i hi
  have := h i (by simp; omega)
  rw [List.getElem_append_left hi] at this
  exact this
theorem UB.right {w : World} {g o : Nat} {l r : List UInt8} (h : UB w g o (l ++ r)) : UB w g (o + l.length) r := by
  intro i hi
  have := h (l.length + i) (by simp; omega)
  rw [List.getElem_append_right (by omega)] at this
  simp only [Nat.add_sub_cancel_left] at this
  rw [Nat.add_assoc]; exact this
theorem encL_app : ∀ (a b : List ByteArray), encL (a ++ b) = encL a ++ encL b
  | [], b => rfl
  | s :: r, b => by simp [encL, encL_app r b]
theorem encL_at (L : List ByteArray) (k : Nat) (h : k < L.length) : encL L = encL (L.take k) ++ (lab L[k] ++ encL (L.drop (k + 1))) := by
  conv => lhs; rw [← List.take_append_drop k L, encL_app, List.drop_eq_getElem_cons h]
  rfl
/-- The octets of label k. -/
theorem UB.label {w : World} {g o : Nat} {L : List ByteArray} (h : UB w g o (encL L)) (k : Nat) (hk : k < L.length) : UB w g (o + (encL (L.take k)).length) (lab L[k]) := by
  rw [encL_at L k hk] at h
  exact UB.left (UB.right h)
theorem UB.head {w : World} {g o : Nat} {s : ByteArray} (h : UB w g o (lab s)) (hs : s.size ≤ 255) : w.cell? ⟨g, o, none⟩ = some (.int .u8 (s.size : Int)) := by
  have := h 0 (by rw [lab_len]; omega)
  have e : (UInt8.ofNat s.size).toNat = s.size := by rw [UInt8.toNat_ofNat']; omega
  simpa [lab, e] using this
theorem offL_at : ∀ (M : List ByteArray) (o j : Nat) (h : j < (offL o M).length), (offL o M)[j] = o + (encL (M.take j)).length
  | s :: r, o, 0, _ => by simp [offL, encL]
  | s :: r, o, j + 1, h => by
    simp only [offL, List.getElem_cons_succ, List.take_succ_cons, encL, List.length_append, lab_len]
    rw [offL_at r _ j (by simpa [offL] using h)]; omega

/-- The string that a row of octets makes. -/
theorem conv_bytes {w : World} {g o : Nat} {l : List UInt8} (h : UB w g o l) (n c : Nat) (hn : l.length = n) (k : Nat) : (convert 32 9 (.slice (some ⟨g, o, none⟩) n c)).run Try.prog (w.drewN k) = .ok (.string ⟨l.toArray⟩) (w.drewN k) := by
  subst hn
  refine run_convert_bytes_back (P := Try.prog) (w.drewN k) 32 9 5 ⟨g, o, none⟩ c l Try.underlying32 Try.underlying5 Try.underlying9 (fun j hj => ?_)
  rw [World.cell?_drewN, add_plain]; exact h j hj
theorem conv_none {w : World} (a : Addr) (c k : Nat) : (convert 32 9 (.slice (some a) 0 c)).run Try.prog (w.drewN k) = .ok (.string ⟨#[]⟩) (w.drewN k) := by
  have := run_convert_bytes_back (P := Try.prog) (w.drewN k) 32 9 5 a c [] Try.underlying32 Try.underlying5 Try.underlying9 (fun j hj => absurd hj (Nat.not_lt_zero _))
  simpa using this
theorem lab_inj {s t : ByteArray} (h : s ≠ t) : (⟨(lab s).toArray⟩ : ByteArray) ≠ ⟨(lab t).toArray⟩ := by
  intro e
  have e1 : (lab s).toArray = (lab t).toArray := congrArg ByteArray.data e
  have e2 : lab s = lab t := by simpa using e1
  simp only [lab, List.cons.injEq] at e2
  exact h (ByteArray.ext (Array.toList_inj.1 e2.2))
theorem str_data (A : ByteArray) : (⟨A.data.toList.toArray⟩ : ByteArray) = A := by cases A; simp

/-- What the two structs that shift reads hold. -/
structure ShIn (w : World) (Fb Bb : Nat) (A : ByteArray) (gd md go nb gq nq C : Nat) (qn : Int) : Prop where
  f0 : w.cell? ⟨Fb, 0, none⟩ = some (.string A)
  f1 : w.cell? ⟨Fb, 1, none⟩ = some (.slice (some ⟨gd, 0, none⟩) md md)
  f5 : w.cell? ⟨Fb, 5, none⟩ = some (.slice (some ⟨go, 0, none⟩) nb nb)
  b0 : w.cell? ⟨Bb, 0, none⟩ = some (.slice (some ⟨gq, 0, none⟩) nq C)
  b3 : w.cell? ⟨Bb, 3, none⟩ = some (.int .u16 1)
  b4 : w.cell? ⟨Bb, 4, none⟩ = some (.int .u16 0)
  b5 : w.cell? ⟨Bb, 5, none⟩ = some (.int .u16 0)
  b6 : w.cell? ⟨Bb, 6, none⟩ = some (.int .u16 0)
  b14 : w.cell? ⟨Bb, 14, none⟩ = some (.int .i64 qn)

theorem eq41 (w : World) : (Op.equalIn 10000 41 (.agg #[.int .u16 1, .int .u16 0, .int .u16 0, .int .u16 0]) (.agg #[.int .u16 1, .int .u16 0, .int .u16 0, .int .u16 0])).run Try.prog w = .ok true w := by kernel_rfl

end Go.Proofs.Qxb6003469a.ShE
