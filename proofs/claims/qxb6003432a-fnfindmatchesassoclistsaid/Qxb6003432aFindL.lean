import Derived.Test.Qxb6003432aFindG
namespace Go.Proofs.Qxb6003432a.FindL
open Go.ChangeShapes Go.WideShapes Go.ChangeAt Go.RowKit
open Go.Proofs.Qxb6003432a.FindA
open Go.Proofs.Qxb6003432a.FindB
open Go.Proofs.Qxb6003432a.FindC
open Go.Proofs.Qxb6003432a.FindD
open Go.Proofs.Qxb6003432a.FindE
open Go.Proofs.Qxb6003432a.FindG
set_option linter.unusedVariables false

/-! ### the plain law -/
theorem dist_app {F M : List ByteArray} (h : Dist (F ++ M) (F ++ M).length) : (∀ i j (hi : i < F.length) (hj : j < F.length), i < j → F[i] ≠ F[j]) ∧ (∀ i j (hi : i < F.length) (hj : j < M.length), F[i] ≠ M[j]) ∧ (∀ i j (hi : i < M.length) (hj : j < M.length), i < j → M[i] ≠ M[j]) := by
  refine ⟨fun i j hi hj hij e => ?_, fun i j hi hj e => ?_, fun i j hi hj hij e => ?_⟩
  · refine h i j (by simp; omega) hij (by simp; omega) ?_
    rw [List.getElem?_append_left hi, List.getElem?_append_left hj, List.getElem?_eq_getElem hi, List.getElem?_eq_getElem hj, e]
  · refine h i (F.length + j) (by simp; omega) (by omega) (by simp; omega) ?_
    rw [List.getElem?_append_left hi, List.getElem?_append_right (by omega), Nat.add_sub_cancel_left, List.getElem?_eq_getElem hi, List.getElem?_eq_getElem hj, e]
  · refine h (F.length + i) (F.length + j) (by simp; omega) (by omega) (by simp; omega) ?_
    rw [List.getElem?_append_right (by omega), List.getElem?_append_right (by omega), Nat.add_sub_cancel_left, Nat.add_sub_cancel_left, List.getElem?_eq_getElem hi, List.getElem?_eq_getElem hj, e]

theorem fv_few {F M : List ByteArray} {fa ma : List Int} (h : Dist (F ++ M) (F ++ M).length) (hfa : fa.length = F.length) (k : Nat) (hk : k < F.length) : fv F fa M ma F[k] = (fa[k]'(by omega), true) := by
  have hd := (dist_app h).1
  rw [fv, out, firstAt_hit F[k] F fa k hk (by omega) rfl (fun j hj hjk => hd j k hj hk hjk)]

theorem lastAt_hit {M : List ByteArray} {ma : List Int} (h : ∀ i j (hi : i < M.length) (hj : j < M.length), i < j → M[i] ≠ M[j]) (hma : ma.length = M.length) (k : Nat) (hk : k < M.length) : ∀ n, k < n → n ≤ M.length → lastAt M ma n M[k] = some (ma[k]'(by omega))
  | 0, h0, _ => by omega
  | n + 1, h0, h1 => by
    by_cases e : k = n
    · subst e
      simp only [lastAt, List.getElem?_eq_getElem hk, if_true]
      rw [List.getD_eq_getElem?_getD, List.getElem?_eq_getElem (by omega)]; rfl
    · have ne : M[n]? ≠ some M[k] := by
        rw [List.getElem?_eq_getElem (by omega)]
        exact fun e' => h k n hk (by omega) (by omega) (Option.some.inj e').symm
      simp only [lastAt, if_neg ne]
      exact lastAt_hit h hma k hk n (by omega) (by omega)

theorem fv_many {F M : List ByteArray} {fa ma : List Int} (h : Dist (F ++ M) (F ++ M).length) (hma : ma.length = M.length) (k : Nat) (hk : k < M.length) : fv F fa M ma M[k] = (ma[k]'(by omega), true) := by
  have hd := dist_app h
  rw [fv, out, firstAt_none M[k] F fa (fun j hj => hd.2.1 j k hj hk), lastAt_hit hd.2.2 hma k hk M.length hk (Nat.le_refl _)]
  rfl

/-! ### rows stay -/
theorem strB {w w' : World} {a : Option Addr} {ss : List ByteArray} {B : Nat} (h : StrRow w a ss) (hb : Below B w w') (hB : w.heap.size ≤ B) : StrRow w' a ss := by
  intro k hk
  obtain ⟨b, off, e, hc⟩ := h k hk
  exact ⟨b, off, e, cellB hb (Nat.lt_of_lt_of_le (cell_lt hc) hB) hc⟩
theorem intB {w w' : World} {a : Option Addr} {ss : List Int} {B : Nat} (h : IntRow w a ss) (hb : Below B w w') (hB : w.heap.size ≤ B) : IntRow w' a ss := by
  intro k hk
  obtain ⟨b, off, e, hc⟩ := h k hk
  exact ⟨b, off, e, cellB hb (Nat.lt_of_lt_of_le (cell_lt hc) hB) hc⟩
theorem strSome {w : World} {a : Option Addr} {ss : List ByteArray} (h : StrRow w a ss) (e : a = none) : ss.length = 0 := by
  by_cases h0 : ss.length = 0
  · exact h0
  · obtain ⟨b, off, e', _⟩ := h 0 (by omega)
    rw [e] at e'; cases e'

def ClSn (n : Nat) (ss : List ByteArray) (w : World) (e : Ending) (w' : World) : Prop := ∃ a c, e = .returned (.slice a n c) ∧ StrRow w' a ss ∧ Below w.heap.size w w'
def ClIn (n : Nat) (zs : List Int) (w : World) (e : Ending) (w' : World) : Prop := ∃ a c, e = .returned (.slice a n c) ∧ IntRow w' a zs ∧ Below w.heap.size w w'
theorem cloneS (a : Option Addr) (n c : Nat) (ss : List ByteArray) (hn : ss.length = n) (hm : n ≤ 1048576) (w : World) (hr : StrRow w a ss) (h0 : a = none → n = 0 ∧ c = 0) :
    Calls Try.prog 28 #[.slice a n c] w fun e w' => ClSn n ss w e w' := by
  refine (cloneStrings_any a n c ss hn hm w hr h0).mono ?_
  rintro e w' ⟨a', c', rfl, h1, h2⟩
  exact ⟨a', c', by rw [hn], h1, h2⟩
theorem cloneI (a : Option Addr) (n c : Nat) (ss : List Int) (hn : ss.length = n) (hm : n ≤ 1048576) (w : World) (hr : IntRow w a ss) (h0 : a = none → n = 0 ∧ c = 0) :
    Calls Try.prog 29 #[.slice a n c] w fun e w' => ClIn n ss w e w' := by
  refine (cloneInts_any a n c ss hn hm w hr h0).mono ?_
  rintro e w' ⟨a', c', rfl, h1, h2⟩
  exact ⟨a', c', by rw [hn], h1, h2⟩
end Go.Proofs.Qxb6003432a.FindL
