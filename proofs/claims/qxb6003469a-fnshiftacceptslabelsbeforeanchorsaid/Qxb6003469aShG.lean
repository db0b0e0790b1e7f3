import Derived.Test.Qxb6003469aShF
import Derived.Handy
namespace Go.Proofs.Qxb6003469a.ShG
open Go.ChangeShapes Go.WideShapes Go.ChangeAt Go.RowKit
open Go.Proofs.Qxb6003469a.BitA
open Go.Proofs.Qxb6003469a.ShA
open Go.Proofs.Qxb6003469a.ShB
open Go.Proofs.Qxb6003469a.ShC
open Go.Proofs.Qxb6003469a.ShD
open Go.Proofs.Qxb6003469a.ShE
open Go.Proofs.Qxb6003469a.ShF
set_option linter.unusedVariables false

theorem UB.below {w w' : World} {B g o : Nat} {l : List UInt8} (h : UB w g o l) (hb : Below B w w') (hB : w.heap.size ≤ B) : UB w' g o l :=
  fun i hi => cellB hb (Nat.lt_of_lt_of_le (cell_lt (h i hi)) hB) (h i hi)
theorem OB.below {w w' : World} {B g : Nat} {l : List Nat} (h : OB w g l) (hb : Below B w w') (hB : w.heap.size ≤ B) : OB w' g l :=
  fun i hi => cellB hb (Nat.lt_of_lt_of_le (cell_lt (h i hi)) hB) (h i hi)
theorem below_drewN {B : Nat} {a w : World} (h : Below B a w) : ∀ k, Below B a (w.drewN k) := fun k => ⟨h.os, h.tape, h.output, h.size, h.block⟩
/-- A cell of the block before the newest. -/
theorem cell_prev {w : World} {o : Obj} {cs : Array Value} {t : TypeId} (i : Nat) {v : Value} (h : cs[i]? = some v) : ((w.alloc (.cells cs t)).alloc o).cell? ⟨w.heap.size, i, none⟩ = some v := by
  rw [World.cell?_alloc_past _ _ _ (by simp), World.cell?_alloc_at _ _ _ _ rfl]; exact h
theorem cell_last {w : World} {cs : Array Value} {t : TypeId} (n i : Nat) {v : Value} (hn : n = w.heap.size) (h : cs[i]? = some v) : (w.alloc (.cells cs t)).cell? ⟨n, i, none⟩ = some v := by
  rw [World.cell?_alloc_at _ _ _ _ hn]; exact h
theorem shIn_of (W : World) (A : ByteArray) (gd md go nb gq nB C : Nat) (Q : Int) (n1 n2 : Nat) (h1 : n1 = W.heap.size) (h2 : n2 = W.heap.size + 1) :
    ShIn ((W.alloc (.cells #[.string A, .slice (some ⟨gd, 0, none⟩) md md, .int .i64 0, .slice none 0 0, .slice none 0 0, .slice (some ⟨go, 0, none⟩) nb nb, .bool false] 54)).alloc
      (.cells #[.slice (some ⟨gq, 0, none⟩) nB C, .int .i64 0, .int .i64 0, .int .u16 1, .int .u16 0, .int .u16 0, .int .u16 0, .int .u16 0, .int .u8 0, .bool false, .bool false, .int .u8 0, .slice none 0 0, .slice none 0 0, .int .i64 Q, .bool false, .bool false, .slice none 0 0] 65))
      n1 n2 A gd md go nb gq nB C Q := by
  subst h1
  have e : n2 = (W.alloc (.cells #[.string A, .slice (some ⟨gd, 0, none⟩) md md, .int .i64 0, .slice none 0 0, .slice none 0 0, .slice (some ⟨go, 0, none⟩) nb nb, .bool false] 54)).heap.size := by rw [h2]; simp
  exact ⟨cell_prev 0 rfl, cell_prev 1 rfl, cell_prev 5 rfl, cell_last _ 0 e rfl, cell_last _ 3 e rfl, cell_last _ 4 e rfl, cell_last _ 5 e rfl, cell_last _ 6 e rfl, cell_last _ 14 e rfl⟩

theorem three (w : World) (a b c : Obj) : Below w.heap.size w (((w.alloc a).alloc b).alloc c) := (((Below.refl _ _).alloc (Nat.le_refl _) _).alloc (by simp) _).alloc (by simp; omega) _

set_option maxHeartbeats 1000000 in
theorem zz_any (A T : ByteArray) (L M : List ByteArray) (gd md go nb gq nB C m Q : Nat) (hA : A.size ≤ 1048576) (hm1 : m ≤ 16777216) (hm : m = (encL L).length) (hQ : 12 + m + A.size = Q) (hnq : Q ≤ nB) (hC : nB ≤ C) (hC2 : C ≤ 1073741824)
    (hL : ∀ s ∈ L, s.size ≤ 255) (hM : ∀ s ∈ M, s.size ≤ 255) (hmd : md = (encL M).length) (hmd2 : md ≤ 65535) (hnb : nb = M.length) (hnb2 : nb ≤ 65536) (hlast : ∀ q (hq : q + 1 = L.length), ∀ s ∈ M, s ≠ L[q])
    (w : World) (hU : UB w gq 0 (zeros12 ++ encL L ++ A.data.toList ++ T.data.toList)) (hD : UB w gd 0 (encL M)) (hO : OB w go (offL 0 M)) :
    Calls Try.prog 21 #[.string A, .slice (some ⟨gd, 0, none⟩) md md, .slice (some ⟨go, 0, none⟩) nb nb, .slice (some ⟨gq, 0, none⟩) nB C, .int .i64 (Q : Int), .agg #[.int .u16 1, .int .u16 0, .int .u16 0, .int .u16 0]] w fun e w' => e = .returned (.tuple #[.int .i64 m, .bool true]) ∧ Below w.heap.size w w' := by
  have Hm := hide hm
  have HQ := hide hQ
  have HL := hide hL
  have HM := hide hM
  have Hmd := hide hmd
  have Hnb := hide hnb
  have Hlast := hide hlast
  have HU := hide hU
  have HD := hide hD
  have HO := hide hO
  clear hm hQ hL hM hmd hnb hlast hU hD hO
  go_enter Try.func21, Try.ntmps21
  go_wp2_with fail
  refine (shift_all A T L M (w.heap.size + 1) (w.heap.size + 1 + 1) gd md go nb gq nB C m Q hA hm1 Hm.out HQ.out hnq hC hC2 HL.out HM.out Hmd.out hmd2 Hnb.out hnb2 Hlast.out _ (shIn_of _ A gd md go nb gq nB C Q _ _ (by simp) (by simp)) (UB.below HU.out (three _ _ _ _) (Nat.le_refl _)) (UB.below HD.out (three _ _ _ _) (Nat.le_refl _)) (OB.below HO.out (three _ _ _ _) (Nat.le_refl _))).mono ?_
  rintro e w' ⟨rfl, k, rfl⟩
  go_wp2
  go_ret2
  exact ⟨rfl, below_drewN (three _ _ _ _) _⟩
end Go.Proofs.Qxb6003469a.ShG
