import Derived.Test.Qxb6003469aShC
namespace Go.Proofs.Qxb6003469a.ShD
open Go.ChangeShapes Go.WideShapes Go.ChangeAt Go.RowKit
open Go.Lib (strCells strCells_length strCells_oneCell)
open Go.Proofs.Qxb6003469a.BitA
open Go.Proofs.Qxb6003469a.ShA
open Go.Proofs.Qxb6003469a.ShB
open Go.Proofs.Qxb6003469a.ShC
set_option linter.unusedVariables false

def zeros12 : List UInt8 := [0, 0, 0, 0, 0, 0, 0, 0, 0, 0, 0, 0]

/-- 'make([]byte, 12, n)'. -/
theorem wpList_make_12 (w : World) {ops : Array Oper} {rest : List Oper} {o : Oper} {a : Act} {Q : Exit → Act → World → Prop}
    (hg : o.guard = none) (l c : Operand) (hop : o.op = Op.makeSlice 32 l c) (base : Nat) (C : Int) (n : Nat) (hl : a.eval l = .int .i64 12) (hc : a.eval c = .int .i64 C) (hC : C = (n : Int)) (hn : 12 ≤ n) (hm : n ≤ 1073741824) (hb : base ≤ w.heap.size)
    (hK : ∀ w', w'.ownsRow base 5 1 (.slice (some ⟨w.heap.size, 0, none⟩) 12 n) 12 (cellsU zeros12) → w.grownBy w' none → wpList Try.prog ops Q rest (a.put o.dst (.slice (some ⟨w.heap.size, 0, none⟩) 12 n)) w') :
    wpList Try.prog ops Q (o :: rest) a w := by
  refine wpList_plain hg fun K hK' => ?_
  obtain ⟨i0, hi, hz0, hz1, hz2⟩ := info_parts info5
  subst hC
  have hrun := run_make (P := Try.prog) w 32 5 i0 (.int .u8 0) Try.underlying32 hi hz0 .i64 .i64 12 n (by omega) (by omega) (by rw [hz2]; omega) (by omega)
  rw [hz1] at hrun
  have e1 : (Value.int .u8 0).cells = #[.int .u8 0] := rfl
  rw [e1] at hrun
  simp only [Int.toNat_natCast, Nat.mul_one] at hrun
  have r1 : (w.alloc (.cells (madeCells #[.int .u8 0] n) 5)).ownsRow base 5 1 (.slice (some ⟨w.heap.size, 0, none⟩) 12 n) 12 (cellsU zeros12) := by
    refine ⟨rfl, .inr ⟨w.heap.size, n, _, rfl, hb, Go.heap_alloc_new w _, hn, by unfold maxLen; omega, by simp [size_madeCells], ?_⟩⟩
    apply List.ext_getElem
    · simp [cellsU, zeros12, size_madeCells]; omega
    · intro i h1 h2
      have h2' : i < 12 := by simpa [cellsU, zeros12] using h2
      have : i = 0 ∨ i = 1 ∨ i = 2 ∨ i = 3 ∨ i = 4 ∨ i = 5 ∨ i = 6 ∨ i = 7 ∨ i = 8 ∨ i = 9 ∨ i = 10 ∨ i = 11 := by omega
      simp only [List.getElem_take, Array.getElem_toList, madeCells, Array.getElem_map, Array.getElem_range, cellsU, List.getElem_map, zeros12]
      rcases this with rfl | rfl | rfl | rfl | rfl | rfl | rfl | rfl | rfl | rfl | rfl | rfl <;> rfl
  have r2 := World.grownBy_alloc w (.cells (madeCells #[.int .u8 0] n) 5) none
  generalize w.alloc (.cells (madeCells #[.int .u8 0] n) 5) = W' at *
  unfold Oper.wp
  simp [execOp, hop, hl, hc, hrun, Result.andThen]
  exact hK' _ _ (hK _ r1 r2)

def QPost (A T : ByteArray) (L : List ByteArray) (w : World) (e : Ending) (w' : World) : Prop :=
  ∃ g m n C : Nat, e = .returned (.tuple #[.slice (some ⟨g, 0, none⟩) n C, .int .i64 m, .int .i64 (12 + (m : Int) + (A.size : Int))]) ∧ m = (encL L).length ∧ m ≤ 16777216 ∧ n = 12 + m + A.size + T.size ∧ n ≤ C ∧ C ≤ 1073741824 ∧
    UB w' g 0 (zeros12 ++ encL L ++ A.data.toList ++ T.data.toList) ∧ Below w.heap.size w w'

theorem cells_src {w : World} {g : Nat} {l : List UInt8} (h : UB w g 0 l) : ∀ j u, (cellsU l)[j]? = some u → w.cell? ((⟨g, 0, none⟩ : Addr).add j) = some u := by
  intro j u hu
  obtain ⟨hj, rfl⟩ := List.getElem?_eq_some_iff.1 hu
  have hj' : j < l.length := by simpa [cellsU] using hj
  rw [add_plain, h j hj']
  simp [cellsU]
theorem cellsU_one (l : List UInt8) : ∀ u ∈ cellsU l, u.oneCell' = true := by
  intro u hu
  simp only [cellsU, List.mem_map] at hu
  obtain ⟨b, _, rfl⟩ := hu
  rfl
theorem UB_grown {w w' : World} {g o : Nat} {l : List UInt8} {row : Option Nat} (h : UB w g o l) (hg : w.grownBy w' row) (hne : some g ≠ row) : UB w' g o l := fun i hi => hg.cell (h i hi) hne

set_option maxHeartbeats 1000000 in
theorem question_any (A T : ByteArray) (hA : A.size ≤ 1048576) (hT : T.size ≤ 1048576) (a : Option Addr) (n c : Nat) (L : List ByteArray) (hn : L.length = n) (hm : n ≤ 65536) (hsz : ∀ s ∈ L, s.size ≤ 255) (w : World) (hr : StrRow w a L) :
    Calls Try.prog 19 #[.string A, .slice a n c, .string T] w fun e w' => QPost A T L w e w' := by
  have CE := hide (encode_any a n c L hn hm hsz w hr)
  obtain ⟨i0, hi, hz0, hz1, hz2⟩ := info_parts info5
  have Hi := hide hi
  have Hz1 := hide hz1
  clear hn hr hsz hi hz0 hz1 hz2
  go_enter Try.func19, Try.ntmps19
  go_wp2_with fail
  refine CE.out.mono ?_
  rintro e w1 ⟨g1, g2, m, rfl, hmL, hm1, u1, u2, hb⟩
  have HM := hide hmL
  have U1 := hide u1
  have HB := hide hb
  clear hmL u1 u2 hb CE
  have hclen : Hid ((cellsU (encL L)).length = m * 1) := by show _ = _; rw [HM.out]; simp [cellsU]
  go_wp2_with (first
    | (at_make; refine wpList_make_12 _ rfl _ _ rfl w.heap.size _ (12 + m + A.size + T.size) rfl rfl (by omega) (by omega) (by omega) HB.out.size ?_; intro w2 ho2 hg2; have P2 := hide ho2; have Q2 := hide hg2; clear ho2 hg2; have U2 := hide (UB_grown U1.out Q2.out (by simp)))
    | (at_builtin; refine wpList_append_fits _ rfl _ _ 32 rfl w.heap.size 5 i0 1 Try.underlying32 Hi.out Hz1.out w1.heap.size 12 (12 + m + A.size + T.size) _ rfl P2.out ⟨g1, 0, none⟩ m m (cellsU (encL L)) rfl hclen.out (cells_src U2.out) (cellsU_one _) (by omega) ?_; intro w3 ho3 hg3; have P3 := hide ho3; have Q3 := hide hg3; clear ho3 hg3)
    | (at_builtin; refine wpList_append_fits_string _ rfl _ _ 32 9 rfl w.heap.size 5 i0 Try.underlying32 Try.underlying9 Hi.out Hz1.out w1.heap.size (12 + m) (12 + m + A.size + T.size) _ rfl P3.out A rfl (by omega) ?_; intro w4 ho4 hg4; have P4 := hide ho4; have Q4 := hide hg4; clear ho4 hg4)
    | (at_builtin; refine wpList_append_fits_string _ rfl _ _ 32 9 rfl w.heap.size 5 i0 Try.underlying32 Try.underlying9 Hi.out Hz1.out w1.heap.size (12 + m + A.size) (12 + m + A.size + T.size) _ rfl P4.out T rfl (by omega) ?_; intro w5 ho5 hg5; have P5 := hide ho5; have Q5 := hide hg5; clear ho5 hg5))
  have hxs : cellsU zeros12 ++ cellsU (encL L) ++ strCells A ++ strCells T = cellsU (zeros12 ++ encL L ++ A.data.toList ++ T.data.toList) := by simp only [cellsU_app]; rfl
  have P6 := P5.out
  rw [hxs] at P6
  have hln : 12 + m + A.size + T.size = (zeros12 ++ encL L ++ A.data.toList ++ T.data.toList).length := by
    simp only [List.length_append, HM.out, Array.length_toList]; rfl
  have UU := hide (UB_of hln P6)
  have z1 := HB.out.size
  have z2 := Q2.out.size
  have z3 := Q3.out.size
  have z4 := Q4.out.size
  have BB := hide ((((HB.out.grown Q2.out z1 (fun k hk => by cases hk)).grown Q3.out (by omega) (fun k hk => by cases hk; exact z1)).grown Q4.out (by omega) (fun k hk => by cases hk; exact z1)).grown Q5.out (by omega) (fun k hk => by cases hk; exact z1))
  clear hxs P6 hln
  go_ret3
  exact ⟨_, m, _, _, rfl, HM.out, hm1, rfl, Nat.le_refl _, by omega, UU.out, BB.out⟩
end Go.Proofs.Qxb6003469a.ShD
