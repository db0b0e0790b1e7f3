import Derived.Test.Qxb6603615aRun
namespace Go.Proofs.Qxb6603615a.Swap
open Go.ChangeShapes Go.WideShapes Go.ChangeAt Go.RowKit
open Go.Proofs.Qxb6603615a.Plain
open Go.Proofs.Qxb6603615a.Run
set_option linter.unusedVariables false

theorem boxes2 {B : Nat} {w w1 : World} {o : Obj} (hB : B < w.heap.size) (h : Only B ((w.alloc o).alloc (.cells #[.int .i64 0, .bool false] 26)) w1) :
    (w1.cell? ⟨w.heap.size + 1, 0, none⟩ = some (.int .i64 0) ∧ w1.cell? ⟨w.heap.size + 1, 1, none⟩ = some (.bool false)) ∧
    (w1.frozen? ⟨w.heap.size + 1, 0, none⟩ = false ∧ w1.frozen? ⟨w.heap.size + 1, 1, none⟩ = false) ∧
    Only B w w1 ∧ w.heap.size + 2 ≤ w1.heap.size := by
  have hz := h.size
  simp at hz
  refine ⟨⟨h.cell (by simp [go_sem]) (by omega), h.cell (by simp [go_sem]) (by omega)⟩, ⟨?_, ?_⟩, (((Only.refl B w).alloc _).alloc _).trans h, by omega⟩
  all_goals (rw [h.frozen (by simp) (by omega)]; simp [go_sem])

theorem zzrun (K : Int) (k : ByteArray) (x : Int) (B : Nat) (v v' rv : Int) (p p' rb : Bool)
    (hcall : ∀ w, Pl w B v p → Calls Try.prog 21 #[opV K k x, .iface 23 (.pointer (some ⟨B, 0, none⟩))] w fun e w' => RPost B v' p' (.agg #[.int .i64 rv, .bool rb]) w e w')
    (w : World) (h : Pl w B v p) : Calls Try.prog 9 #[opV K k x, .pointer (some ⟨B, 0, none⟩)] w fun e w' => RPost B v' p' (.agg #[.int .i64 rv, .bool rb]) w e w' := by
  have hlt := Pl.lt h
  have HP := hide h
  have HC := hide hcall
  clear h hcall
  unfold opV at *
  go_enter Try.func9, Try.ntmps9
  go_wp2_with fail
  refine (HC.out _ (Pl.alloc (Pl.alloc HP.out _) _)).mono ?_
  rintro e w1 ⟨rfl, hp1, ho1⟩
  obtain ⟨⟨a1, a2⟩, ⟨b1, b2⟩, hO, hz⟩ := boxes2 hlt ho1
  have HP1 := hide hp1
  have HO := hide hO
  clear hp1 ho1 hO HP HC
  go_wp2
  exact bodyPost_ret (v := .agg #[.int .i64 rv, .bool rb]) (by simp [results, Try.results9, go_sem, a1, a2]) rfl
    ⟨rfl, (Pl.setNew (Pl.setNew HP1.out (by show B ≠ w.heap.size + 1; omega) _) (by show B ≠ w.heap.size + 1; omega) _), (Only.setNew (Only.setNew HO.out (by show w.heap.size ≤ w.heap.size + 1; omega) _) (by show w.heap.size ≤ w.heap.size + 1; omega) _)⟩

theorem zz_swap (B : Nat) (k : ByteArray) (v x : Int) (p : Bool) (w : World) (h : Pl w B v p) :
    Calls Try.prog 9 #[.agg #[.int .i64 0, .int .i64 0, .int .i64 0, .int .i64 5, .string k, .int .i64 x, .int .i64 0, .int .i64 0, .bool false], .pointer (some ⟨B, 0, none⟩)] w fun e w' => RPost B x true (.agg #[.int .i64 v, .bool p]) w e w' :=
  zzrun 5 k x B v x v p true p (fun w h => Run.run_swap B k v x p w h) w h
theorem zz_load (B : Nat) (k : ByteArray) (v : Int) (p : Bool) (w : World) (h : Pl w B v p) :
    Calls Try.prog 9 #[.agg #[.int .i64 0, .int .i64 0, .int .i64 0, .int .i64 0, .string k, .int .i64 0, .int .i64 0, .int .i64 0, .bool false], .pointer (some ⟨B, 0, none⟩)] w fun e w' => RPost B v p (.agg #[.int .i64 v, .bool p]) w e w' :=
  zzrun 0 k 0 B v v v p p p (fun w h => Run.run_load B k v p w h) w h
theorem zz_store (B : Nat) (k : ByteArray) (v x : Int) (p : Bool) (w : World) (h : Pl w B v p) :
    Calls Try.prog 9 #[.agg #[.int .i64 0, .int .i64 0, .int .i64 0, .int .i64 1, .string k, .int .i64 x, .int .i64 0, .int .i64 0, .bool false], .pointer (some ⟨B, 0, none⟩)] w fun e w' => RPost B x true (.agg #[.int .i64 0, .bool false]) w e w' :=
  zzrun 1 k x B v x 0 p true false (fun w h => Run.run_store B k v x p w h) w h
theorem zz_delete (B : Nat) (k : ByteArray) (v : Int) (p : Bool) (w : World) (h : Pl w B v p) :
    Calls Try.prog 9 #[.agg #[.int .i64 0, .int .i64 0, .int .i64 0, .int .i64 2, .string k, .int .i64 0, .int .i64 0, .int .i64 0, .bool false], .pointer (some ⟨B, 0, none⟩)] w fun e w' => RPost B 0 false (.agg #[.int .i64 0, .bool false]) w e w' :=
  zzrun 2 k 0 B v 0 0 p false false (fun w h => Run.run_delete B k v p w h) w h

/-- A pair of cells (a Result in a box). -/
def Res (w : World) (R : Nat) (v : Int) (p : Bool) : Prop := w.cell? ⟨R, 0, none⟩ = some (.int .i64 v) ∧ w.cell? ⟨R, 1, none⟩ = some (.bool p)
theorem Res.only {w w' : World} {R B : Nat} {v : Int} {p : Bool} (h : Res w R v p) (ho : Only B w w') (hne : R ≠ B) : Res w' R v p := ⟨ho.cell h.1 hne, ho.cell h.2 hne⟩
theorem Res.lt {w : World} {R : Nat} {v : Int} {p : Bool} (h : Res w R v p) : R < w.heap.size := World.block_lt_of_cell? w _ h.1
theorem Res.alloc {w : World} {R : Nat} {v : Int} {p : Bool} (h : Res w R v p) (o : Obj) : Res (w.alloc o) R v p :=
  ⟨(World.cell?_of_block (w := w) (Below.heap_alloc _ _ _ (Res.lt h))).trans h.1, (World.cell?_of_block (w := w) (Below.heap_alloc _ _ _ (Res.lt h))).trans h.2⟩
theorem Res.made (w : World) (v : Int) (p : Bool) : Res (w.alloc (.cells #[.int .i64 v, .bool p] 26)) w.heap.size v p :=
  ⟨by rw [World.cell?_alloc_at _ _ _ _ rfl]; rfl, by rw [World.cell?_alloc_at _ _ _ _ rfl]; rfl⟩

def RetB (w : World) (e : Ending) (w' : World) : Prop := ∃ b : Bool, e = .returned (.bool b) ∧ w' = w
theorem bytes7_any (k : ByteArray) (x v : Int) (p : Bool) (hk : k.size ≤ maxLen) (w : World) :
    Calls Try.prog 7 #[.string k, .int .i64 x, .int .i64 v, .bool p] w fun e w' => RetB w e w' := by
  unfold maxLen at hk
  go_enter Try.func7, Try.ntmps7
  go_wp2
  all_goals (go_ret; exact ⟨_, rfl, rfl⟩)

set_option maxHeartbeats 2000000 in
theorem walk_false (k : ByteArray) (x : Int) (hk : k.size ≤ maxLen) (w : World) :
    Calls Try.prog 3 #[.string k, .int .i64 x, .int .i64 0, .bool false] w fun e w' => e = .returned (.bool true) ∧ Below w.heap.size w w' := by
  have CB := hide (bytes7_any k x 0 false hk w)
  unfold maxLen at hk
  go_enter Try.func3, Try.ntmps3
  go_wp2_with fail
  refine CB.out.mono ?_
  rintro e w1 ⟨b, rfl, rfl⟩
  cases b
  · go_wp2
    go_ret
    exact ⟨rfl, Below.refl _ _⟩
  by_cases g1 : (1048576 : Int) < (k.size : Int)
  · go_wp2
    go_ret
    exact ⟨rfl, Below.refl _ _⟩
  clear CB
  go_wp2_with fail
  refine (zznew_any _ _ _).mono ?_
  rintro e w2 ⟨rfl, rfl⟩
  have P2 := hide (Pl.made w1 0 false)
  have B2 : Hid (Below w1.heap.size w1 _) := (Below.refl w1.heap.size w1).alloc (Nat.le_refl _) (.cells #[.int .i64 0, .bool false] 52)
  have z2 : w1.heap.size < (w1.alloc (.cells #[.int .i64 0, .bool false] 52)).heap.size := by simp
  generalize w1.alloc (.cells #[.int .i64 0, .bool false] 52) = w2 at *
  go_wp2_with fail
  refine (zz_swap _ _ _ _ _ _ P2.out).mono ?_
  rintro e w3 ⟨rfl, p3, o3⟩
  have z3 : w1.heap.size < w3.heap.size := Nat.lt_of_lt_of_le z2 o3.size
  have P3 := hide p3
  have B3 := hide (B2.out.trans (o3.below (Nat.le_refl _) (Nat.le_of_lt z2)))
  have R3 := hide (Res.made w3 0 false)
  clear p3 o3 P2 B2
  go_wp2_with fail
  have B3' := hide (B3.out.alloc (Nat.le_of_lt z3) (.cells #[.int .i64 0, .bool false] 26))
  have P3' := hide (Pl.alloc P3.out (.cells #[.int .i64 0, .bool false] 26))
  have z3' : w3.heap.size < (w3.alloc (.cells #[.int .i64 0, .bool false] 26)).heap.size := by simp
  generalize w3.alloc (.cells #[.int .i64 0, .bool false] 26) = W3 at *
  generalize w3.heap.size = R at *
  clear P3 B3
  refine (zz_load _ _ _ _ _ P3'.out).mono ?_
  rintro e w4 ⟨rfl, p4, o4⟩
  have z4 : R < w4.heap.size := Nat.lt_of_lt_of_le z3' o4.size
  have P4 := hide p4
  have B4 := hide (B3'.out.trans (o4.below (Nat.le_refl _) (by omega)))
  have R4 := hide (R3.out.only o4 (by omega))
  clear p4 o4 P3' B3' R3
  obtain ⟨r0, r1⟩ := R4.out
  go_wp2_with fail
  have M4 := hide (Res.made w4 x true)
  have P4' := hide (Pl.alloc (Pl.alloc P4.out (.cells #[.int .i64 x, .bool true] 26)) (.cells #[.int .i64 0, .int .i64 0, .int .i64 0, .int .i64 2, .string k, .int .i64 0, .int .i64 0, .int .i64 0, .bool false] 31))
  have B4' := hide ((B4.out.alloc (by omega) (.cells #[.int .i64 x, .bool true] 26)).alloc (by simp; omega) (.cells #[.int .i64 0, .int .i64 0, .int .i64 0, .int .i64 2, .string k, .int .i64 0, .int .i64 0, .int .i64 0, .bool false] 31))
  have R4' := hide (Res.alloc (Res.alloc R4.out (.cells #[.int .i64 x, .bool true] 26)) (.cells #[.int .i64 0, .int .i64 0, .int .i64 0, .int .i64 2, .string k, .int .i64 0, .int .i64 0, .int .i64 0, .bool false] 31))
  have M4' := hide (Res.alloc M4.out (.cells #[.int .i64 0, .int .i64 0, .int .i64 0, .int .i64 2, .string k, .int .i64 0, .int .i64 0, .int .i64 0, .bool false] 31))
  have z4' : w4.heap.size < ((w4.alloc (.cells #[.int .i64 x, .bool true] 26)).alloc (.cells #[.int .i64 0, .int .i64 0, .int .i64 0, .int .i64 2, .string k, .int .i64 0, .int .i64 0, .int .i64 0, .bool false] 31)).heap.size := by simp; omega
  generalize (w4.alloc (.cells #[.int .i64 x, .bool true] 26)).alloc (.cells #[.int .i64 0, .int .i64 0, .int .i64 0, .int .i64 2, .string k, .int .i64 0, .int .i64 0, .int .i64 0, .bool false] 31) = W4 at *
  clear P4 B4 R4 M4 r0 r1
  refine (zz_delete _ _ _ _ _ P4'.out).mono ?_
  rintro e w5 ⟨rfl, p5, o5⟩
  have z5 : w4.heap.size < w5.heap.size := Nat.lt_of_lt_of_le z4' o5.size
  have P5 := hide (Pl.alloc p5 (.cells #[.int .i64 0, .bool false] 26))
  have B5 := hide ((B4'.out.trans (o5.below (Nat.le_refl _) (by omega))).alloc (by omega) (.cells #[.int .i64 0, .bool false] 26))
  have R5 := hide (Res.alloc (R4'.out.only o5 (by omega)) (.cells #[.int .i64 0, .bool false] 26))
  have M5 := hide (Res.alloc (M4'.out.only o5 (by omega)) (.cells #[.int .i64 0, .bool false] 26))
  have A5 := hide (Res.made w5 0 false)
  have z5' : w5.heap.size < (w5.alloc (.cells #[.int .i64 0, .bool false] 26)).heap.size := by simp
  clear p5 o5 P4' B4' R4' M4'
  go_wp2_with fail
  generalize w5.alloc (.cells #[.int .i64 0, .bool false] 26) = W5 at *
  refine (fields_only _ _ _ _ P5.out).mono ?_
  rintro e w6 ⟨rfl, p6, o6⟩
  obtain ⟨r0, r1⟩ := R5.out.only o6 (by omega)
  obtain ⟨m0, m1⟩ := M5.out.only o6 (by omega)
  obtain ⟨a0, a1⟩ := A5.out.only o6 (by omega)
  have B6 := hide (B5.out.trans (o6.below (Nat.le_refl _) (by omega)))
  clear p6 o6 P5 B5 R5 M5 A5
  go_wp2
  go_ret
  exact ⟨rfl, B6⟩

set_option maxHeartbeats 2000000 in
theorem walk_true (k : ByteArray) (x v : Int) (hk : k.size ≤ maxLen) (w : World) :
    Calls Try.prog 3 #[.string k, .int .i64 x, .int .i64 v, .bool true] w fun e w' => e = .returned (.bool true) ∧ Below w.heap.size w w' := by
  have CB := hide (bytes7_any k x v true hk w)
  unfold maxLen at hk
  go_enter Try.func3, Try.ntmps3
  go_wp2_with fail
  refine CB.out.mono ?_
  rintro e w1 ⟨b, rfl, rfl⟩
  cases b
  · go_wp2
    go_ret
    exact ⟨rfl, Below.refl _ _⟩
  by_cases g1 : (1048576 : Int) < (k.size : Int)
  · go_wp2
    go_ret
    exact ⟨rfl, Below.refl _ _⟩
  clear CB
  go_wp2_with fail
  refine (zznew_any _ _ _).mono ?_
  rintro e w2 ⟨rfl, rfl⟩
  have P2 := hide (Pl.made w1 v true)
  have B2 : Hid (Below w1.heap.size w1 _) := (Below.refl w1.heap.size w1).alloc (Nat.le_refl _) (.cells #[.int .i64 v, .bool true] 52)
  have z2 : w1.heap.size < (w1.alloc (.cells #[.int .i64 v, .bool true] 52)).heap.size := by simp
  generalize w1.alloc (.cells #[.int .i64 v, .bool true] 52) = w2 at *
  go_wp2_with fail
  refine (zz_swap _ _ _ _ _ _ P2.out).mono ?_
  rintro e w3 ⟨rfl, p3, o3⟩
  have z3 : w1.heap.size < w3.heap.size := Nat.lt_of_lt_of_le z2 o3.size
  have P3 := hide p3
  have B3 := hide (B2.out.trans (o3.below (Nat.le_refl _) (Nat.le_of_lt z2)))
  have R3 := hide (Res.made w3 v true)
  clear p3 o3 P2 B2
  go_wp2_with fail
  have B3' := hide (B3.out.alloc (Nat.le_of_lt z3) (.cells #[.int .i64 v, .bool true] 26))
  have P3' := hide (Pl.alloc P3.out (.cells #[.int .i64 v, .bool true] 26))
  have z3' : w3.heap.size < (w3.alloc (.cells #[.int .i64 v, .bool true] 26)).heap.size := by simp
  generalize w3.alloc (.cells #[.int .i64 v, .bool true] 26) = W3 at *
  generalize w3.heap.size = R at *
  clear P3 B3
  refine (zz_load _ _ _ _ _ P3'.out).mono ?_
  rintro e w4 ⟨rfl, p4, o4⟩
  have z4 : R < w4.heap.size := Nat.lt_of_lt_of_le z3' o4.size
  have P4 := hide p4
  have B4 := hide (B3'.out.trans (o4.below (Nat.le_refl _) (by omega)))
  have R4 := hide (R3.out.only o4 (by omega))
  clear p4 o4 P3' B3' R3
  obtain ⟨r0, r1⟩ := R4.out
  go_wp2_with fail
  have M4 := hide (Res.made w4 x true)
  have P4' := hide (Pl.alloc (Pl.alloc P4.out (.cells #[.int .i64 x, .bool true] 26)) (.cells #[.int .i64 0, .int .i64 0, .int .i64 0, .int .i64 1, .string k, .int .i64 v, .int .i64 0, .int .i64 0, .bool false] 31))
  have B4' := hide ((B4.out.alloc (by omega) (.cells #[.int .i64 x, .bool true] 26)).alloc (by simp; omega) (.cells #[.int .i64 0, .int .i64 0, .int .i64 0, .int .i64 1, .string k, .int .i64 v, .int .i64 0, .int .i64 0, .bool false] 31))
  have R4' := hide (Res.alloc (Res.alloc R4.out (.cells #[.int .i64 x, .bool true] 26)) (.cells #[.int .i64 0, .int .i64 0, .int .i64 0, .int .i64 1, .string k, .int .i64 v, .int .i64 0, .int .i64 0, .bool false] 31))
  have M4' := hide (Res.alloc M4.out (.cells #[.int .i64 0, .int .i64 0, .int .i64 0, .int .i64 1, .string k, .int .i64 v, .int .i64 0, .int .i64 0, .bool false] 31))
  have z4' : w4.heap.size < ((w4.alloc (.cells #[.int .i64 x, .bool true] 26)).alloc (.cells #[.int .i64 0, .int .i64 0, .int .i64 0, .int .i64 1, .string k, .int .i64 v, .int .i64 0, .int .i64 0, .bool false] 31)).heap.size := by simp; omega
  generalize (w4.alloc (.cells #[.int .i64 x, .bool true] 26)).alloc (.cells #[.int .i64 0, .int .i64 0, .int .i64 0, .int .i64 1, .string k, .int .i64 v, .int .i64 0, .int .i64 0, .bool false] 31) = W4 at *
  clear P4 B4 R4 M4 r0 r1
  refine (zz_store _ _ _ _ _ _ P4'.out).mono ?_
  rintro e w5 ⟨rfl, p5, o5⟩
  have z5 : w4.heap.size < w5.heap.size := Nat.lt_of_lt_of_le z4' o5.size
  have P5 := hide (Pl.alloc p5 (.cells #[.int .i64 0, .bool false] 26))
  have B5 := hide ((B4'.out.trans (o5.below (Nat.le_refl _) (by omega))).alloc (by omega) (.cells #[.int .i64 0, .bool false] 26))
  have R5 := hide (Res.alloc (R4'.out.only o5 (by omega)) (.cells #[.int .i64 0, .bool false] 26))
  have M5 := hide (Res.alloc (M4'.out.only o5 (by omega)) (.cells #[.int .i64 0, .bool false] 26))
  have A5 := hide (Res.made w5 0 false)
  have z5' : w5.heap.size < (w5.alloc (.cells #[.int .i64 0, .bool false] 26)).heap.size := by simp
  clear p5 o5 P4' B4' R4' M4'
  go_wp2_with fail
  generalize w5.alloc (.cells #[.int .i64 0, .bool false] 26) = W5 at *
  refine (fields_only _ _ _ _ P5.out).mono ?_
  rintro e w6 ⟨rfl, p6, o6⟩
  obtain ⟨r0, r1⟩ := R5.out.only o6 (by omega)
  obtain ⟨m0, m1⟩ := M5.out.only o6 (by omega)
  obtain ⟨a0, a1⟩ := A5.out.only o6 (by omega)
  have B6 := hide (B5.out.trans (o6.below (Nat.le_refl _) (by omega)))
  clear p6 o6 P5 B5 R5 M5 A5
  go_wp2
  go_ret
  exact ⟨rfl, B6⟩


theorem walk (k : ByteArray) (x v : Int) (p : Bool) (hk : k.size ≤ maxLen) (w : World) :
    Calls Try.prog 3 #[.string k, .int .i64 x, .int .i64 v, .bool p] w fun e w' => e = .returned (.bool true) ∧ Below w.heap.size w w' := by
  cases p
  · by_cases hv : v = 0
    · subst hv; exact walk_false k x hk w
    · have CB := hide (bytes7_any k x v false hk w)
      have e4 : (v != 0) = true := by rw [bne_iff_ne]; exact hv
      unfold maxLen at hk
      clear hv
      go_enter Try.func3, Try.ntmps3
      go_wp2_with fail
      refine CB.out.mono ?_
      rintro e w1 ⟨b, rfl, rfl⟩
      cases b
      · go_wp2
        go_ret
        exact ⟨rfl, Below.refl _ _⟩
      · go_wp2
        all_goals (go_ret; exact ⟨rfl, Below.refl _ _⟩)
  · exact walk_true k x v hk w
end Go.Proofs.Qxb6603615a.Swap
