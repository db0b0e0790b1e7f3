import Derived.Test.Qxb6603615aRows
import Derived.WalkKit
import Derived.ProofKit
import Derived.OpenShut
import Derived.ShutString
import Derived.RegionTactic
import Derived.BigRegion
import Derived.Deep.QuietTactic
import Derived.BigQuiet
import Derived.Outline
import Derived.WalkSmall
import Derived.WalkLawsBesides
import Derived.WalkSpells
import Derived.Handy
namespace Go.Proofs.Qxb6603615a.Plain
open Go.ChangeShapes Go.WideShapes Go.ChangeAt Go.RowKit
set_option linter.unusedVariables false

theorem hide {p : Prop} (h : p) : Hid p := h

/-- Block B holds the one-key map (v, p). -/
structure Pl (w : World) (B : Nat) (v : Int) (p : Bool) : Prop where
  val : w.cell? ⟨B, 0, none⟩ = some (.int .i64 v)
  pres : w.cell? ⟨B, 1, none⟩ = some (.bool p)
  warm : w.frozen? ⟨B, 0, none⟩ = false
  warm' : w.frozen? ⟨B, 1, none⟩ = false

theorem Pl.set {w : World} {B : Nat} {v : Int} {p : Bool} (h : Pl w B v p) (v' : Int) (p' : Bool) : Pl ((w.setCell ⟨B, 0, none⟩ (.int .i64 v')).setCell ⟨B, 1, none⟩ (.bool p')) B v' p' := by
  have hne : (⟨B, 1, none⟩ : Addr) ≠ ⟨B, 0, none⟩ := fun e => by cases e
  constructor
  · rw [World.cell?_setCell_other _ _ _ _ hne]; exact World.cell?_setCell_same _ _ _ h.val
  · exact World.cell?_setCell_same _ _ _ ((World.cell?_setCell_other _ _ _ _ hne.symm).trans h.pres)
  · rw [World.frozen?_setCell, World.frozen?_setCell]; exact h.warm
  · rw [World.frozen?_setCell, World.frozen?_setCell]; exact h.warm'
theorem Pl.drewN {w : World} {B : Nat} {v : Int} {p : Bool} (h : Pl w B v p) (n : Nat) : Pl (w.drewN n) B v p := ⟨h.val, h.pres, h.warm, h.warm'⟩
theorem Pl.made (w : World) (v : Int) (p : Bool) : Pl (w.alloc (.cells #[.int .i64 v, .bool p] 52)) w.heap.size v p :=
  ⟨by rw [World.cell?_alloc_at _ _ _ _ rfl]; rfl, by rw [World.cell?_alloc_at _ _ _ _ rfl]; rfl, World.frozen?_alloc_new _ _ _ _, World.frozen?_alloc_new _ _ _ _⟩

theorem below_two (B : Nat) (w : World) (u v : Value) : Below B w ((w.setCell ⟨B, 0, none⟩ u).setCell ⟨B, 1, none⟩ v) :=
  ((Below.refl B w).setCell (p := ⟨B, 0, none⟩) (Nat.le_refl B) u).setCell (p := ⟨B, 1, none⟩) (Nat.le_refl B) v

def PlPost (B : Nat) (v : Int) (p : Bool) (r : Value) (w : World) (e : Ending) (w' : World) : Prop := e = .returned r ∧ Pl w' B v p ∧ Below B w w'

theorem delete_any (B : Nat) (k : ByteArray) (v : Int) (p : Bool) (w : World) (h : Pl w B v p) :
    Calls Try.prog 22 #[.pointer (some ⟨B, 0, none⟩), .string k] w fun e w' => PlPost B 0 false (.tuple #[]) w e w' := by
  have c0 := h.val
  have c1 := h.pres
  have f0 := h.warm
  have f1 := h.warm'
  have HS := hide (h.set 0 false)
  clear h
  go_enter Try.func22, Try.ntmps22
  go_wp2
  go_end0
  exact ⟨rfl, HS, below_two _ _ _ _⟩

theorem load_any (B : Nat) (k : ByteArray) (v : Int) (p : Bool) (w : World) (h : Pl w B v p) :
    Calls Try.prog 23 #[.pointer (some ⟨B, 0, none⟩), .string k] w fun e w' => PlPost B v p (.tuple #[.int .i64 v, .bool p]) w e w' := by
  have c0 := h.val
  have c1 := h.pres
  have HS := hide h
  clear h
  go_enter Try.func23, Try.ntmps23
  go_wp2
  go_quiet (fail)
  go_wp2
  go_ret2
  exact ⟨rfl, HS.out.drewN _, below_drewN (Below.refl _ _) _⟩

theorem loadOrStore_no (B : Nat) (k : ByteArray) (v x : Int) (w : World) (h : Pl w B v false) :
    Calls Try.prog 24 #[.pointer (some ⟨B, 0, none⟩), .string k, .int .i64 x] w fun e w' => PlPost B x true (.tuple #[.int .i64 x, .bool false]) w e w' := by
  have c0 := h.val
  have c1 := h.pres
  have f0 := h.warm
  have f1 := h.warm'
  have HS := hide (h.set x true)
  clear h
  go_enter Try.func24, Try.ntmps24
  go_wp2
  go_ret2
  exact ⟨rfl, HS, below_two _ _ _ _⟩

theorem zznew_any (v : Int) (p : Bool) (w : World) :
    Calls Try.prog 8 #[.int .i64 v, .bool p] w fun e w' => e = .returned (.pointer (some ⟨w.heap.size, 0, none⟩)) ∧ w' = w.alloc (.cells #[.int .i64 v, .bool p] 52) := by
  go_enter Try.func8, Try.ntmps8
  go_wp2
  go_ret
  exact ⟨rfl, rfl⟩

theorem zzdelete_any (B : Nat) (k : ByteArray) (v : Int) (p : Bool) (w : World) (h : Pl w B v p) :
    Calls Try.prog 12 #[.pointer (some ⟨B, 0, none⟩), .string k] w fun e w' => PlPost B 0 false (.tuple #[]) w e w' := by
  have C := hide (delete_any B k v p w h)
  clear h
  go_enter Try.func12, Try.ntmps12
  go_wp2_with fail
  refine C.out.mono ?_
  rintro e w1 ⟨rfl, h1, h2⟩
  have H1 := hide h1
  have H2 := hide h2
  clear h1 h2
  go_wp2
  go_end0
  exact ⟨rfl, H1, H2⟩

theorem zzload_any (B : Nat) (k : ByteArray) (v : Int) (p : Bool) (w : World) (h : Pl w B v p) :
    Calls Try.prog 13 #[.pointer (some ⟨B, 0, none⟩), .string k] w fun e w' => PlPost B v p (.tuple #[.int .i64 v, .bool p]) w e w' := by
  have C := hide (load_any B k v p w h)
  clear h
  go_enter Try.func13, Try.ntmps13
  go_wp2_with fail
  refine C.out.mono ?_
  rintro e w1 ⟨rfl, h1, h2⟩
  have H1 := hide h1
  have H2 := hide h2
  clear h1 h2
  go_wp2
  go_ret2
  exact ⟨rfl, H1, H2⟩

theorem zzloadOrStore_no (B : Nat) (k : ByteArray) (v x : Int) (w : World) (h : Pl w B v false) :
    Calls Try.prog 14 #[.pointer (some ⟨B, 0, none⟩), .string k, .int .i64 x] w fun e w' => PlPost B x true (.tuple #[.int .i64 x, .bool false]) w e w' := by
  have C := hide (loadOrStore_no B k v x w h)
  clear h
  go_enter Try.func14, Try.ntmps14
  go_wp2_with fail
  refine C.out.mono ?_
  rintro e w1 ⟨rfl, h1, h2⟩
  have H1 := hide h1
  have H2 := hide h2
  clear h1 h2
  go_wp2
  go_ret2
  exact ⟨rfl, H1, H2⟩

def RetB (w : World) (e : Ending) (w' : World) : Prop := ∃ b : Bool, e = .returned (.bool b) ∧ w' = w
theorem bytes11_any (v x : Int) (p : Bool) (k o : ByteArray) (hk : k.size ≤ maxLen) (ho : o.size ≤ maxLen) (w : World) :
    Calls Try.prog 11 #[.int .i64 v, .bool p, .string k, .string o, .int .i64 x] w fun e w' => RetB w e w' := by
  unfold maxLen at hk ho
  go_enter Try.func11, Try.ntmps11
  go_wp2
  all_goals (go_ret; exact ⟨_, rfl, rfl⟩)

set_option maxHeartbeats 1000000 in
theorem walk4 (v x : Int) (p : Bool) (k o : ByteArray) (hk : k.size ≤ maxLen) (ho : o.size ≤ maxLen) (w : World) :
    Calls Try.prog 4 #[.int .i64 v, .bool p, .string k, .string o, .int .i64 x] w fun e w' => e = .returned (.bool true) ∧ Below w.heap.size w w' := by
  have CB := hide (bytes11_any v x p k o hk ho w)
  unfold maxLen at hk ho
  go_enter Try.func4, Try.ntmps4
  go_wp2_with fail
  refine CB.out.mono ?_
  rintro e w1 ⟨b, rfl, rfl⟩
  cases b
  · go_wp2
    go_ret
    exact ⟨rfl, Below.refl _ _⟩
  by_cases g1 : (1048576 : Int) < (k.size : Int)
  · go_wp2
    go_ret
    exact ⟨rfl, Below.refl _ _⟩
  by_cases g2 : (1048576 : Int) < (o.size : Int)
  · go_wp2
    go_ret
    exact ⟨rfl, Below.refl _ _⟩
  by_cases g3 : (1048576 : Int) < (k.size : Int) + (o.size : Int)
  · go_wp2
    go_ret
    exact ⟨rfl, Below.refl _ _⟩
  cases p
  · by_cases g4 : v = 0
    case neg =>
      have e4 : (v != 0) = true := by rw [bne_iff_ne]; exact g4
      go_wp2
      go_ret
      exact ⟨rfl, Below.refl _ _⟩
    subst g4
    go_wp2_with fail
    refine (zznew_any _ _ _).mono ?_
    rintro e w2 ⟨rfl, rfl⟩
    have P2 := hide (Pl.made w1 0 false)
    have B2 : Hid (Below w1.heap.size w1 _) := (Below.refl w1.heap.size w1).alloc (Nat.le_refl _) (.cells #[.int .i64 0, .bool false] 52)
    generalize w1.alloc (.cells #[.int .i64 0, .bool false] 52) = w2 at *
    go_wp2_with fail
    refine (zzdelete_any _ _ _ _ _ P2.out).mono ?_
    rintro e w3 ⟨rfl, p3, b3⟩
    have P3 := hide p3
    have B3 := hide (B2.out.trans b3)
    clear p3 b3 P2 B2
    go_wp2_with fail
    refine (zzload_any _ _ _ _ _ P3.out).mono ?_
    rintro e w4 ⟨rfl, p4, b4⟩
    have P4 := hide p4
    have B4 := hide (B3.out.trans b4)
    clear p4 b4 P3 B3
    go_wp2_with fail
    refine (zzloadOrStore_no _ _ _ _ _ P4.out).mono ?_
    rintro e w5 ⟨rfl, p5, b5⟩
    have P5 := hide p5
    have B5 := hide (B4.out.trans b5)
    clear p5 b5 P4 B4
    go_wp2_with fail
    refine (zzload_any _ _ _ _ _ P5.out).mono ?_
    rintro e w6 ⟨rfl, p6, b6⟩
    have B6 := hide (B5.out.trans b6)
    clear p6 b6 P5 B5
    go_wp2
    go_ret
    exact ⟨rfl, B6⟩
  · go_wp2_with fail
    refine (zznew_any _ _ _).mono ?_
    rintro e w2 ⟨rfl, rfl⟩
    have P2 := hide (Pl.made w1 v true)
    have B2 : Hid (Below w1.heap.size w1 _) := (Below.refl w1.heap.size w1).alloc (Nat.le_refl _) (.cells #[.int .i64 v, .bool true] 52)
    generalize w1.alloc (.cells #[.int .i64 v, .bool true] 52) = w2 at *
    go_wp2_with fail
    refine (zzdelete_any _ _ _ _ _ P2.out).mono ?_
    rintro e w3 ⟨rfl, p3, b3⟩
    have P3 := hide p3
    have B3 := hide (B2.out.trans b3)
    clear p3 b3 P2 B2
    go_wp2_with fail
    refine (zzload_any _ _ _ _ _ P3.out).mono ?_
    rintro e w4 ⟨rfl, p4, b4⟩
    have P4 := hide p4
    have B4 := hide (B3.out.trans b4)
    clear p4 b4 P3 B3
    go_wp2_with fail
    refine (zzloadOrStore_no _ _ _ _ _ P4.out).mono ?_
    rintro e w5 ⟨rfl, p5, b5⟩
    have P5 := hide p5
    have B5 := hide (B4.out.trans b5)
    clear p5 b5 P4 B4
    go_wp2_with fail
    refine (zzload_any _ _ _ _ _ P5.out).mono ?_
    rintro e w6 ⟨rfl, p6, b6⟩
    have B6 := hide (B5.out.trans b6)
    clear p6 b6 P5 B5
    go_wp2
    go_ret
    exact ⟨rfl, B6⟩
end Go.Proofs.Qxb6603615a.Plain
