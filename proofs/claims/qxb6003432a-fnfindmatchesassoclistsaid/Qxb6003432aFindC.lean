import Derived.Test.Qxb6003432aFindB
import Derived.Laws.CopyOwn
import Derived.Deep.OwnRows
import Derived.OwnWalk
import Derived.WalkSpells
import Derived.Deep.RegionHeld
namespace Go.Proofs.Qxb6003432a.FindC
open Go.ChangeShapes Go.WideShapes Go.ChangeAt Go.RowKit
open Go.Proofs.Qxb6003432a.FindA
set_option linter.unusedVariables false

theorem info9 : (Try.prog.info? 9).map (fun i => (i.zero, i.size, i.bytes)) = some (some (.string ⟨#[]⟩), 1, 16) := by kernel_rfl
theorem info3 : (Try.prog.info? 3).map (fun i => (i.zero, i.size, i.bytes)) = some (some (.int .i64 0), 1, 8) := by kernel_rfl
theorem size9 : (Try.prog.info? 9).map (·.size) = some 1 := by kernel_rfl
theorem size3 : (Try.prog.info? 3).map (·.size) = some 1 := by kernel_rfl

theorem below_setCells {B : Nat} {a : World} (b : Nat) (hb : B ≤ b) : ∀ (vs : List Value) (o : Nat) (w : World), Below B a w → Below B a (w.setCells b o vs)
  | [], _, _, h => h
  | _ :: r, o, _, h => below_setCells b hb r (o + 1) _ (h.setCell hb _)

/-- A new row of n zero values, filled at once from another row. -/
theorem copy_new {P : Program} (w : World) (dT e : TypeId) (z : Value) (x : Addr) (n c : Nat) (cs : List Value) (hu : P.underlying dT = some (.slice e)) (hs : (P.info? e).map (·.size) = some 1) (hlen : cs.length = n)
    (hsrc : ∀ j v, cs[j]? = some v → w.cell? (x.add j) = some v) (h1 : ∀ v ∈ cs, v.oneCell' = true) :
    ∃ W2, (∀ ty, (Builtin.copy_ #[dT, dT] ty #[.slice (some ⟨w.heap.size, 0, none⟩) n n, .slice (some x) n c]).run P (w.alloc (.cells (madeCells #[z] n) e)) = .ok (goInt n) W2) ∧
      (∀ j (h : j < cs.length), W2.cell? ⟨w.heap.size, 0 + j, none⟩ = some cs[j]) ∧ Below w.heap.size w W2 := by
  have hold : ∀ j, j < cs.length → ((w.alloc (.cells (madeCells #[z] n) e)).cell? ⟨w.heap.size, 0 + j, none⟩).isSome = true := by
    intro j hj
    rw [World.cell?_alloc_at _ _ _ _ rfl]
    simp [madeCells]; omega
  refine ⟨(w.alloc (.cells (madeCells #[z] n) e)).setCells w.heap.size 0 cs, fun ty => ?_, ?_, ?_⟩
  · subst hlen
    refine run_copy_cells (P := P) _ dT dT ty e w.heap.size 0 cs.length cs.length x cs.length c cs hu hs (by simp) ?_ hold (fun j hj => ?_) h1
    · intro j v hv
      have h := hsrc j v hv
      rw [World.cell?_alloc_some _ _ _ (by rw [h]; rfl)]
      exact h
    · exact World.frozen?_alloc_new _ _ _ _
  · exact World.cell?_setCells_in _ _ _ _ hold
  · exact below_setCells _ (Nat.le_refl _) _ _ _ ((Below.refl _ _).alloc (Nat.le_refl _) _)

theorem strs_src {w : World} {x : Addr} {ss : List ByteArray} (hr : StrRow w (some x) ss) : ∀ j v, (ss.map Value.string)[j]? = some v → w.cell? (x.add j) = some v := by
  intro j v hv
  obtain ⟨hj, rfl⟩ := List.getElem?_eq_some_iff.1 hv
  obtain ⟨b, off, e, hc⟩ := hr j (by simpa using hj)
  obtain rfl := Option.some.inj e
  rw [add_plain]; simpa using hc

theorem ints_src {w : World} {x : Addr} {ss : List Int} (hr : IntRow w (some x) ss) : ∀ j v, (ss.map (Value.int .i64))[j]? = some v → w.cell? (x.add j) = some v := by
  intro j v hv
  obtain ⟨hj, rfl⟩ := List.getElem?_eq_some_iff.1 hv
  obtain ⟨b, off, e, hc⟩ := hr j (by simpa using hj)
  obtain rfl := Option.some.inj e
  rw [add_plain]; simpa using hc

theorem cloneStrings_some (x : Addr) (n c : Nat) (ss : List ByteArray) (hn : ss.length = n) (hm : n ≤ 1048576) (w : World) (hr : StrRow w (some x) ss) :
    Calls Try.prog 28 #[.slice (some x) n c] w fun e w' => e = .returned (.slice (some ⟨w.heap.size, 0, none⟩) n n) ∧ StrRow w' (some ⟨w.heap.size, 0, none⟩) ss ∧ Below w.heap.size w w' := by
  have hmk := run_make_row' (P := Try.prog) 30 9 (.string ⟨#[]⟩) 16 Try.underlying30 info9 rfl .i64 .i64 n (by omega) (by omega)
  have hnil := fun (w : World) (a : Option Addr) (n c : Nat) => Lib.run_eql_slice_nil (P := Try.prog) w 30 9 a n c 0 0 Try.underlying30
  obtain ⟨W2, hcp, hcell, hbel⟩ := copy_new (P := Try.prog) w 30 9 (.string ⟨#[]⟩) x n c (ss.map Value.string) Try.underlying30 size9 (by simpa using hn) (strs_src hr) (by simp [Value.oneCell'])
  have hrow : StrRow W2 (some ⟨w.heap.size, 0, none⟩) ss := fun k hk => ⟨_, _, rfl, by have h := hcell k (by simpa using hk); rw [List.getElem_map] at h; exact h⟩
  have HN := hide hn
  have HR := hide hrow
  have HB := hide hbel
  clear hn hr hcell hrow hbel
  go_enter Try.func28, Try.ntmps28
  go_wp2
  go_ret
  exact ⟨rfl, HR, HB⟩

theorem cloneInts_some (x : Addr) (n c : Nat) (ss : List Int) (hn : ss.length = n) (hm : n ≤ 1048576) (w : World) (hr : IntRow w (some x) ss) :
    Calls Try.prog 29 #[.slice (some x) n c] w fun e w' => e = .returned (.slice (some ⟨w.heap.size, 0, none⟩) n n) ∧ IntRow w' (some ⟨w.heap.size, 0, none⟩) ss ∧ Below w.heap.size w w' := by
  have hmk := run_make_row' (P := Try.prog) 31 3 (.int .i64 0) 8 Try.underlying31 info3 rfl .i64 .i64 n (by omega) (by omega)
  have hnil := fun (w : World) (a : Option Addr) (n c : Nat) => Lib.run_eql_slice_nil (P := Try.prog) w 31 3 a n c 0 0 Try.underlying31
  obtain ⟨W2, hcp, hcell, hbel⟩ := copy_new (P := Try.prog) w 31 3 (.int .i64 0) x n c (ss.map (Value.int .i64)) Try.underlying31 size3 (by simpa using hn) (ints_src hr) (by simp [Value.oneCell'])
  have hrow : IntRow W2 (some ⟨w.heap.size, 0, none⟩) ss := fun k hk => ⟨_, _, rfl, by have h := hcell k (by simpa using hk); rw [List.getElem_map] at h; exact h⟩
  have HN := hide hn
  have HR := hide hrow
  have HB := hide hbel
  clear hn hr hcell hrow hbel
  go_enter Try.func29, Try.ntmps29
  go_wp2
  go_ret
  exact ⟨rfl, HR, HB⟩

theorem cloneStrings_nil (w : World) : Calls Try.prog 28 #[.slice none 0 0] w fun e w' => e = .returned (.slice none 0 0) ∧ w' = w := by
  have hnil := fun (w : World) (a : Option Addr) (n c : Nat) => Lib.run_eql_slice_nil (P := Try.prog) w 30 9 a n c 0 0 Try.underlying30
  go_enter Try.func28, Try.ntmps28
  go_wp2
  go_ret
  exact ⟨rfl, rfl⟩
theorem cloneInts_nil (w : World) : Calls Try.prog 29 #[.slice none 0 0] w fun e w' => e = .returned (.slice none 0 0) ∧ w' = w := by
  have hnil := fun (w : World) (a : Option Addr) (n c : Nat) => Lib.run_eql_slice_nil (P := Try.prog) w 31 3 a n c 0 0 Try.underlying31
  go_enter Try.func29, Try.ntmps29
  go_wp2
  go_ret
  exact ⟨rfl, rfl⟩

/-- What a clone gives: a slice of the same length that reads the same, nil if the argument was nil; nothing old has turned. -/
def ClS (ss : List ByteArray) (w : World) (e : Ending) (w' : World) : Prop := ∃ a c, e = .returned (.slice a ss.length c) ∧ StrRow w' a ss ∧ Below w.heap.size w w'
def ClI (zs : List Int) (w : World) (e : Ending) (w' : World) : Prop := ∃ a c, e = .returned (.slice a zs.length c) ∧ IntRow w' a zs ∧ Below w.heap.size w w'
theorem cloneStrings_any (a : Option Addr) (n c : Nat) (ss : List ByteArray) (hn : ss.length = n) (hm : n ≤ 1048576) (w : World) (hr : StrRow w a ss) (h0 : a = none → n = 0 ∧ c = 0) :
    Calls Try.prog 28 #[.slice a n c] w fun e w' => ClS ss w e w' := by
  subst hn
  cases a with
  | none =>
    obtain ⟨h1, rfl⟩ := h0 rfl
    rw [h1]
    refine (cloneStrings_nil w).mono ?_
    rintro e w' ⟨rfl, rfl⟩
    exact ⟨none, 0, by rw [h1], fun k hk => by omega, Below.refl _ _⟩
  | some x =>
    refine (cloneStrings_some x _ c ss rfl hm w hr).mono ?_
    rintro e w' ⟨rfl, h1, h2⟩
    exact ⟨_, _, rfl, h1, h2⟩
theorem cloneInts_any (a : Option Addr) (n c : Nat) (ss : List Int) (hn : ss.length = n) (hm : n ≤ 1048576) (w : World) (hr : IntRow w a ss) (h0 : a = none → n = 0 ∧ c = 0) :
    Calls Try.prog 29 #[.slice a n c] w fun e w' => ClI ss w e w' := by
  subst hn
  cases a with
  | none =>
    obtain ⟨h1, rfl⟩ := h0 rfl
    rw [h1]
    refine (cloneInts_nil w).mono ?_
    rintro e w' ⟨rfl, rfl⟩
    exact ⟨none, 0, by rw [h1], fun k hk => by omega, Below.refl _ _⟩
  | some x =>
    refine (cloneInts_some x _ c ss rfl hm w hr).mono ?_
    rintro e w' ⟨rfl, h1, h2⟩
    exact ⟨_, _, rfl, h1, h2⟩
end Go.Proofs.Qxb6003432a.FindC
