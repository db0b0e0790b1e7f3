import Derived.Test.Qxb6003469aRows
import Derived.WalkKit
import Derived.ProofKit
import Derived.OpenShut
import Derived.ShutString
import Derived.RegionTactic
import Derived.BigRegion
import Derived.Deep.QuietTactic
import Derived.BigQuiet
import Derived.Outline
import Derived.WalkSmall
import Derived.WalkLawsBesides
import Derived.WalkSpells
import Derived.Handy
import Derived.Deep.OwnRows
import Derived.OwnWalk
namespace Go.Proofs.Qxb6003469a.BitA
open Go.ChangeShapes Go.WideShapes Go.ChangeAt Go.RowKit
set_option linter.unusedVariables false

theorem hide {p : Prop} (h : p) : Hid p := h

/-- A slice's elements lie in memory: each is a number of kind q. -/
def KRow (q : IntKind) (w : World) (a : Option Addr) (zs : List Int) : Prop :=
  ∀ k (h : k < zs.length), ∃ b off, a = some ⟨b, off, none⟩ ∧ w.cell? ⟨b, off + k, none⟩ = some (.int q zs[k])

theorem cellB {W w1 : World} {B b o : Nat} {v : Value} (hb : Below B W w1) (h : b < B) (hc : W.cell? ⟨b, o, none⟩ = some v) : w1.cell? ⟨b, o, none⟩ = some v :=
  (hb.cell (p := ⟨b, o, none⟩) h).trans hc
theorem cell_lt {w : World} {b o : Nat} {v : Value} (h : w.cell? ⟨b, o, none⟩ = some v) : b < w.heap.size := by
  by_cases hb : b < w.heap.size
  · exact hb
  · have : w.heap[b]? = none := Array.getElem?_eq_none (by omega)
    simp [World.cell?, this] at h
theorem rowB {q : IntKind} {w w' : World} {a : Option Addr} {ss : List Int} {B : Nat} (h : KRow q w a ss) (hb : Below B w w') (hB : w.heap.size ≤ B) : KRow q w' a ss := by
  intro k hk
  obtain ⟨b, off, e, hc⟩ := h k hk
  exact ⟨b, off, e, cellB hb (Nat.lt_of_lt_of_le (cell_lt hc) hB) hc⟩

theorem ne_off {S a b : Nat} (h : a ≠ b) : (⟨S, a, none⟩ : Addr) ≠ ⟨S, b, none⟩ := fun e => h (congrArg Addr.off e)
theorem set_same {w : World} {a : Addr} {u v : Value} (h : w.cell? a = some u) : (w.setCell a v).cell? a = some v := World.cell?_setCell_same _ _ _ h
theorem set_other {w : World} {S a b : Nat} {v : Value} (h : a ≠ b) : (w.setCell ⟨S, a, none⟩ v).cell? ⟨S, b, none⟩ = w.cell? ⟨S, b, none⟩ := World.cell?_setCell_other _ _ _ _ (ne_off h)
theorem set_has {w : World} {S o p : Nat} {u : Value} (h : ∃ v, w.cell? ⟨S, p, none⟩ = some v) : ∃ v, (w.setCell ⟨S, o, none⟩ u).cell? ⟨S, p, none⟩ = some v := by
  obtain ⟨v, hv⟩ := h
  by_cases e : o = p
  · subst e; exact ⟨u, set_same hv⟩
  · exact ⟨v, (set_other e).trans hv⟩

def RetB (w : World) (e : Ending) (w' : World) : Prop := ∃ b : Bool, e = .returned (.bool b) ∧ w' = w
theorem bytes23_any (a : Option Addr) (n c : Nat) (w : World) : Calls Try.prog 23 #[.slice a n c] w fun e w' => RetB w e w' := by
  go_enter Try.func23, Try.ntmps23
  go_wp2
  all_goals (go_ret; exact ⟨_, rfl, rfl⟩)

theorem info40 : (Try.prog.info? 40).map (fun i => (i.zero, i.size, i.bytes)) = some (some (.int .u16 0), 1, 2) := by kernel_rfl

/-- The new row of a clone: the first k numbers stand. -/
structure Copied (q : IntKind) (w : World) (R n : Nat) (zs : List Int) (k : Nat) : Prop where
  done : ∀ j (h : j < zs.length), j < k → w.cell? ⟨R, j, none⟩ = some (.int q zs[j])
  has : ∀ o, o < n → ∃ v, w.cell? ⟨R, o, none⟩ = some v
  warm : ∀ o, w.frozen? ⟨R, o, none⟩ = false
theorem Copied.step {q : IntKind} {w : World} {R n : Nat} {zs : List Int} {k : Nat} (h : Copied q w R n zs k) (hk : k < n) (hz : k < zs.length) {z : Int} (e : zs[k] = z) : Copied q (w.setCell ⟨R, k, none⟩ (.int q z)) R n zs (k + 1) := by
  constructor
  · intro j hj hjk
    by_cases ej : j = k
    · subst ej
      obtain ⟨v, hv⟩ := h.has j hk
      rw [e]; exact set_same hv
    · exact (set_other (by omega)).trans (h.done j hj (by omega))
  · intro o ho; exact set_has (h.has o ho)
  · intro o; rw [World.frozen?_setCell]; exact h.warm o
theorem Copied.start (q : IntKind) (w : World) (n : Nat) (zs : List Int) (z : Value) (e : TypeId) : Copied q (w.alloc (.cells (madeCells #[z] n) e)) w.heap.size n zs 0 := by
  constructor
  · intro j _ h; omega
  · intro o ho
    rw [World.cell?_alloc_at _ _ _ _ rfl]
    exact ⟨_, Array.getElem?_eq_getElem (by simpa [size_madeCells] using ho)⟩
  · intro o; exact World.frozen?_alloc_new _ _ _ _

def ClK (q : IntKind) (n : Nat) (zs : List Int) (w : World) (e : Ending) (w' : World) : Prop := ∃ a c, e = .returned (.slice a n c) ∧ KRow q w' a zs ∧ Below w.heap.size w w'

theorem cloneU16_some (x : Addr) (n c : Nat) (zs : List Int) (hn : zs.length = n) (hm : n ≤ 1048576) (w : World) (hr : KRow .u16 w (some x) zs) :
    Calls Try.prog 24 #[.slice (some x) n c] w fun e w' => ClK .u16 n zs w e w' := by
  have hmk := run_make_row' (P := Try.prog) 35 40 (.int .u16 0) 2 Try.underlying35 info40 rfl .i64 .i64 n (by omega) (by omega)
  have hnil := fun (w : World) (a : Option Addr) (n c : Nat) => Lib.run_eql_slice_nil (P := Try.prog) w 35 40 a n c 0 0 Try.underlying35
  have HN := hide hn
  have HR := hide hr
  clear hn hr
  go_enter Try.func24, Try.ntmps24
  go_wp2
  go_loopw [4] (fun i wr => ∃ k : Nat, k ≤ n ∧ i = .int .i64 k ∧ Hid (Copied .u16 wr w.heap.size n zs k) ∧ Hid (Below w.heap.size w wr)) (fun i _ => n - (intOf i).toNat)
  case atStart => exact ⟨0, Nat.zero_le _, rfl, Copied.start _ _ _ _ _ _, (Below.refl _ _).alloc (Nat.le_refl _) _⟩
  case round =>
    obtain ⟨k, hk, rfl, hC, hB⟩ := hrel
    by_cases hlt : k < n
    · have hkz : k < zs.length := by rw [HN.out]; exact hlt
      obtain ⟨b, off, e, hc⟩ := HR.out k hkz
      obtain rfl := Option.some.inj e
      have hc' : wr.cell? ⟨b, off + k, none⟩ = some (.int .u16 zs[k]) := cellB hB.out (cell_lt hc) hc
      obtain ⟨v, hv⟩ := hC.out.has k hlt
      have hf := hC.out.warm k
      have hS := hide (hC.out.step hlt hkz rfl)
      clear hc
      generalize zs[k] = z at *
      go_wp2
      go_roundw
      case rel => exact ⟨k + 1, by omega, by go_num, hS, hB.out.setCell (Nat.le_refl _) _⟩
      case measure => simp [intOf]; omega
    · go_wp2
      go_ret
      refine ⟨_, _, rfl, fun j hj => ⟨_, _, rfl, ?_⟩, hB.out⟩
      rw [Nat.zero_add]
      exact hC.out.done j hj (by have := HN.out; omega)
theorem cloneU16_nil (w : World) : Calls Try.prog 24 #[.slice none 0 0] w fun e w' => e = .returned (.slice none 0 0) ∧ w' = w := by
  have hnil := fun (w : World) (a : Option Addr) (n c : Nat) => Lib.run_eql_slice_nil (P := Try.prog) w 35 40 a n c 0 0 Try.underlying35
  go_enter Try.func24, Try.ntmps24
  go_wp2
  go_ret
  exact ⟨rfl, rfl⟩
theorem cloneU16_any (a : Option Addr) (n c : Nat) (zs : List Int) (hn : zs.length = n) (hm : n ≤ 1048576) (w : World) (hr : KRow .u16 w a zs) (h0 : a = none → n = 0 ∧ c = 0) :
    Calls Try.prog 24 #[.slice a n c] w fun e w' => ClK .u16 n zs w e w' := by
  cases a with
  | none =>
    obtain ⟨rfl, rfl⟩ := h0 rfl
    refine (cloneU16_nil w).mono ?_
    rintro e w' ⟨rfl, rfl⟩
    exact ⟨none, 0, rfl, fun k hk => by omega, Below.refl _ _⟩
  | some x => exact cloneU16_some x n c zs hn hm w hr
end Go.Proofs.Qxb6003469a.BitA
