import Derived.Test.Qxb6003469aBitA
import Derived.SliceStrings
import Derived.ChangeOld
import Derived.Below
namespace Go.Proofs.Qxb6003469a.Open
open Go.ChangeShapes Go.WideShapes Go.ChangeAt Go.RowKit
open Go.Proofs.Qxb6003469a.BitA

/-- A cell through an address that holds something lies at a plain place. -/
theorem plain_at {w : World} {x : Addr} {i : Nat} {v v0 : Value} (h0 : w.cell? (x.add 0) = some v0) (h : w.cell? (x.add i) = some v) : ∃ b off, x = ⟨b, off, none⟩ ∧ w.cell? ⟨b, off + i, none⟩ = some v := by
  obtain ⟨b, off, spot⟩ := x
  have hs : spot = none := by simpa [Addr.add] using World.cell?_spot h0
  subst hs
  exact ⟨b, off, rfl, by rw [← add_plain]; exact h⟩

theorem u16s_of {H : Type} {enc : TypeId × Value → H} {W : World} {a : Option Addr} {len cap : Nat} {d : DataW H} {p : List MemPlace} (h : DataW.Trod enc Try.prog W 0 (fun _ => true) true 35 (.slice a len cap) d p) :
    ∃ zs : List Int, zs.length = len ∧ len ≤ maxLen ∧ (a = none → len = 0 ∧ cap = 0) ∧ (∀ z ∈ zs, (Lit.int .u16 z).wf = true) ∧ KRow .u16 W a zs := by
  obtain ⟨fuel, hf⟩ := h
  rcases open_ints Try.underlying35 Try.underlying40 (by kernel_rfl) hf with ⟨hcs, _⟩ | ⟨x, l, c, ss, hcs, _, hl, hm, hz, _, hcell, hws⟩
  · simp [Value.cells] at hcs
    obtain ⟨rfl, rfl, rfl⟩ := hcs
    exact ⟨[], rfl, Nat.zero_le _, fun _ => ⟨rfl, rfl⟩, by simp, fun k hk => absurd hk (Nat.not_lt_zero _)⟩
  · simp [Value.cells] at hcs
    obtain ⟨rfl, rfl, rfl⟩ := hcs
    have hz' : ss.length = cap := by simpa using hz
    refine ⟨ss.take len, by simp; omega, Nat.le_trans hl hm, (fun e => by cases e), fun s hs => hws s (List.mem_of_mem_take hs), fun k hk => ?_⟩
    have hk' : k < ss.length := by simp at hk; omega
    obtain ⟨b, off, e, hc⟩ := plain_at (hcell 0 (by omega)) (hcell k hk')
    refine ⟨b, off, by rw [e], ?_⟩
    rw [hc, List.getElem_take, List.getD_eq_getElem?_getD, List.getElem?_eq_getElem hk']; rfl

theorem own : ownKnob Try.prog.godebug = none := by kernel_rfl
theorem laidOut : laidOutB Try.prog = true := by kernel_rfl
end Go.Proofs.Qxb6003469a.Open
