import Derived.Test.Qxb6003469aShH
import Derived.Test.Qxb6003469aOpen
namespace Go.Proofs.Qxb6003469a.ShO
open Go.ChangeShapes Go.WideShapes Go.ChangeAt Go.RowKit
open Go.Proofs.Qxb6003469a.BitA
open Go.Proofs.Qxb6003469a.Open
open Go.Proofs.Qxb6003469a.ShA

theorem strs_of {H : Type} {enc : TypeId × Value → H} {W : World} {a : Option Addr} {len cap : Nat} {d : DataW H} {p : List MemPlace} (h : DataW.Trod enc Try.prog W 0 (fun _ => true) true 28 (.slice a len cap) d p) :
    ∃ ss : List ByteArray, ss.length = len ∧ len ≤ maxLen ∧ (a = none → len = 0 ∧ cap = 0) ∧ (∀ s ∈ ss, s.size ≤ maxLen) ∧ StrRow W a ss := by
  obtain ⟨fuel, hf⟩ := h
  rcases open_strings Try.underlying28 Try.underlying9 (by kernel_rfl) hf with ⟨hcs, _⟩ | ⟨x, l, c, ss, hcs, _, hl, hm, hz, _, hcell, hws⟩
  · simp [Value.cells] at hcs
    obtain ⟨rfl, rfl, rfl⟩ := hcs
    exact ⟨[], rfl, Nat.zero_le _, fun _ => ⟨rfl, rfl⟩, by simp, fun k hk => absurd hk (Nat.not_lt_zero _)⟩
  · simp [Value.cells] at hcs
    obtain ⟨rfl, rfl, rfl⟩ := hcs
    have hz' : ss.length = cap := by simpa using hz
    refine ⟨ss.take len, by simp; omega, Nat.le_trans hl hm, (fun e => by cases e), fun s hs => hws s (List.mem_of_mem_take hs), fun k hk => ?_⟩
    have hk' : k < ss.length := by simp at hk; omega
    obtain ⟨b, off, e, hc⟩ := plain_at (hcell 0 (by omega)) (hcell k hk')
    refine ⟨b, off, by rw [e], ?_⟩
    rw [hc, List.getElem_take, List.getD_eq_getElem?_getD, List.getElem?_eq_getElem hk']; rfl
end Go.Proofs.Qxb6003469a.ShO
