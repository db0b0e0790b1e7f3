import Derived.Test.Qxb6003469aBitC
import Derived.Laws.BitsAllLaws
namespace Go.Proofs.Qxb6003469a.BitD
open Go.ChangeShapes Go.WideShapes Go.ChangeAt Go.RowKit
open Go.Proofs.Qxb6003469a.BitA
open Go.Proofs.Qxb6003469a.BitB
open Go.Proofs.Qxb6003469a.BitC
set_option linter.unusedVariables false

/-! ### numbers -/
theorem and_low (t : Int) (h0 : 0 ≤ t) (h1 : t ≤ 65535) : ∃ p : Nat, bits .and .u16 t 255 = (p : Int) ∧ p < 256 := by
  refine ⟨t.toNat &&& 255, ?_, ?_⟩
  · rw [u16_and t 255 h0 (by omega) (by omega) (by omega)]; rfl
  · have := Nat.and_le_right (n := t.toNat) (m := 255); omega

theorem pow_cases (r : Nat) (h : r < 8) : ∃ m : Nat, (128 : Int) / 2 ^ r = (m : Int) ∧ 0 < m ∧ m < 256 := by
  have : r = 0 ∨ r = 1 ∨ r = 2 ∨ r = 3 ∨ r = 4 ∨ r = 5 ∨ r = 6 ∨ r = 7 := by omega
  rcases this with rfl | rfl | rfl | rfl | rfl | rfl | rfl | rfl
  · exact ⟨128, by decide, by decide, by decide⟩
  · exact ⟨64, by decide, by decide, by decide⟩
  · exact ⟨32, by decide, by decide, by decide⟩
  · exact ⟨16, by decide, by decide, by decide⟩
  · exact ⟨8, by decide, by decide, by decide⟩
  · exact ⟨4, by decide, by decide, by decide⟩
  · exact ⟨2, by decide, by decide, by decide⟩
  · exact ⟨1, by decide, by decide, by decide⟩

theorem or_bit (v : Int) (h0 : 0 ≤ v) (h1 : v ≤ 255) (p : Nat) : 0 < bits .or .u8 v (128 / 2 ^ (p % 8)) ∧ bits .or .u8 v (128 / 2 ^ (p % 8)) ≤ 255 := by
  obtain ⟨m, e, m0, m1⟩ := pow_cases (p % 8) (Nat.mod_lt _ (by decide))
  rw [e, u8_or v m h0 (by omega) (by omega) (by omega)]
  have h2 : (m : Int).toNat = m := by omega
  rw [h2]
  have h3 := Nat.right_le_or (n := v.toNat) (m := m)
  have h4 : v.toNat ||| m < 2 ^ 8 := Nat.or_lt_two_pow (by omega) (by omega)
  omega

/-! ### the two arrays -/
structure Maps (w : World) (M : Nat) (mp : Nat → Int) (pr : Nat → Bool) : Prop where
  cell : ∀ i, i < 8192 → w.cell? ⟨M, i, none⟩ = some (.int .u8 (mp i))
  pres : ∀ i, i < 256 → w.cell? ⟨M + 1, i, none⟩ = some (.bool (pr i))
  warm : ∀ i, w.frozen? ⟨M, i, none⟩ = false
  warm' : ∀ i, w.frozen? ⟨M + 1, i, none⟩ = false
  range : ∀ i, 0 ≤ mp i ∧ mp i ≤ 255
  full : ∀ b, b < 256 → pr b = true → ∃ m, m < 32 ∧ mp (b * 32 + m) ≠ 0

theorem set_far {w : World} {a b o p : Nat} {v : Value} (h : a ≠ b) : (w.setCell ⟨a, o, none⟩ v).cell? ⟨b, p, none⟩ = w.cell? ⟨b, p, none⟩ :=
  World.cell?_setCell_other _ _ _ _ (fun e => h (congrArg Addr.block e))

theorem Maps.step {w : World} {M : Nat} {mp : Nat → Int} {pr : Nat → Bool} (h : Maps w M mp pr) (q p : Nat) (hq : q < 256) (hp : p < 256) (x : Int) (hx : 0 < x) (hx1 : x ≤ 255) :
    Maps ((w.setCell ⟨M, q * 32 + p / 8, none⟩ (.int .u8 x)).setCell ⟨M + 1, q, none⟩ (.bool true)).drew M (fun i => if i = q * 32 + p / 8 then x else mp i) (fun i => if i = q then true else pr i) := by
  constructor
  · intro i hi
    rw [World.cell?_drew]
    refine (set_far (by omega)).trans ?_
    by_cases e : i = q * 32 + p / 8
    · subst e; simp only [if_true]; exact set_same (h.cell _ hi)
    · simp only [if_neg e]; exact (set_other (by omega)).trans (h.cell i hi)
  · intro i hi
    rw [World.cell?_drew]
    by_cases e : i = q
    · subst e; simp only [if_true]; exact set_same ((set_far (by omega)).trans (h.pres _ hi))
    · simp only [if_neg e]; exact (set_other (by omega)).trans ((set_far (by omega)).trans (h.pres i hi))
  · intro i; show ((w.setCell _ _).setCell _ _).frozen? _ = _; rw [World.frozen?_setCell, World.frozen?_setCell]; exact h.warm i
  · intro i; show ((w.setCell _ _).setCell _ _).frozen? _ = _; rw [World.frozen?_setCell, World.frozen?_setCell]; exact h.warm' i
  · intro i
    by_cases e : i = q * 32 + p / 8
    · simp only [if_pos e]; omega
    · simp only [if_neg e]; exact h.range i
  · intro b hb hpr
    by_cases e : b = q
    · subst e
      exact ⟨p / 8, by omega, by simp only [if_true]; omega⟩
    · simp only [if_neg e] at hpr
      obtain ⟨m, hm, hne⟩ := h.full b hb hpr
      refine ⟨m, hm, ?_⟩
      by_cases e2 : b * 32 + m = q * 32 + p / 8
      · simp only [if_pos e2]; omega
      · simp only [if_neg e2]; exact hne

theorem Maps.block {w w' : World} {M : Nat} {mp : Nat → Int} {pr : Nat → Bool} (h : Maps w M mp pr) (h0 : w'.heap[M]? = w.heap[M]?) (h1 : w'.heap[M + 1]? = w.heap[M + 1]?) : Maps w' M mp pr :=
  ⟨fun i hi => (World.cell?_of_block (w := w) h0).trans (h.cell i hi), fun i hi => (World.cell?_of_block (w := w) h1).trans (h.pres i hi),
   fun i => (World.frozen?_of_block (w := w) h0).trans (h.warm i), fun i => (World.frozen?_of_block (w := w) h1).trans (h.warm' i), h.range, h.full⟩
theorem Maps.grown {w w' : World} {M : Nat} {mp : Nat → Int} {pr : Nat → Bool} {row : Option Nat} (h : Maps w M mp pr) (hg : w.grownBy w' row) (hs : M + 2 ≤ w.heap.size) (hr : ∀ g, row = some g → M + 2 ≤ g) : Maps w' M mp pr :=
  h.block (hg.block M (by omega) (fun e => by have := hr M e.symm; omega)) (hg.block (M + 1) (by omega) (fun e => by have := hr (M + 1) e.symm; omega))
theorem Maps.alloc {w : World} {M : Nat} {mp : Nat → Int} {pr : Nat → Bool} (h : Maps w M mp pr) (hs : M + 2 ≤ w.heap.size) (o : Obj) : Maps (w.alloc o) M mp pr :=
  h.block (Below.heap_alloc _ _ _ (by omega)) (Below.heap_alloc _ _ _ (by omega))

theorem isU8_eq {v : Value} (h : isU8 v = true) : v = .int .u8 0 := by
  unfold isU8 at h
  split at h
  · rename_i z; simp at h; rw [h]
  · cases h
theorem isFalse_eq {v : Value} (h : BitC.isFalse v = true) : v = .bool false := by
  unfold BitC.isFalse at h
  split at h
  · rename_i b; cases b
    · rfl
    · cases h
  · cases h
theorem all_at {C : Array Value} {p : Value → Bool} (h : ∀ v ∈ C.toList, p v = true) {i : Nat} (hi : i < C.size) : ∃ v, C[i]? = some v ∧ p v = true :=
  ⟨C[i], Array.getElem?_eq_getElem hi, h _ (by simp)⟩

theorem Maps.start (w : World) (C1 C2 : Array Value) (h1 : C1.size = 8192) (h1' : ∀ v ∈ C1.toList, isU8 v = true) (h2 : C2.size = 256) (h2' : ∀ v ∈ C2.toList, BitC.isFalse v = true) :
    Maps ((w.alloc (.cells C1 68)).alloc (.cells C2 69)) w.heap.size (fun _ => 0) (fun _ => false) := by
  have hz : (w.alloc (.cells C1 68)).heap.size = w.heap.size + 1 := by simp
  have hb : ((w.alloc (.cells C1 68)).alloc (.cells C2 69)).heap[w.heap.size]? = (w.alloc (.cells C1 68)).heap[w.heap.size]? := Below.heap_alloc _ _ _ (by omega)
  constructor
  · intro i hi
    refine (World.cell?_of_block (w := w.alloc (.cells C1 68)) hb).trans ?_
    rw [World.cell?_alloc_at _ _ _ _ rfl]
    obtain ⟨v, e, hv⟩ := all_at h1' (i := i) (by omega)
    rw [e, isU8_eq hv]
  · intro i hi
    rw [World.cell?_alloc_at _ _ _ _ hz.symm]
    obtain ⟨v, e, hv⟩ := all_at h2' (i := i) (by omega)
    rw [e, isFalse_eq hv]
  · intro i
    exact (World.frozen?_of_block (w := w.alloc (.cells C1 68)) hb).trans (World.frozen?_alloc_new _ _ _ _)
  · intro i
    rw [← hz]; exact World.frozen?_alloc_new _ _ _ _
  · intro i; simp
  · intro b _ h; cases h

/-! ### blocks -/
theorem enc_snoc (b : Int) (ms : List Int) : ∀ bl : List (Int × List Int), enc (bl ++ [(b, ms)]) = enc bl ++ (b :: (ms.length : Int) :: ms)
  | [] => by simp [enc]
  | (x, ys) :: r => by simp [enc, enc_snoc b ms r]
theorem Good_snoc (b : Int) (ms : List Int) (h0 : 0 ≤ b) (h1 : b ≤ 255) (h2 : 1 ≤ ms.length) (h3 : ms.length ≤ 32) (h4 : ms.getD (ms.length - 1) 0 ≠ 0) :
    ∀ (bl : List (Int × List Int)) (p : Int), BitB.Good p bl → (∀ x ∈ bl, x.1 < b) → p < b → BitB.Good p (bl ++ [(b, ms)])
  | [], p, _, _, hp => ⟨⟨hp, h0, h1⟩, ⟨h2, h3, h4⟩, trivial⟩
  | (x, ys) :: r, p, hg, hx, hp => ⟨hg.1, hg.2.1, Good_snoc b ms h0 h1 h2 h3 h4 r x hg.2.2 (fun y hy => hx y (by simp [hy])) (hx (x, ys) (by simp))⟩

theorem own_ge {w : World} {base : Nat} {e : TypeId} {size : Nat} {v : Value} {n : Nat} {xs : List Value} (h : w.ownsRow base e size v n xs) : ∀ g, v.ownBlock = some g → base ≤ g := by
  intro g hg
  rcases h.2 with ⟨rfl, _⟩ | ⟨g', cap, cur, rfl, hb, _⟩
  · cases hg
  · simp only [Value.ownBlock, Option.some.injEq] at hg; omega

theorem own_row {w : World} {base : Nat} {e : TypeId} {v : Value} {n : Nat} {zs : List Int} (h : w.ownsRow base e 1 v n (zs.map (Value.int .u8))) :
    ∃ a c, v = .slice a n c ∧ n = zs.length ∧ n ≤ c ∧ c ≤ maxLen ∧ KRow .u8 w a zs := by
  have hl : zs.length = n := by simpa using h.1
  rcases h.2 with ⟨rfl, rfl⟩ | ⟨g, cap, cur, rfl, hb, hh, h1, h2, h3, h4⟩
  · exact ⟨none, 0, rfl, hl.symm, Nat.le_refl _, Nat.zero_le _, fun k hk => by omega⟩
  · refine ⟨_, cap, rfl, hl.symm, h1, h2, fun k hk => ⟨g, 0, rfl, ?_⟩⟩
    rw [Nat.mul_one] at h4
    have e1 : cur.toList[k]? = some (.int .u8 zs[k]) := by
      have := congrArg (fun l : List Value => l[k]?) h4
      simp only [List.getElem?_take, List.getElem?_map] at this
      rw [if_pos (by omega), List.getElem?_eq_getElem hk] at this
      exact this
    have : w.cell? ⟨g, 0 + k, none⟩ = cur[k]? := by
      rw [Nat.zero_add]
      simp [World.cell?, hh]
    rw [this, ← Array.getElem?_toList]
    exact e1
end Go.Proofs.Qxb6003469a.BitD
