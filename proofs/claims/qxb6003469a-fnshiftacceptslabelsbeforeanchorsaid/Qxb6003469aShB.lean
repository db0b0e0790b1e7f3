import Derived.Test.Qxb6003469aShA
namespace Go.Proofs.Qxb6003469a.ShB
open Go.ChangeShapes Go.WideShapes Go.ChangeAt Go.RowKit
open Go.Proofs.Qxb6003469a.BitA
open Go.Proofs.Qxb6003469a.ShA
set_option linter.unusedVariables false

theorem info9 : (Try.prog.info? 9).map (fun i => (i.zero, i.size, i.bytes)) = some (some (.string ⟨#[]⟩), 1, 16) := by kernel_rfl

/-- The new row of a clone: the first k strings stand. -/
structure CopS (w : World) (R n : Nat) (zs : List ByteArray) (k : Nat) : Prop where
  done : ∀ j (h : j < zs.length), j < k → w.cell? ⟨R, j, none⟩ = some (.string zs[j])
  has : ∀ o, o < n → ∃ v, w.cell? ⟨R, o, none⟩ = some v
  warm : ∀ o, w.frozen? ⟨R, o, none⟩ = false
theorem CopS.step {w : World} {R n : Nat} {zs : List ByteArray} {k : Nat} (h : CopS w R n zs k) (hk : k < n) (hz : k < zs.length) {z : ByteArray} (e : zs[k] = z) : CopS (w.setCell ⟨R, k, none⟩ (.string z)) R n zs (k + 1) := by
  constructor
  · intro j hj hjk
    by_cases ej : j = k
    · subst ej
      obtain ⟨v, hv⟩ := h.has j hk
      rw [e]; exact set_same hv
    · exact (set_other (by omega)).trans (h.done j hj (by omega))
  · intro o ho; exact set_has (h.has o ho)
  · intro o; rw [World.frozen?_setCell]; exact h.warm o
theorem CopS.start (w : World) (n : Nat) (zs : List ByteArray) (z : Value) (e : TypeId) : CopS (w.alloc (.cells (madeCells #[z] n) e)) w.heap.size n zs 0 := by
  constructor
  · intro j _ h; omega
  · intro o ho
    rw [World.cell?_alloc_at _ _ _ _ rfl]
    exact ⟨_, Array.getElem?_eq_getElem (by simpa [size_madeCells] using ho)⟩
  · intro o; exact World.frozen?_alloc_new _ _ _ _

def ClS (n : Nat) (zs : List ByteArray) (w : World) (e : Ending) (w' : World) : Prop := ∃ a c, e = .returned (.slice a n c) ∧ StrRow w' a zs ∧ Below w.heap.size w w'

theorem cloneS_some (x : Addr) (n c : Nat) (zs : List ByteArray) (hn : zs.length = n) (hm : n ≤ 1048576) (w : World) (hr : StrRow w (some x) zs) :
    Calls Try.prog 17 #[.slice (some x) n c] w fun e w' => ClS n zs w e w' := by
  have hmk := run_make_row' (P := Try.prog) 28 9 (.string ⟨#[]⟩) 16 Try.underlying28 info9 rfl .i64 .i64 n (by omega) (by omega)
  have hnil := fun (w : World) (a : Option Addr) (n c : Nat) => Lib.run_eql_slice_nil (P := Try.prog) w 28 9 a n c 0 0 Try.underlying28
  have HN := hide hn
  have HR := hide hr
  clear hn hr
  go_enter Try.func17, Try.ntmps17
  go_wp2
  go_loopw [4] (fun i wr => ∃ k : Nat, k ≤ n ∧ i = .int .i64 k ∧ Hid (CopS wr w.heap.size n zs k) ∧ Hid (Below w.heap.size w wr)) (fun i _ => n - (intOf i).toNat)
  case atStart => exact ⟨0, Nat.zero_le _, rfl, CopS.start _ _ _ _ _, (Below.refl _ _).alloc (Nat.le_refl _) _⟩
  case round =>
    obtain ⟨k, hk, rfl, hC, hB⟩ := hrel
    by_cases hlt : k < n
    · have hkz : k < zs.length := by rw [HN.out]; exact hlt
      obtain ⟨b, off, e, hc⟩ := HR.out k hkz
      obtain rfl := Option.some.inj e
      have hc' : wr.cell? ⟨b, off + k, none⟩ = some (.string zs[k]) := cellB hB.out (cell_lt hc) hc
      obtain ⟨v, hv⟩ := hC.out.has k hlt
      have hf := hC.out.warm k
      have hS := hide (hC.out.step hlt hkz rfl)
      clear hc
      generalize zs[k] = z at *
      go_wp2
      go_roundw
      case rel => exact ⟨k + 1, by omega, by go_num, hS, hB.out.setCell (Nat.le_refl _) _⟩
      case measure => simp [intOf]; omega
    · go_wp2
      go_ret
      refine ⟨_, _, rfl, fun j hj => ⟨_, _, rfl, ?_⟩, hB.out⟩
      rw [Nat.zero_add]
      exact hC.out.done j hj (by have := HN.out; omega)
theorem cloneS_nil (w : World) : Calls Try.prog 17 #[.slice none 0 0] w fun e w' => e = .returned (.slice none 0 0) ∧ w' = w := by
  have hnil := fun (w : World) (a : Option Addr) (n c : Nat) => Lib.run_eql_slice_nil (P := Try.prog) w 28 9 a n c 0 0 Try.underlying28
  go_enter Try.func17, Try.ntmps17
  go_wp2
  go_ret
  exact ⟨rfl, rfl⟩
theorem cloneS_any (a : Option Addr) (n c : Nat) (zs : List ByteArray) (hn : zs.length = n) (hm : n ≤ 1048576) (w : World) (hr : StrRow w a zs) (h0 : a = none → n = 0 ∧ c = 0) :
    Calls Try.prog 17 #[.slice a n c] w fun e w' => ClS n zs w e w' := by
  cases a with
  | none =>
    obtain ⟨rfl, rfl⟩ := h0 rfl
    refine (cloneS_nil w).mono ?_
    rintro e w' ⟨rfl, rfl⟩
    exact ⟨none, 0, rfl, fun k hk => by omega, Below.refl _ _⟩
  | some x => exact cloneS_some x n c zs hn hm w hr

/-- Where lastShared says no, the last of the labels is none of those below. -/
def LastPost (F M : List ByteArray) (w : World) (e : Ending) (w' : World) : Prop :=
  ∃ b : Bool, e = .returned (.bool b) ∧ (b = false → ∀ m (hm : m + 1 = F.length), ∀ s ∈ M, s ≠ F[m]) ∧ w' = w

theorem last_any (a1 a3 : Option Addr) (n1 c1 n3 c3 : Nat) (F M : List ByteArray) (h1 : F.length = n1) (m1 : n1 ≤ maxLen) (h3 : M.length = n3) (m3 : n3 ≤ maxLen) (w : World) (r1 : StrRow w a1 F) (r3 : StrRow w a3 M) :
    Calls Try.prog 18 #[.slice a1 n1 c1, .slice a3 n3 c3] w fun e w' => LastPost F M w e w' := by
  unfold maxLen at m1 m3
  have H1 := hide h1
  have H3 := hide h3
  have R1 := hide r1
  have R3 := hide r3
  clear r1 r3 h1 h3
  cases n1 with
  | zero =>
    go_enter Try.func18, Try.ntmps18
    go_wp2
    go_ret
    exact ⟨false, rfl, (fun _ m hm => by have := H1.out; omega), rfl⟩
  | succ l =>
    have hlF : l < F.length := by have := H1.out; omega
    obtain ⟨b1, off1, rfl, hc1⟩ := R1.out l hlF
    have e0 : (((l : Int) + 1) == 0) = false := beq_eq_false_iff_ne.2 (by omega)
    have e1 : (l : Int) + 1 - 1 = (l : Int) := by omega
    generalize hls : F[l] = ls at *
    have HLS := hide hls
    clear hls
    go_enter Try.func18, Try.ntmps18
    go_wp2
    go_loop [6] (fun i => ∃ j : Nat, j ≤ n3 ∧ i = .int .i64 j ∧ Hid (∀ q (h : q < M.length), q < j → M[q] ≠ ls)) (fun i => n3 - (intOf i).toNat)
    case atStart => exact ⟨0, Nat.zero_le _, rfl, (fun j _ h => absurd h (Nat.not_lt_zero _))⟩
    case round =>
      obtain ⟨j, hj, rfl, hN⟩ := hrel
      by_cases hlj : j < n3
      · have hkM : j < M.length := by rw [H3.out]; exact hlj
        obtain ⟨b, off, rfl, hcell⟩ := R3.out j hkM
        by_cases hx : M[j] = ls
        · have ex := str_eq hx
          clear hx
          generalize M[j] = s at *
          go_wp2
          go_ret
          exact ⟨true, rfl, (fun h => by cases h), rfl⟩
        · have ex := str_ne hx
          have HX := hide hx
          clear hx
          generalize hsk : M[j] = s at *
          have HK := hide hsk
          clear hsk
          go_wp2
          go_round
          case rel =>
            refine ⟨j + 1, by omega, by go_num, fun q hq hqj => ?_⟩
            by_cases e : q = j
            · subst e; rw [HK.out]; exact HX.out
            · exact hN.out q hq (by omega)
          case measure => simp [intOf]; omega
      · go_wp2
        go_ret
        refine ⟨false, rfl, (fun _ m hm s hs => ?_), rfl⟩
        obtain rfl : m = l := by have := H1.out; omega
        obtain ⟨q, hq, rfl⟩ := List.getElem_of_mem hs
        rw [HLS.out]
        exact hN.out q hq (by have := H3.out; omega)
end Go.Proofs.Qxb6003469a.ShB
