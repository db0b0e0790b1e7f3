import Derived.Test.Qxb6003432aFindC
namespace Go.Proofs.Qxb6003432a.FindD
open Go.ChangeShapes Go.WideShapes Go.ChangeAt Go.RowKit
open Go.Proofs.Qxb6003432a.FindA
open Go.Proofs.Qxb6003432a.FindB
set_option linter.unusedVariables false

/-- The first of the list's texts that is x: its number. -/
def firstAt : List ByteArray → List Int → ByteArray → Option Int
  | s :: F, z :: fa, x => if s = x then some z else firstAt F fa x
  | _, _, _ => none

/-- What the variable 's' holds: the list's pairs, their number, the map. -/
structure Laid (w : World) (S : Nat) (F : List ByteArray) (fa : List Int) (r : Option Nat) : Prop where
  wire : ∀ k (h : k < F.length), w.cell? ⟨S, k * 2, none⟩ = some (.string F[k])
  place : ∀ k (h : k < fa.length), w.cell? ⟨S, k * 2 + 1, none⟩ = some (.int .i64 fa[k])
  cnt : w.cell? ⟨S, 32, none⟩ = some (.int .i64 F.length)
  mp : w.cell? ⟨S, 33, none⟩ = some (.map r)

theorem arr49 : Try.prog.arrayLen 49 = 16 := by kernel_rfl
theorem cells49 (w : World) : (sizeOf (Try.prog.elem 49)).run Try.prog w = .ok 2 w := by kernel_rfl
theorem under49 : Try.prog.underlying 49 = some (.array (Try.prog.arrayLen 49) (Try.prog.elem 49)) := by kernel_rfl
theorem run_few (w : World) (S n : Nat) (hn : n ≤ 16) : (Instr.sliceAt 49 (.pointer (some ⟨S, 0, none⟩)) none (some (.int .i64 (n : Int))) none).run Try.prog w = .ok (.slice (some ⟨S, 0, none⟩) n 16) w := by
  rw [run_sliceAt_array_h (P := Try.prog) w 49 ⟨S, 0, none⟩ under49 .i64 (n : Int) (by omega) (by rw [arr49]; omega), cells49, arr49]
  simp [slicedAt, add_plain]

theorem firstAt_hit (x : ByteArray) : ∀ (F : List ByteArray) (fa : List Int) (k : Nat) (h : k < F.length) (h' : k < fa.length), F[k] = x → (∀ j (hj : j < F.length), j < k → F[j] ≠ x) → firstAt F fa x = some fa[k]
  | s :: F, z :: fa, 0, _, _, hx, _ => by simp at hx; simp [firstAt, hx]
  | s :: F, z :: fa, k + 1, h, h', hx, hno => by
    have h0 := hno 0 (by simp) (by omega)
    simp at h0
    simp only [firstAt, if_neg h0, List.getElem_cons_succ]
    exact firstAt_hit x F fa k (by simpa using h) (by simpa using h') (by simpa using hx) (fun j hj hjk => by have h := hno (j + 1) (by simpa using hj) (by omega); rwa [List.getElem_cons_succ] at h)
theorem firstAt_none (x : ByteArray) : ∀ (F : List ByteArray) (fa : List Int), (∀ j (hj : j < F.length), F[j] ≠ x) → firstAt F fa x = none
  | [], _, _ => by simp [firstAt]
  | s :: F, [], _ => by simp [firstAt]
  | s :: F, z :: fa, hno => by
    have h0 := hno 0 (by simp)
    simp at h0
    simp only [firstAt, if_neg h0]
    exact firstAt_none x F fa (fun j hj => by have h := hno (j + 1) (by simpa using hj); rwa [List.getElem_cons_succ] at h)

def out (F : List ByteArray) (fa : List Int) (x : ByteArray) (res : Int × Bool) : Int × Bool := match firstAt F fa x with
  | some v => (v, true)
  | none => res
def FindPost (p : Int × Bool) (w : World) (e : Ending) (w' : World) : Prop := e = .returned (.tuple #[.int .i64 p.1, .bool p.2]) ∧ Below w.heap.size w w'

set_option maxHeartbeats 400000 in
theorem find_any (S : Nat) (F : List ByteArray) (fa : List Int) (hl : fa.length = F.length) (n : Nat) (hn : F.length = n) (h16 : n ≤ 16) (r : Option Nat) (x : ByteArray) (w : World) (hL : Laid w S F fa r) (hS : S < w.heap.size)
    (res : Int × Bool) (h0 : r = none → res = (0, false)) (h1 : ∀ B, r = some B → ∀ w', Below w.heap.size w w' → (Instr.lookup 50 (.map (some B)) (.string x) true).run Try.prog w' = .ok (.tuple #[.int .i64 res.1, .bool res.2]) w') :
    Calls Try.prog 41 #[.pointer (some ⟨S, 0, none⟩), .string x] w fun e w' => FindPost (out F fa x res) w e w' := by
  have c1 := hL.cnt
  rw [hn] at c1
  have hsl := fun w => run_few w S n h16
  have hmn := fun (w : World) (r : Option Nat) => run_eql_map_nil (P := Try.prog) w 50 9 3 r Try.underlying50
  have HL := hide hL
  have HN := hide hn
  have Hl := hide hl
  have H0 := hide h0
  have H1 := hide h1
  clear hL hl hn h0 h1
  go_enter Try.func41, Try.ntmps41
  go_wp2
  go_quiet (fail)
  go_wp2
  go_loopw [19] (fun i w' => ∃ k : Nat, k ≤ n ∧ i = .int .i64 k ∧ Hid (∀ j (h : j < F.length), j < k → F[j] ≠ x) ∧ Hid (Below w.heap.size w w')) (fun i _ => n - (intOf i).toNat)
  case atStart => exact ⟨0, Nat.zero_le _, rfl, fun j _ h => absurd h (Nat.not_lt_zero _), below_drewN (Below.refl _ _) _⟩
  case round =>
    obtain ⟨k, hk, rfl, hno, hB⟩ := hrel
    clear c1
    by_cases hlt : k < n
    · have hkF : k < F.length := by rw [HN.out]; exact hlt
      have hka : k < fa.length := by rw [Hl.out, HN.out]; exact hlt
      have d1 : wr.cell? ⟨S, k * 2, none⟩ = some (.string F[k]) := (hB.out.cell (p := ⟨S, k * 2, none⟩) hS).trans (HL.out.wire k hkF)
      have d2 : wr.cell? ⟨S, k * 2 + 1, none⟩ = some (.int .i64 fa[k]) := (hB.out.cell (p := ⟨S, k * 2 + 1, none⟩) hS).trans (HL.out.place k hka)
      by_cases hx : F[k] = x
      · have e1 := str_eq hx
        have HO : Hid (out F fa x res = (fa[k], true)) := by show _ = _; rw [out, firstAt_hit x F fa k hkF hka hx hno]
        clear hx
        generalize fa[k] = z at *
        generalize F[k] = y at *
        go_wp2
        go_ret2
        exact ⟨by rw [HO.out]; rfl, (hB.out.alloc (by have := hB.out.size; omega) _)⟩
      · have e1 := str_ne hx
        have HX := hide hx
        clear hx
        generalize fa[k] = z at *
        generalize hy : F[k] = y at *
        have HY := hide hy
        clear hy
        go_wp2
        go_roundw
        case rel =>
          refine ⟨k + 1, by omega, by go_num, fun j hj hjk => ?_, hB.out.alloc (by have := hB.out.size; omega) _⟩
          by_cases hjk' : j = k
          · subst hjk'; rw [HY.out]; exact HX.out
          · exact hno.out j hj (by omega)
        case measure => simp [intOf]; omega
    · have HO : Hid (out F fa x res = res) := by show _ = _; rw [out, firstAt_none x F fa (fun j hj => hno.out j hj (by have := HN.out; omega))]
      have d3 : wr.cell? ⟨S, 33, none⟩ = some (.map r) := (hB.out.cell (p := ⟨S, 33, none⟩) hS).trans HL.out.mp
      cases r with
      | none =>
        have HR := hide (H0.out rfl)
        go_wp2
        go_ret2
        exact ⟨by rw [HO.out, HR.out]; rfl, hB.out⟩
      | some B =>
        have hlk := H1.out B rfl wr hB.out
        go_wp2
        go_ret2
        exact ⟨by rw [HO.out]; rfl, hB.out⟩
end Go.Proofs.Qxb6003432a.FindD
