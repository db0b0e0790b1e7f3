import Derived.Test.Qxb6003432aFindE
namespace Go.Proofs.Qxb6003432a.FindG
open Go.ChangeShapes Go.WideShapes Go.ChangeAt Go.RowKit
open Go.Proofs.Qxb6003432a.FindA
open Go.Proofs.Qxb6003432a.FindB
open Go.Proofs.Qxb6003432a.FindD
open Go.Proofs.Qxb6003432a.FindE
open Go.Maps Go.WideMaps
set_option linter.unusedVariables false

theorem cellB {W w1 : World} {B b o : Nat} {v : Value} (hb : Below B W w1) (h : b < B) (hc : W.cell? ⟨b, o, none⟩ = some v) : w1.cell? ⟨b, o, none⟩ = some v :=
  (hb.cell (p := ⟨b, o, none⟩) h).trans hc
theorem cell_lt {w : World} {b o : Nat} {v : Value} (h : w.cell? ⟨b, o, none⟩ = some v) : b < w.heap.size := by
  by_cases hb : b < w.heap.size
  · exact hb
  · have : w.heap[b]? = none := Array.getElem?_eq_none (by omega)
    simp [World.cell?, this] at h

theorem own_below {w w' : World} {B n : Nat} {D : DataW Unit} (h : w.ownsMap Try.prog 9 (plainElem Try.prog 3) B n D) (hb : Below w.heap.size w w') : w'.ownsMap Try.prog 9 (plainElem Try.prog 3) B n D := by
  have hlt := h.lt
  obtain ⟨es, clock, hh, rest⟩ := h
  exact ⟨es, clock, (hb.block B hlt).trans hh, rest⟩

/-- What ZZFind answers. -/
def fv (F : List ByteArray) (fa : List Int) (M : List ByteArray) (ma : List Int) (x : ByteArray) : Int × Bool :=
  out F fa x ((lastAt M ma M.length x).getD 0, (lastAt M ma M.length x).isSome)

set_option maxHeartbeats 1000000 in
theorem zzfind_any (a1 a2 a3 a4 : Option Addr) (n1 c1 c2 n3 c3 c4 : Nat) (F M : List ByteArray) (fa ma : List Int) (hF : F.length = n1) (hfa : fa.length = n1) (h16 : n1 ≤ 16) (hM : M.length = n3) (hma : ma.length = n3) (h64 : n3 ≤ 65536)
    (x : ByteArray) (hx : x.size ≤ maxLen) (hMl : ∀ s ∈ M, s.size ≤ maxLen) (hwf : ∀ z ∈ ma, (Lit.int .i64 z).wf = true) (w : World) (r1 : StrRow w a1 F) (r2 : IntRow w a2 fa) (r3 : StrRow w a3 M) (r4 : IntRow w a4 ma) (hnil : a3 = none → n3 = 0) :
    Calls Try.prog 30 #[.slice a1 n1 c1, .slice a2 n1 c2, .slice a3 n3 c3, .slice a4 n3 c4, .string x] w fun e w' => FindPost (fv F fa M ma x) w e w' := by
  have HF := hide hF
  have Hfa := hide hfa
  have HM := hide hM
  have Hma := hide hma
  have R1 := hide r1
  have R2 := hide r2
  have R3 := hide r3
  have R4 := hide r4
  have HX := hide hx
  have HML := hide hMl
  have HWF := hide hwf
  have HNIL := hide hnil
  have hmk := run_make50
  have hne := fun (w : World) (a : Option Addr) (n c : Nat) => run_neq_slice_nil_any (P := Try.prog) w 30 9 a n c 0 0 Try.underlying30
  clear hF hfa hM hma r1 r2 r3 r4 hx hMl hwf hnil
  go_enter Try.func30, Try.ntmps30
  go_wp2
  go_loopw [13] (fun i wr => ∃ k : Nat, k ≤ n1 ∧ i = .int .i64 k ∧ Hid (Part wr w.heap.size F fa k) ∧ Hid (Below w.heap.size w wr) ∧ w.heap.size < wr.heap.size) (fun i _ => n1 - (intOf i).toNat)
  case atStart => exact ⟨0, Nat.zero_le _, rfl, Part.start w F fa, (Below.refl _ _).alloc (Nat.le_refl _) _, by simp⟩
  case round =>
    obtain ⟨k, hk, rfl, hP, hB, hsz⟩ := hrel
    by_cases hlt : k < n1
    · have hkF : k < F.length := by rw [HF.out]; exact hlt
      have hka : k < fa.length := by rw [Hfa.out]; exact hlt
      obtain ⟨b1, o1, rfl, d1⟩ := R1.out k hkF
      obtain ⟨b2, o2, rfl, d2⟩ := R2.out k hka
      have d1' : wr.cell? ⟨b1, o1 + k, none⟩ = some (.string F[k]) := cellB hB.out (cell_lt d1) d1
      have d2' : wr.cell? ⟨b2, o2 + k, none⟩ = some (.int .i64 fa[k]) := cellB hB.out (cell_lt d2) d2
      obtain ⟨v0, g0⟩ := hP.out.has (k * 2) (by omega)
      obtain ⟨v1, g1⟩ := hP.out.has (k * 2 + 1) (by omega)
      have f0 := hP.out.warm (k * 2)
      have f1 := hP.out.warm (k * 2 + 1)
      clear d1 d2
      generalize hy : F[k] = y at *
      generalize hz : fa[k] = z at *
      have HY := hide hy
      have HZ := hide hz
      clear hy hz
      have hlt' : (k : Int) < 16 := by omega
      have hS := hide (hP.out.step (by omega) hkF hka HY.out HZ.out)
      have hBB : Hid (Below w.heap.size w ((wr.setCell ⟨w.heap.size, k * 2, none⟩ (.string y)).setCell ⟨w.heap.size, k * 2 + 1, none⟩ (.int .i64 z)).drew) := ((hB.out.setCell (Nat.le_refl _) _).setCell (Nat.le_refl _) _).drew
      go_wp2
      go_region
      go_wp2
      go_roundw
      case rel => exact ⟨k + 1, by omega, by go_num, hS, hBB, by simpa using hsz⟩
      case measure => simp [intOf]; omega
    · have hke : k = n1 := by omega
      subst hke
      obtain ⟨v0, g0⟩ := hP.out.has 32 (by omega)
      have f0 := hP.out.warm 32
      have f1 := hP.out.warm 33
      have m0 := hP.out.mp
      have hL := hide (hP.out.full HF.out Hfa.out h16)
      cases a3 with
      | none =>
        have h30 : n3 = 0 := HNIL.out rfl
        subst h30
        have hMe : M = [] := List.eq_nil_of_length_eq_zero HM.out
        have hfv : Hid (fv F fa M ma x = out F fa x (0, false)) := by show _ = _; rw [fv, hMe]; rfl
        clear hMe
        go_wp2_with fail
        refine (find_any w.heap.size F fa (by rw [HF.out, Hfa.out]) _ HF.out h16 none x _ hL.out (by simpa using hsz) (0, false) (fun _ => rfl) (fun B h => by cases h)).mono ?_
        rintro e w2 ⟨rfl, hb2⟩
        have HB2 := hide ((hB.out.setCell (Nat.le_refl _) _).trans (hb2.mono (by simp; omega)))
        clear hb2
        go_wp2
        go_ret2
        exact ⟨by rw [hfv.out]; rfl, HB2⟩
      | some a3 =>
        have A1 : Hid (World.ownsMap (((wr.setCell ⟨w.heap.size, 32, none⟩ (.int .i64 k)).setCell ⟨w.heap.size, 33, none⟩ (.map (some wr.heap.size))).alloc (.map #[] 0)) Try.prog 9 (plainElem (H := Unit) Try.prog 3) wr.heap.size 0 (.map [])) := by
          have h := World.ownsMap_made ((wr.setCell ⟨w.heap.size, 32, none⟩ (.int .i64 k)).setCell ⟨w.heap.size, 33, none⟩ (.map (some wr.heap.size))) Try.prog 9 (plainElem (H := Unit) Try.prog 3)
          rw [World.size_setCell, World.size_setCell] at h
          exact h
        have A2 : Hid (Laid (((wr.setCell ⟨w.heap.size, 32, none⟩ (.int .i64 k)).setCell ⟨w.heap.size, 33, none⟩ (.map (some wr.heap.size))).alloc (.map #[] 0)) w.heap.size F fa (some wr.heap.size)) :=
          Laid.block (Laid.map hL.out (by rw [HF.out]; exact h16) (by rw [Hfa.out]; exact h16) _) (Below.heap_alloc _ _ _ (by simpa using hsz))
        have A3 : Hid (Below w.heap.size w (((wr.setCell ⟨w.heap.size, 32, none⟩ (.int .i64 k)).setCell ⟨w.heap.size, 33, none⟩ (.map (some wr.heap.size))).alloc (.map #[] 0))) :=
          ((hB.out.setCell (Nat.le_refl _) _).setCell (Nat.le_refl _) _).alloc (by simpa using Nat.le_of_lt hsz) _
        go_wp2_with fail
        generalize hBm : wr.heap.size = Bm at *
        have HBm := hide hBm
        clear hBm hP hB hL g0 f0 f1 m0
        go_loopw [14] (fun i wq => ∃ j : Nat, j ≤ n3 ∧ i = .int .i64 j ∧ Hid (∃ D, wq.ownsMap Try.prog 9 (plainElem Try.prog 3) Bm j D ∧ MapIs D M ma j) ∧ Hid (Laid wq w.heap.size F fa (some Bm)) ∧ Hid (Below w.heap.size w wq)) (fun i _ => n3 - (intOf i).toNat)
        case atStart => exact ⟨0, Nat.zero_le _, rfl, ⟨.map [], A1, MapIs.start _ _⟩, A2, A3⟩
        case round =>
          obtain ⟨j, hj, rfl, hD, hLq, hBq⟩ := hrel
          clear A1 A2 A3
          by_cases hlj : j < n3
          · have hkM : j < M.length := by rw [HM.out]; exact hlj
            have hka : j < ma.length := by rw [Hma.out]; exact hlj
            obtain ⟨b3, o3, e3, d3⟩ := R3.out j hkM
            obtain ⟨b4, o4, rfl, d4⟩ := R4.out j hka
            obtain rfl := Option.some.inj e3
            have d3' : wr.cell? ⟨b3, o3 + j, none⟩ = some (.string M[j]) := cellB hBq.out (cell_lt d3) d3
            have d4' : wr.cell? ⟨b4, o4 + j, none⟩ = some (.int .i64 ma[j]) := cellB hBq.out (cell_lt d4) d4
            have d5 := hLq.out.mp
            clear d3 d4
            obtain ⟨D, hown, hDD⟩ := hD.out
            have hMs : M[j].size ≤ maxLen := HML.out _ (List.getElem_mem hkM)
            have hws : (Lit.int .i64 ma[j]).wf = true := HWF.out _ (List.getElem_mem hka)
            obtain ⟨w1, hup, hown1, hgr⟩ := hown.drew.update law Try.underlying50 (by unfold maxLen; omega) (key := .string M[j]) (val := .int .i64 ma[j]) (kl := keyL M[j]) (keyOf_string_mk Try.underlying9 hMs) (plainElem_int Try.underlying3 hws)
            have HD1 : Hid (∃ D, w1.ownsMap Try.prog 9 (plainElem Try.prog 3) Bm (j + 1) D ∧ MapIs D M ma (j + 1)) := ⟨_, hown1, hDD.step hkM hka rfl rfl⟩
            have HG := hide hgr
            clear hown hDD hown1 hgr hMs hws
            generalize M[j] = y at *
            generalize ma[j] = z at *
            go_wp2
            go_region
            go_wp2
            have hSw : w.heap.size < wr.heap.size := cell_lt d5
            go_roundw
            case rel =>
              refine ⟨j + 1, by omega, by go_num, HD1, Laid.block hLq.out (HG.out.block _ hSw (fun e => by have := Option.some.inj e; omega)), ?_⟩
              exact hBq.out.drew.grown HG.out (Nat.le_of_lt hSw) (fun q hq => by have := Option.some.inj hq; omega)
            case measure => simp [intOf]; omega
          · have hjn : j = n3 := by omega
            obtain ⟨D, hown, hDD⟩ := hD.out
            have hlk : Hid (∀ w', Below wr.heap.size wr w' → (Instr.lookup 50 (.map (some Bm)) (.string x) true).run Try.prog w' = .ok (.tuple #[.int .i64 ((lastAt M ma M.length x).getD 0), .bool (lastAt M ma M.length x).isSome]) w') := by
              intro w' hb'
              rw [HM.out, ← hjn]
              exact hDD.look (own_below hown hb') x HX.out
            have hSw : w.heap.size < wr.heap.size := cell_lt hLq.out.mp
            clear hown hDD hjn
            go_wp2_with fail
            refine (find_any w.heap.size F fa (by rw [HF.out, Hfa.out]) _ HF.out h16 (some Bm) x _ hLq.out hSw ((lastAt M ma M.length x).getD 0, (lastAt M ma M.length x).isSome) (fun h => by cases h) (fun B h w' hb' => by rw [← Option.some.inj h]; exact hlk.out w' hb')).mono ?_
            rintro e w2 ⟨rfl, hb2⟩
            have HB2 := hide (hBq.out.trans (hb2.mono (Nat.le_of_lt hSw)))
            clear hb2
            go_wp2
            go_ret2
            exact ⟨rfl, HB2⟩
end Go.Proofs.Qxb6003432a.FindG
