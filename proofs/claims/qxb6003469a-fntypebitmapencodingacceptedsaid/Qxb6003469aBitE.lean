import Derived.Test.Qxb6003469aBitD
namespace Go.Proofs.Qxb6003469a.BitE
open Go.ChangeShapes Go.WideShapes Go.ChangeAt Go.RowKit
open Go.Proofs.Qxb6003469a.BitA
open Go.Proofs.Qxb6003469a.BitB
open Go.Proofs.Qxb6003469a.BitC
open Go.Proofs.Qxb6003469a.BitD
set_option linter.unusedVariables false

theorem info5 : (Try.prog.info? 5).map (fun i => (i.zero, i.size, i.bytes)) = some (some (.int .u8 0), 1, 1) := by kernel_rfl

/-- The first m octets of block j's map. -/
def octs (mp : Nat → Int) (j m : Nat) : List Int := (List.range m).map fun i => mp (j * 32 + i)
theorem octs_len (mp : Nat → Int) (j m : Nat) : (octs mp j m).length = m := by simp [octs]
theorem octs_succ (mp : Nat → Int) (j m : Nat) : octs mp j (m + 1) = octs mp j m ++ [mp (j * 32 + m)] := by simp [octs, List.range_succ]
theorem octs_last (mp : Nat → Int) (j m : Nat) (h : 1 ≤ m) : (octs mp j m).getD (m - 1) 0 = mp (j * 32 + (m - 1)) := by
  obtain ⟨k, rfl⟩ : ∃ k, m = k + 1 := ⟨m - 1, by omega⟩
  simp [octs]

/-- What stands at the head of each round over the blocks. -/
structure At (w : World) (M : Nat) (mp : Nat → Int) (pr : Nat → Bool) (wr : World) (j : Nat) (v : Value) (bl : List (Int × List Int)) : Prop where
  maps : Maps wr M mp pr
  own : wr.ownsRow (M + 2) 5 1 v (enc bl).length ((enc bl).map (Value.int .u8))
  good : BitB.Good (-1) bl
  less : ∀ x ∈ bl, x.1 < (j : Int)
  len : (enc bl).length ≤ 34 * j
  bel : Below M w wr
  size : M + 2 ≤ wr.heap.size

theorem At.skip {w : World} {M : Nat} {mp : Nat → Int} {pr : Nat → Bool} {wr : World} {j : Nat} {v : Value} {bl : List (Int × List Int)} (h : At w M mp pr wr j v bl) : At w M mp pr wr (j + 1) v bl :=
  ⟨h.maps, h.own, h.good, fun x hx => by have := h.less x hx; omega, by have := h.len; omega, h.bel, h.size⟩

theorem one1 (a : Int) : ∀ u ∈ [Value.int .u8 a], u.oneCell' = true := by simp [Value.oneCell']
theorem one2 (a b : Int) : ∀ u ∈ [Value.int .u8 a, .int .u8 b], u.oneCell' = true := by simp [Value.oneCell']

/-- Inside a block that is being written: its first m octets stand. -/
structure Fill (w : World) (M : Nat) (mp : Nat → Int) (pr : Nat → Bool) (j nn : Nat) (bl : List (Int × List Int)) (wq : World) (m : Nat) (v : Value) : Prop where
  maps : Maps wq M mp pr
  own : wq.ownsRow (M + 2) 5 1 v ((enc bl).length + 2 + m) ((enc bl ++ ((j : Int) :: (nn : Int) :: octs mp j m)).map (Value.int .u8))
  good : BitB.Good (-1) bl
  less : ∀ x ∈ bl, x.1 < (j : Int)
  len : (enc bl).length ≤ 34 * j
  bel : Below M w wq
  size : M + 2 ≤ wq.heap.size

theorem Fill.start {w : World} {M : Nat} {mp : Nat → Int} {pr : Nat → Bool} {wr : World} {j r : Nat} {v : Value} {bl : List (Int × List Int)} {o : Obj} {w1 : World} {v1 : Value} (h : At w M mp pr wr j v bl)
    (ho : w1.ownsRow (M + 2) 5 1 v1 ((enc bl).length + 2) ((enc bl).map (Value.int .u8) ++ [.int .u8 (j : Int), .int .u8 ((r : Int) + 1)])) (hg : (wr.alloc o).grownBy w1 v.ownBlock) : Fill w M mp pr j (r + 1) bl w1 0 v1 := by
  have hz := h.size
  have hge := own_ge h.own
  refine ⟨(h.maps.alloc hz o).grown hg (by simp; omega) hge, ?_, h.good, h.less, h.len, (h.bel.alloc (by omega) o).grown hg (by simp; omega) (fun k hk => by have := hge k hk; omega), by have := hg.size; simp at this; omega⟩
  have e : (enc bl ++ ((j : Int) :: ((r + 1 : Nat) : Int) :: octs mp j 0)).map (Value.int .u8) = (enc bl).map (Value.int .u8) ++ [.int .u8 (j : Int), .int .u8 ((r : Int) + 1)] := by simp [octs]
  rw [e]; exact ho
theorem Fill.next {w : World} {M : Nat} {mp : Nat → Int} {pr : Nat → Bool} {j nn m : Nat} {bl : List (Int × List Int)} {wq : World} {v : Value} {o : Obj} {w1 : World} {v1 : Value} (h : Fill w M mp pr j nn bl wq m v)
    (ho : w1.ownsRow (M + 2) 5 1 v1 ((enc bl).length + 2 + m + 1) ((enc bl ++ ((j : Int) :: (nn : Int) :: octs mp j m)).map (Value.int .u8) ++ [.int .u8 (mp (j * 32 + m))])) (hg : (wq.alloc o).grownBy w1 v.ownBlock) : Fill w M mp pr j nn bl w1 (m + 1) v1 := by
  have hz := h.size
  have hge := own_ge h.own
  refine ⟨(h.maps.alloc hz o).grown hg (by simp; omega) hge, ?_, h.good, h.less, h.len, (h.bel.alloc (by omega) o).grown hg (by simp; omega) (fun k hk => by have := hge k hk; omega), by have := hg.size; simp at this; omega⟩
  have e : (enc bl ++ ((j : Int) :: (nn : Int) :: octs mp j (m + 1))).map (Value.int .u8) = (enc bl ++ ((j : Int) :: (nn : Int) :: octs mp j m)).map (Value.int .u8) ++ [.int .u8 (mp (j * 32 + m))] := by simp [octs_succ]
  rw [e]; exact ho
theorem Fill.done {w : World} {M : Nat} {mp : Nat → Int} {pr : Nat → Bool} {j r : Nat} {bl : List (Int × List Int)} {wq : World} {v : Value} (h : Fill w M mp pr j (r + 1) bl wq (r + 1) v) (hj : j < 256) (hr : r < 32) (hne : mp (j * 32 + r) ≠ 0) :
    At w M mp pr wq (j + 1) v (bl ++ [((j : Int), octs mp j (r + 1))]) := by
  have e : enc (bl ++ [((j : Int), octs mp j (r + 1))]) = enc bl ++ ((j : Int) :: ((r + 1 : Nat) : Int) :: octs mp j (r + 1)) := by rw [enc_snoc, octs_len]
  have el : (enc (bl ++ [((j : Int), octs mp j (r + 1))])).length = (enc bl).length + 2 + (r + 1) := by rw [e]; simp [octs_len]; omega
  refine ⟨h.maps, ?_, ?_, ?_, ?_, h.bel, h.size⟩
  · rw [el, e]; exact h.own
  · refine Good_snoc _ _ (by omega) (by omega) (by rw [octs_len]; omega) (by rw [octs_len]; omega) ?_ bl (-1) h.good h.less (by omega)
    rw [octs_len, octs_last _ _ _ (by omega)]; exact hne
  · intro x hx
    rcases List.mem_append.1 hx with hx | hx
    · have := h.less x hx; omega
    · rw [List.mem_singleton.1 hx]; show (j : Int) < _; omega
  · rw [el]; have := h.len; omega

def EncPost (w : World) (e : Ending) (w' : World) : Prop := ∃ (a : Option Addr) (n c : Nat) (kk : Int) (bl : List (Int × List Int)), e = .returned (.tuple #[.slice a n c, .int .i64 kk]) ∧ (enc bl).length = n ∧ n ≤ 8704 ∧ n ≤ c ∧ c ≤ maxLen ∧ KRow .u8 w' a (enc bl) ∧ BitB.Good (-1) bl ∧ Below w.heap.size w w'

set_option maxRecDepth 100000 in
set_option maxHeartbeats 2000000 in
theorem encode_any (a : Option Addr) (n c : Nat) (zs : List Int) (hn : zs.length = n) (hm : n ≤ 1048576) (hwf : ∀ z ∈ zs, (Lit.int .u16 z).wf = true) (w : World) (hr : KRow .u16 w a zs) :
    Calls Try.prog 25 #[.slice a n c, .bool false] w fun e w' => EncPost w e w' := by
  have HN := hide hn
  have HR := hide hr
  have HW := hide hwf
  obtain ⟨i0, hi, hz0, hz1, hz2⟩ := info_parts info5
  have Hi := hide hi
  have Hz0 := hide hz0
  have Hz1 := hide hz1
  have Hz2 := hide hz2
  clear hn hr hwf hi hz0 hz1 hz2
  go_enter Try.func25, Try.ntmps25
  go_wp2_with (first | (with_reducible refine wpList_alloc_zero _ rfl 68 rfl 8192 isU8 zero68 ?_; intro C1 hC1 hC1'; have K1 := hide hC1; have K1' := hide hC1'; clear hC1 hC1') | (with_reducible refine wpList_alloc_zero _ rfl 69 rfl 256 BitC.isFalse zero69 ?_; intro C2 hC2 hC2'; have K2 := hide hC2; have K2' := hide hC2'; clear hC2 hC2'))
  go_loopw [8] (fun i wr => ∃ k : Nat, k ≤ n ∧ i = .int .i64 k ∧ Hid (∃ mp pr, Maps wr w.heap.size mp pr) ∧ Hid (Below w.heap.size w wr) ∧ w.heap.size + 2 ≤ wr.heap.size) (fun i _ => n - (intOf i).toNat)
  case atStart => exact ⟨0, Nat.zero_le _, rfl, ⟨_, _, Maps.start w C1 C2 K1.out K1'.out K2.out K2'.out⟩, ((Below.refl _ _).alloc (Nat.le_refl _) _).alloc (by simp) _, by simp⟩
  case round =>
    clear K1 K1' K2 K2'
    obtain ⟨k, hk, rfl, hMM, hB, hsz⟩ := hrel
    by_cases hlt : k < n
    · have hkz : k < zs.length := by rw [HN.out]; exact hlt
      obtain ⟨b, off, rfl, hc⟩ := HR.out k hkz
      have hc' : wr.cell? ⟨b, off + k, none⟩ = some (.int .u16 zs[k]) := cellB hB.out (cell_lt hc) hc
      have htb := bounds_u16 (HW.out _ (List.getElem_mem hkz))
      have ht0 : 0 ≤ zs[k] := by omega
      have ht1 : zs[k] ≤ 65535 := by omega
      clear hc htb
      generalize zs[k] = t at *
      obtain ⟨q, hq, hq1⟩ : ∃ q : Nat, t / 256 = (q : Int) ∧ q < 256 := ⟨(t / 256).toNat, by omega, by omega⟩
      obtain ⟨p, hp, hp1⟩ := and_low t ht0 ht1
      obtain ⟨mp, pr, hM⟩ := hMM.out
      have g0 := hM.cell (q * 32 + p / 8) (by omega)
      have f0 := hM.warm (q * 32 + p / 8)
      have g1 := hM.pres q hq1
      have f1 := hM.warm' q
      have hob := or_bit (mp (q * 32 + p / 8)) (hM.range _).1 (hM.range _).2 p
      have HM' := hide (hM.step q p hq1 hp1 _ hob.1 hob.2)
      clear hM hob
      generalize mp (q * 32 + p / 8) = y at *
      go_wp2
      go_region
      go_wp2
      go_roundw
      case rel => exact ⟨k + 1, by omega, by go_num, ⟨_, _, HM'⟩, ((hB.out.setCell (Nat.le_refl _) _).setCell (Nat.le_succ _) _).drew, by simpa using hsz⟩
      case measure => simp [intOf]; omega
    · obtain ⟨mp, pr, hM⟩ := hMM.out
      have HM := hide hM
      clear hM hMM hk
      obtain ⟨W, hWr⟩ : ∃ W, W = wr := ⟨_, rfl⟩
      subst hWr
      go_wp2_with (first | (at_make; refine wpList_make_own _ rfl _ _ 32 rfl (w.heap.size + 2) 5 i0 (.int .u8 0) 1 Try.underlying32 Hi.out Hz0.out Hz1.out .i64 .i64 8704 8704 rfl rfl rfl (by rw [Hz2.out]; omega) (by unfold maxLen; omega) hsz ?_; intro w1 hown hgrow; have HO := hide hown; have HG := hide hgrow; clear hown hgrow))
      have A0 : Hid (At w w.heap.size mp pr w1 0 (.slice (some ⟨W.heap.size, 0, none⟩) 0 8704) []) :=
        ⟨HM.out.grown HG.out hsz (fun g hg => by cases hg), HO.out, trivial, (by simp), by simp [enc], hB.out.grown HG.out (by omega) (fun g hg => by cases hg), Nat.le_trans hsz HG.out.size⟩
      clear HO HG HM hB
      go_loopw [12, 13, 14] (fun v q i wr => ∃ (j : Nat) (kk : Nat) (bl : List (Int × List Int)), j ≤ 256 ∧ i = .int .i64 j ∧ kk ≤ j ∧ q = .int .i64 kk ∧ Hid (At w w.heap.size mp pr wr j v bl)) (fun _ _ i _ => 256 - (intOf i).toNat)
      case atStart => exact ⟨0, 0, [], Nat.zero_le _, rfl, Nat.le_refl _, rfl, A0⟩
      case round =>
        clear A0
        obtain ⟨j, kk, bl, hj, rfl, hkk, rfl, hA⟩ := hrel
        by_cases hlj : j < 256
        · have hg := hA.out.maps.pres j hlj
          cases hpr : pr j with
          | false =>
            rw [hpr] at hg
            clear hpr
            go_wp2
            go_roundw
            case rel => exact ⟨j + 1, kk, bl, by omega, by go_num, by omega, rfl, hA.out.skip⟩
            case measure => simp [intOf]; omega
          | true =>
            rw [hpr] at hg
            have HPR := hide hpr
            clear hpr
            go_wp2
            clear hg
            go_loop [16] (fun i => ∃ nn : Nat, nn ≤ 32 ∧ i = .int .i64 nn ∧ Hid (∀ m, nn ≤ m → m < 32 → mp (j * 32 + m) = 0)) (fun i => (intOf i).toNat)
            case atStart => exact ⟨32, Nat.le_refl _, rfl, fun m h1 h2 => by omega⟩
            case round =>
              obtain ⟨nn, hnn, rfl, hN⟩ := hrel
              cases nn with
              | zero =>
                exfalso
                obtain ⟨m, hm1, hm2⟩ := hA.out.maps.full j hlj HPR.out
                exact hm2 (hN.out m (Nat.zero_le _) hm1)
              | succ r =>
                have hg := hA.out.maps.cell (j * 32 + r) (by omega)
                have hrg := hA.out.maps.range (j * 32 + r)
                by_cases hy : mp (j * 32 + r) = 0
                · have HY := hide hy
                  have hy' : (mp (j * 32 + r) == 0) = true := by rw [hy]; rfl
                  clear hy
                  generalize hyy : mp (j * 32 + r) = y at *
                  have HYY := hide hyy
                  clear hyy
                  go_wp2
                  go_round
                  case rel =>
                    refine ⟨r, by omega, by go_num, fun m h1 h2 => ?_⟩
                    by_cases e : m = r
                    · subst e; exact HYY.out.trans HY.out
                    · exact hN.out m (by omega) h2
                  case measure => simp [intOf]
                · have HY := hide hy
                  have hy' : (mp (j * 32 + r) == 0) = false := beq_eq_false_iff_ne.2 hy
                  clear hy
                  generalize hyy : mp (j * 32 + r) = y at *
                  have HYY := hide hyy
                  clear hyy
                  have HO := hide hA.out.own
                  have hlen := hA.out.len
                  have hsz' := hA.out.size
                  have X1 : Hid ((enc bl).length + 2 ≤ maxLen ∧ ((enc bl).length + 2) * 1 ≤ 140737488355328) := ⟨by unfold maxLen; omega, by omega⟩
                  have X2 : Hid (w.heap.size + 2 ≤ (wr.alloc (.cells #[.int .u8 (j : Int), .int .u8 ((r : Int) + 1)] 5)).heap.size) := by show _ ≤ _; simp; omega
                  go_wp2_with (at_builtin; refine wpList_append_own _ rfl _ _ 32 rfl (w.heap.size + 2) 5 i0 (.int .u8 0) 1 1 Try.underlying32 Hi.out Hz0.out Hz1.out Hz2.out rfl (by decide) _ _ _ rfl (HO.out.alloc _) ⟨wr.heap.size, 0, none⟩ 2 2 [.int .u8 (j : Int), .int .u8 ((r : Int) + 1)] rfl rfl (cell_two_new _ _ _ _) (one2 _ _) X1.out.1 X1.out.2 X2.out ?_; intro v1 w1 hown1 hgr1 hnil1; have HO1 := hide hown1; have HG1 := hide hgr1; clear hown1 hgr1 hnil1)
                  have F0 : Hid (Fill w w.heap.size mp pr j (r + 1) bl w1 0 v1) := Fill.start hA.out HO1.out HG1.out
                  clear HO1 HG1 HO X1 X2
                  go_loopw [12, 17] (fun v i wq => ∃ m : Nat, m ≤ r + 1 ∧ i = .int .i64 m ∧ Hid (Fill w w.heap.size mp pr j (r + 1) bl wq m v)) (fun _ i _ => r + 1 - (intOf i).toNat)
                  case atStart => exact ⟨0, Nat.zero_le _, rfl, F0⟩
                  case round =>
                    clear F0
                    obtain ⟨m, hm', rfl, hF⟩ := hrel
                    by_cases hlm : m < r + 1
                    · have hg2 := hF.out.maps.cell (j * 32 + m) (by omega)
                      have HO := hide hF.out.own
                      have hsz2 := hF.out.size
                      have X1 : Hid ((enc bl).length + 2 + m + 1 ≤ maxLen ∧ ((enc bl).length + 2 + m + 1) * 1 ≤ 140737488355328) := ⟨by unfold maxLen; omega, by omega⟩
                      have X2 : Hid (w.heap.size + 2 ≤ (wr.alloc (.cells #[.int .u8 (mp (j * 32 + m))] 5)).heap.size) := by show _ ≤ _; simp; omega
                      go_wp2_with (at_builtin; refine wpList_append_own _ rfl _ _ 32 rfl (w.heap.size + 2) 5 i0 (.int .u8 0) 1 1 Try.underlying32 Hi.out Hz0.out Hz1.out Hz2.out rfl (by decide) _ _ _ rfl (HO.out.alloc _) ⟨wr.heap.size, 0, none⟩ 1 1 [.int .u8 (mp (j * 32 + m))] rfl rfl (cell_one_new _ _ _) (one1 _) X1.out.1 X1.out.2 X2.out ?_; intro v2 w2 hown2 hgr2 hnil2; have HO2 := hide hown2; have HG2 := hide hgr2; clear hown2 hgr2 hnil2)
                      go_roundw
                      case rel => exact ⟨m + 1, by omega, by go_num, Fill.next hF.out HO2.out HG2.out⟩
                      case measure => simp [intOf]; omega
                    · obtain rfl : m = r + 1 := by omega
                      have hD : Hid (At w w.heap.size mp pr wr (j + 1) _ (bl ++ [((j : Int), octs mp j (r + 1))])) := Fill.done hF.out hlj (by omega) (by rw [HYY.out]; exact HY.out)
                      clear hF
                      go_wp2
                      go_roundw
                      case rel => exact ⟨j + 1, kk + 1, _, by omega, by go_num, by omega, by go_num, hD⟩
                      case measure => simp [intOf]; omega
        · obtain rfl : j = 256 := by omega
          obtain ⟨a', c', e', hl', hlc, hcm, hrow⟩ := own_row hA.out.own
          have HE := hide e'
          have HR' := hide hrow
          clear e' hrow
          go_wp2
          go_ret2
          exact ⟨a', _, c', kk, bl, by rw [HE.out]; rfl, rfl, by have := hA.out.len; omega, hlc, hcm, HR'.out, hA.out.good, hA.out.bel⟩
end Go.Proofs.Qxb6003469a.BitE
