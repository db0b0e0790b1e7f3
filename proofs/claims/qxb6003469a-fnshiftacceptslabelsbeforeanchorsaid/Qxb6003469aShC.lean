import Derived.Test.Qxb6003469aShB
import Derived.Lib.AppendStr
namespace Go.Proofs.Qxb6003469a.ShC
open Go.ChangeShapes Go.WideShapes Go.ChangeAt Go.RowKit
open Go.Lib (strCells strCells_length strCells_oneCell run_append_room_string)
open Go.Proofs.Qxb6003469a.BitA
open Go.Proofs.Qxb6003469a.ShA
open Go.Proofs.Qxb6003469a.ShB
set_option linter.unusedVariables false

/-- 'append(b, s...)', s a string, within the capacity: the slice stays where it lies. -/
theorem wpList_append_fits_string {P : Program} (w : World) {ops : Array Oper} {rest : List Oper} {o : Oper} {a : Act} {Q : Exit → Act → World → Prop}
    (hg : o.guard = none) (s x : Operand) (t u : TypeId) (hop : o.op = Op.call { callee := Callee.builtin Builtin.append, args := #[s, x], argTypes := #[t, u] })
    (base : Nat) (e : TypeId) (i : TypeInfo) (h1 : P.underlying t = some (.slice e)) (hu : P.underlying u = some .string) (h2 : P.info? e = some i) (h4 : i.size = 1)
    (g k cap : Nat) (xs : List Value) (hs : a.eval s = .slice (some ⟨g, 0, none⟩) k cap) (hown : w.ownsRow base e 1 (.slice (some ⟨g, 0, none⟩) k cap) k xs) (str : ByteArray) (hx : a.eval x = .string str) (b1 : k + str.size ≤ cap)
    (hK : ∀ w', w'.ownsRow base e 1 (.slice (some ⟨g, 0, none⟩) (k + str.size) cap) (k + str.size) (xs ++ strCells str) → w.grownBy w' (some g) → wpList P ops Q rest (a.put o.dst (.slice (some ⟨g, 0, none⟩) (k + str.size) cap)) w') :
    wpList P ops Q (o :: rest) a w := by
  refine wpList_plain hg fun K hK' => ?_
  have hlen : (xs ++ strCells str).length = (k + str.size) * 1 := by rw [List.length_append, hown.1, strCells_length]; omega
  rcases hown.2 with ⟨h, _⟩ | ⟨g', cap', cur, h, hbg, hgg, hnc, hcm, hcs, htake⟩
  · simp at h
  · simp only [Value.slice.injEq, Option.some.injEq, Addr.mk.injEq, and_true, true_and] at h
    obtain ⟨rfl, rfl⟩ := h
    have hfit : k + str.size ≤ cur.size := by rw [hcs]; omega
    have hrun := run_append_room_string (P := P) w t u o.type e i h1 hu h2 h4 g k cap cur hgg str b1 hfit
    have r1 : (w.setRow g (cur.toList.take k ++ strCells str ++ cur.toList.drop (k + str.size)).toArray).ownsRow base e 1 (.slice (some ⟨g, 0, none⟩) (k + str.size) cap) (k + str.size) (xs ++ strCells str) := by
      refine ⟨hlen, .inr ⟨g, cap, _, rfl, hbg, setRow_heap w g cur _ e _ hgg, b1, hcm, ?_, ?_⟩⟩
      · simp only [List.size_toArray, List.length_append, List.length_take, List.length_drop, Array.length_toList, strCells_length]
        omega
      · rw [Nat.mul_one] at htake
        show ((cur.toList.take k ++ strCells str ++ cur.toList.drop (k + str.size)).toArray.toList).take _ = _
        rw [List.toList_toArray, htake, ← hlen]
        exact List.take_left
    have r2 : w.grownBy (w.setRow g (cur.toList.take k ++ strCells str ++ cur.toList.drop (k + str.size)).toArray) (some g) :=
      ⟨rfl, rfl, rfl, by simp, fun j _ hj => setRow_other w g j _ (fun e => hj (by simp [e]))⟩
    generalize w.setRow g (cur.toList.take k ++ strCells str ++ cur.toList.drop (k + str.size)).toArray = W' at *
    unfold Oper.wp
    simp [execOp, hop, resolve, invoke, builtin, hs, hx, hrun, Result.andThen]
    exact hK' _ _ (hK _ r1 r2)

/-- Octets as cells. -/
def cellsU (l : List UInt8) : List Value := l.map fun b => Value.int .u8 (b.toNat : Int)
theorem cellsU_app (l r : List UInt8) : cellsU (l ++ r) = cellsU l ++ cellsU r := by simp [cellsU]
/-- Offsets as cells: each taken round at 65536. -/
def cellsO (l : List Nat) : List Value := l.map fun o : Nat => Value.int .u16 (IntKind.u16.wrap (o : Int))
def offL : Nat → List ByteArray → List Nat
  | _, [] => []
  | o, s :: r => o :: offL (o + (1 + s.size)) r
theorem offL_snoc (s : ByteArray) : ∀ (L : List ByteArray) (o : Nat), offL o (L ++ [s]) = offL o L ++ [o + (encL L).length]
  | [], o => by simp [offL, encL]
  | x :: r, o => by
    simp only [List.cons_append, offL, offL_snoc s r, encL, List.length_append, lab_len]
    rw [Nat.add_assoc]
theorem offL_len : ∀ (L : List ByteArray) (o : Nat), (offL o L).length = L.length
  | [], _ => rfl
  | _ :: r, _ => by simp [offL, offL_len r]
theorem encL_take_le (L : List ByteArray) (k : Nat) : (encL (L.take k)).length ≤ (encL L).length := by
  induction L generalizing k with
  | nil => simp [encL]
  | cons s r ih =>
    cases k with
    | zero => simp [encL]
    | succ k => simp only [List.take_succ_cons, encL, List.length_append]; have := ih k; omega

theorem info5 : (Try.prog.info? 5).map (fun i => (i.zero, i.size, i.bytes)) = some (some (.int .u8 0), 1, 1) := by kernel_rfl

theorem oneK (q : IntKind) (a : Int) : ∀ u ∈ [Value.int q a], u.oneCell' = true := by simp [Value.oneCell']
/-- A cell of an old block, behind a new block and a write to another row. -/
theorem cell_through {w w' : World} {o : Obj} {g b off : Nat} {v : Value} (h : (w.alloc o).grownBy w' (some g)) (hc : w.cell? ⟨b, off, none⟩ = some v) (hne : b ≠ g) : w'.cell? ⟨b, off, none⟩ = some v := by
  have hlt := cell_lt hc
  refine h.cell ((World.cell?_of_block (w := w) (Below.heap_alloc _ _ _ hlt)).trans hc) (fun e => hne (Option.some.inj e))
theorem own_through {w w' : World} {o : Obj} {base e size g1 g2 n c : Nat} {xs : List Value} (h : w.ownsRow base e size (.slice (some ⟨g1, 0, none⟩) n c) n xs) (hg : (w.alloc o).grownBy w' (some g2)) (hne : g1 ≠ g2) : w'.ownsRow base e size (.slice (some ⟨g1, 0, none⟩) n c) n xs :=
  (h.alloc o).kept hg (.inr (fun e => hne (Option.some.inj e)))

/-- Behind k labels: what stands in the two rows. -/
structure EncAt (w : World) (L : List ByteArray) (g1 g2 C N k d : Nat) (wr : World) : Prop where
  out : wr.ownsRow w.heap.size 5 1 (.slice (some ⟨g1, 0, none⟩) d C) d (cellsU (encL (L.take k)))
  offs : wr.ownsRow w.heap.size 40 1 (.slice (some ⟨g2, 0, none⟩) k N) k (cellsO (offL 0 (L.take k)))
  len : d = (encL (L.take k)).length
  ne : g1 ≠ g2
  bel : Below w.heap.size w wr

theorem cellsU_lab (s : ByteArray) (h : s.size ≤ 255) : cellsU (lab s) = [Value.int .u8 (s.size : Int)] ++ strCells s := by
  have e : (UInt8.ofNat s.size).toNat = s.size := by rw [UInt8.toNat_ofNat']; omega
  simp only [cellsU, lab, List.map_cons, e]; rfl

theorem EncAt.step {w wr w3 w4 w5 : World} {L : List ByteArray} {g2 d n j e : Nat} {s : ByteArray} {o3 o4 : Obj} (hj : j < L.length) (hs : L[j] = s) (h255 : s.size ≤ 255) (hl : e = (encL (L.take j)).length) (hne : w.heap.size ≠ g2) (hg2 : w.heap.size ≤ g2)
    (hbel : Below w.heap.size w wr) (P3 : w3.ownsRow w.heap.size 40 1 (.slice (some ⟨g2, 0, none⟩) (j + 1) n) (j + 1) (cellsO (offL 0 (L.take j)) ++ [.int .u16 (IntKind.u16.wrap (e : Int))])) (Q3 : (wr.alloc o3).grownBy w3 (some g2))
    (Q4 : (w3.alloc o4).grownBy w4 (some w.heap.size)) (P5 : w5.ownsRow w.heap.size 5 1 (.slice (some ⟨w.heap.size, 0, none⟩) (e + 1 + s.size) d) (e + 1 + s.size) (cellsU (encL (L.take j)) ++ [.int .u8 (s.size : Int)] ++ strCells s)) (Q5 : w4.grownBy w5 (some w.heap.size)) :
    EncAt w L w.heap.size g2 d n (j + 1) (e + 1 + s.size) w5 := by
  have ht := take_snoc L j hj
  rw [hs] at ht
  have hw := hbel.size
  have hz3 := Q3.size
  have hz4 := Q4.size
  simp at hz3 hz4
  refine ⟨?_, ?_, ?_, hne, ?_⟩
  · rw [ht, encL_snoc, cellsU_app, cellsU_lab s h255, ← List.append_assoc]; exact P5
  · rw [ht, offL_snoc]
    have e1 : cellsO (offL 0 (L.take j) ++ [0 + (encL (L.take j)).length]) = cellsO (offL 0 (L.take j)) ++ [.int .u16 (IntKind.u16.wrap (e : Int))] := by simp [cellsO, hl]
    rw [e1]
    exact (own_through P3 Q4 (Ne.symm hne)).kept Q5 (.inr (fun e => hne (Option.some.inj e).symm))
  · rw [ht, encL_snoc, List.length_append, lab_len, hl]; omega
  · exact (((hbel.alloc (by omega) o3).grown Q3 (by simp; omega) (fun k hk => by cases hk; exact hg2)).alloc (by omega) o4).grown Q4 (by simp; omega) (fun k hk => by cases hk; exact Nat.le_refl _) |>.grown Q5 (by omega) (fun k hk => by cases hk; exact Nat.le_refl _)

/-- Octets from a place on. -/
def UB (w : World) (g o : Nat) (l : List UInt8) : Prop := ∀ i (h : i < l.length), w.cell? ⟨g, o + i, none⟩ = some (.int .u8 (l[i].toNat : Int))
def OB (w : World) (g : Nat) (l : List Nat) : Prop := ∀ i (h : i < l.length), w.cell? ⟨g, i, none⟩ = some (.int .u16 (IntKind.u16.wrap (l[i] : Int)))
def EncPost (L : List ByteArray) (n : Nat) (w : World) (e : Ending) (w' : World) : Prop :=
  ∃ g1 g2 m : Nat, e = .returned (.tuple #[.slice (some ⟨g1, 0, none⟩) m m, .slice (some ⟨g2, 0, none⟩) n n]) ∧ m = (encL L).length ∧ m ≤ 16777216 ∧ UB w' g1 0 (encL L) ∧ OB w' g2 (offL 0 L) ∧ Below w.heap.size w w'

theorem UB_of {w : World} {base g n c : Nat} {l : List UInt8} (hn : n = l.length) (h : w.ownsRow base 5 1 (.slice (some ⟨g, 0, none⟩) n c) n (cellsU l)) : UB w g 0 l := by
  intro i hi
  rw [Nat.zero_add, h.cellAt i (by omega)]
  simp [cellsU, hi]
theorem OB_of {w : World} {base g n c : Nat} {l : List Nat} (hn : n = l.length) (h : w.ownsRow base 40 1 (.slice (some ⟨g, 0, none⟩) n c) n (cellsO l)) : OB w g l := by
  intro i hi
  rw [h.cellAt i (by omega)]
  simp [cellsO, hi]

set_option maxHeartbeats 1000000 in
theorem encode_any (a : Option Addr) (n c : Nat) (L : List ByteArray) (hn : L.length = n) (hm : n ≤ 65536) (hsz : ∀ s ∈ L, s.size ≤ 255) (w : World) (hr : StrRow w a L) :
    Calls Try.prog 20 #[.slice a n c] w fun e w' => EncPost L n w e w' := by
  have hC := encL_bound L hsz
  rw [hn] at hC
  have HN := hide hn
  have HR := hide hr
  have HS := hide hsz
  obtain ⟨i0, hi, hz0, hz1, hz2⟩ := info_parts info5
  obtain ⟨j0, gi, gz0, gz1, gz2⟩ := info_parts info40
  have Hi := hide hi
  have Hz0 := hide hz0
  have Hz1 := hide hz1
  have Hz2 := hide hz2
  have Gi := hide gi
  have Gz0 := hide gz0
  have Gz1 := hide gz1
  have Gz2 := hide gz2
  clear hn hr hsz hi hz0 hz1 hz2 gi gz0 gz1 gz2
  go_enter Try.func20, Try.ntmps20
  go_wp2
  go_loop [4, 5] (fun t i => ∃ k : Nat, k ≤ n ∧ i = .int .i64 k ∧ ∃ d : Nat, d ≤ 16777216 ∧ Hid (d = (encL (L.take k)).length) ∧ t = .int .i64 d) (fun _ i => n - (intOf i).toNat)
  case atStart => exact ⟨0, Nat.zero_le _, rfl, 0, by omega, rfl, rfl⟩
  case round =>
    obtain ⟨k, hk, rfl, d, hd0, hd, rfl⟩ := hrel
    by_cases hlt : k < n
    · have hkL : k < L.length := by rw [HN.out]; exact hlt
      obtain ⟨b, off, rfl, hcell⟩ := HR.out k hkL
      have hd' : Hid (d + (1 + L[k].size) = (encL (L.take (k + 1))).length) := by show _ = _; rw [encL_take L k hkL, hd.out]
      have hle : d + (1 + L[k].size) ≤ 16777216 := by rw [hd'.out]; have := encL_take_le L (k + 1); omega
      generalize L[k] = s at *
      go_wp2
      go_round
      case rel => exact ⟨k + 1, by omega, by go_num, d + (1 + s.size), hle, hd', by go_num⟩
      case measure => simp [intOf]; omega
    · have hdC : Hid (d = (encL L).length) := by show _ = _; rw [hd.out, List.take_of_length_le (by have := HN.out; omega)]
      have hkk : decide (k < n) = false := decide_eq_false hlt
      clear hd
      go_wp2_with (first
        | (at_make; refine wpList_make_own _ rfl _ _ 32 rfl w.heap.size 5 i0 (.int .u8 0) 1 Try.underlying32 Hi.out Hz0.out Hz1.out .i64 .i64 _ d rfl rfl rfl (by rw [Hz2.out]; omega) (by unfold maxLen; omega) (Nat.le_refl _) ?_; intro w1 hown1 hgr1; have HO1 := hide hown1; have HG1 := hide hgr1; clear hown1 hgr1)
        | (at_make; refine wpList_make_own _ rfl _ _ 35 rfl w.heap.size 40 j0 (.int .u16 0) 1 Try.underlying35 Gi.out Gz0.out Gz1.out .i64 .i64 _ n rfl rfl rfl (by rw [Gz2.out]; omega) (by unfold maxLen; omega) HG1.out.size ?_; intro w2 hown2 hgr2; have HO2 := hide hown2; have HG2 := hide hgr2; clear hown2 hgr2))
      have hlt1 : w.heap.size < w1.heap.size := (HO1.out.lt w.heap.size rfl).2
      have E0 : Hid (EncAt w L w.heap.size w1.heap.size d n 0 0 w2) :=
        ⟨HO1.out.kept HG2.out (.inr (by simp [Value.ownBlock])), HO2.out, by simp [encL], by omega, ((Below.refl _ _).grown HG1.out (Nat.le_refl _) (fun g hg => by cases hg)).grown HG2.out HG1.out.size (fun g hg => by cases hg)⟩
      clear HO1 HG1 HO2 HG2
      generalize w1.heap.size = g2 at *
      go_loopw [6, 7, 8] (fun v u i wr => ∃ j : Nat, j ≤ n ∧ i = .int .i64 j ∧ ∃ e : Nat, e ≤ d ∧ v = .slice (some ⟨w.heap.size, 0, none⟩) e d ∧ u = .slice (some ⟨g2, 0, none⟩) j n ∧ Hid (EncAt w L w.heap.size g2 d n j e wr)) (fun _ _ i _ => n - (intOf i).toNat)
      case atStart => exact ⟨0, Nat.zero_le _, rfl, 0, Nat.zero_le _, rfl, rfl, E0⟩
      case round =>
        clear E0
        obtain ⟨j, hj, rfl, e, he, rfl, rfl, hE⟩ := hrel
        by_cases hlj : j < n
        · have hkL : j < L.length := by rw [HN.out]; exact hlj
          obtain ⟨b, off, rfl, hcell0⟩ := HR.out j hkL
          have hcell : wr.cell? ⟨b, off + j, none⟩ = some (.string L[j]) := cellB hE.out.bel (cell_lt hcell0) hcell0
          have hbw : b < w.heap.size := cell_lt hcell0
          have hs255 : L[j].size ≤ 255 := HS.out _ (List.getElem_mem hkL)
          have hroom : e + (1 + L[j].size) ≤ d := by rw [hE.out.len, ← encL_take L j hkL, hdC.out]; exact encL_take_le L (j + 1)
          clear hcell0
          generalize hsk : L[j] = s at *
          have HK := hide hsk
          clear hsk
          have O1 := hide hE.out.out
          have O2 := hide hE.out.offs
          have g2w : w.heap.size ≤ g2 := (O2.out.lt g2 rfl).1
          have hbel := hide hE.out.bel
          have y1 : j + 1 ≤ n := by omega
          have y2 : e + 1 ≤ d := by omega
          have y3 : e + 1 + s.size ≤ d := by omega
          have hEl := hide hE.out.len
          have hne := hide hE.out.ne
          clear hE
          go_wp2_with (first
            | (at_builtin; refine wpList_append_fits _ rfl _ _ 35 rfl w.heap.size 40 j0 1 Try.underlying35 Gi.out Gz1.out g2 j n _ rfl (O2.out.alloc _) ⟨wr.heap.size, 0, none⟩ 1 1 [.int .u16 (IntKind.u16.wrap (e : Int))] rfl rfl (cell_one_new _ _ _) (oneK _ _) y1 ?_; intro w3 ho3 hg3; have P3 := hide ho3; have Q3 := hide hg3; clear ho3 hg3; have hcell3 : w3.cell? ⟨b, off + j, none⟩ = some (.string s) := cell_through Q3.out hcell (by omega))
            | (at_builtin; refine wpList_append_fits _ rfl _ _ 32 rfl w.heap.size 5 i0 1 Try.underlying32 Hi.out Hz1.out w.heap.size e d _ rfl ((own_through O1.out Q3.out hne.out).alloc _) ⟨w3.heap.size, 0, none⟩ 1 1 [.int .u8 (s.size : Int)] rfl rfl (cell_one_new _ _ _) (oneK _ _) y2 ?_; intro w4 ho4 hg4; have P4 := hide ho4; have Q4 := hide hg4; clear ho4 hg4; have hcell4 : w4.cell? ⟨b, off + j, none⟩ = some (.string s) := cell_through Q4.out hcell3 (by omega))
            | (at_builtin; refine wpList_append_fits_string _ rfl _ _ 32 9 rfl w.heap.size 5 i0 Try.underlying32 Try.underlying9 Hi.out Hz1.out w.heap.size (e + 1) d _ rfl P4.out s rfl y3 ?_; intro w5 ho5 hg5; have P5 := hide ho5; have Q5 := hide hg5; clear ho5 hg5))
          have hfin : Hid (EncAt w L w.heap.size g2 d n (j + 1) (e + 1 + s.size) w5) := EncAt.step hkL HK.out hs255 hEl.out hne.out g2w hbel.out P3.out Q3.out Q4.out P5.out Q5.out
          go_roundw
          case rel => exact ⟨j + 1, by omega, by go_num, e + 1 + s.size, by omega, rfl, rfl, hfin⟩
          case measure => simp [intOf]; omega
        · obtain rfl : j = n := by omega
          have hT : Hid (L.take j = L) := by show _ = _; rw [List.take_of_length_le (by have := HN.out; omega)]
          have hlen := hE.out.len
          have hout := hE.out.out
          have hoff := hE.out.offs
          rw [hT.out] at hlen hout hoff
          obtain rfl : e = d := by rw [hlen, hdC.out]
          have U1 := hide (UB_of hlen hout)
          have U2 := hide (OB_of (by rw [offL_len, HN.out]) hoff)
          have HL := hide hlen
          have HB := hide hE.out.bel
          clear hlen hout hoff hE
          go_wp2
          go_ret2
          exact ⟨_, _, _, rfl, HL.out, hd0, U1.out, U2.out, HB.out⟩
end Go.Proofs.Qxb6003469a.ShC
