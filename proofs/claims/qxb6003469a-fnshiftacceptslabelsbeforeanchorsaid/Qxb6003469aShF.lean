import Derived.Test.Qxb6003469aShE
namespace Go.Proofs.Qxb6003469a.ShF
open Go.ChangeShapes Go.WideShapes Go.ChangeAt Go.RowKit
open Go.Proofs.Qxb6003469a.BitA
open Go.Proofs.Qxb6003469a.ShA
open Go.Proofs.Qxb6003469a.ShB
open Go.Proofs.Qxb6003469a.ShC
open Go.Proofs.Qxb6003469a.ShD
open Go.Proofs.Qxb6003469a.ShE
set_option linter.unusedVariables false

/-- Where the walk over the labels stands: behind k of them; l: where the last one began. -/
def Stand (L : List ByteArray) (k d l : Nat) : Prop := d = (encL (L.take k)).length ∧ (k = 0 → l = 0) ∧ (∀ j, k = j + 1 → l = (encL (L.take j)).length)

theorem Stand.start (L : List ByteArray) : Stand L 0 0 0 := ⟨rfl, fun _ => rfl, fun j h => by cases h⟩
theorem Stand.next {L : List ByteArray} {k d l m : Nat} (hk : k ≤ L.length) (h : Stand L k d l) (hm : m = (encL L).length) (hd : d < m) (hL : ∀ s ∈ L, s.size ≤ 255) {w : World} {gq : Nat} (hU : UB w gq 12 (encL L)) :
    ∃ z : Nat, w.cell? ⟨gq, 12 + d, none⟩ = some (.int .u8 (z : Int)) ∧ z ≤ 255 ∧ d + 1 + z ≤ m ∧ k + 1 ≤ L.length ∧ Stand L (k + 1) (d + 1 + z) d := by
  have hk' : k < L.length := by
    rcases Nat.lt_or_ge k L.length with h' | h'
    · exact h'
    · have := h.1; rw [List.take_of_length_le h'] at this; omega
  have e := encL_take L k hk'
  have hle := encL_take_le L (k + 1)
  have hz := hL _ (List.getElem_mem hk')
  refine ⟨L[k].size, ?_, hz, ?_, hk', ?_, fun e => by omega, fun j ej => ?_⟩
  · rw [h.1]; exact UB.head (UB.label hU k hk') hz
  · have := h.1; omega
  · have := h.1; omega
  · have : j = k := by omega
    rw [this]; exact h.1
/-- Behind the last label. -/
theorem Stand.last {L : List ByteArray} {k d l m : Nat} (hk : k ≤ L.length) (h : Stand L k d l) (hm : m = (encL L).length) (hd : d = m) (h0 : 0 < m) :
    ∃ q, ∃ hq : q + 1 = L.length, l = (encL (L.take q)).length ∧ l + (1 + L[q].size) = m := by
  have hkL : k = L.length := by
    rcases Nat.lt_or_ge k L.length with h' | h'
    · have e := encL_take L k h'
      have hle := encL_take_le L (k + 1)
      have := h.1; omega
    · omega
  cases k with
  | zero => have := h.1; simp [encL] at this; omega
  | succ q =>
    refine ⟨q, hkL, h.2.2 q rfl, ?_⟩
    have e := encL_take L q (by omega)
    rw [h.2.2 q rfl, ← e, ← h.1]; exact hd

theorem Stand.fin {L M : List ByteArray} {k d l m : Nat} (hk : k ≤ L.length) (h : Stand L k d l) (hm : m = (encL L).length) (hd : d = m) (h0 : 0 < m) (hlast : ∀ q (hq : q + 1 = L.length), ∀ s ∈ M, s ≠ L[q]) {w : World} {gq : Nat} (hU : UB w gq 12 (encL L)) :
    ∃ y : ByteArray, UB w gq (12 + l) (lab y) ∧ l + (1 + y.size) = m ∧ ∀ s ∈ M, s ≠ y := by
  obtain ⟨q, hq, hl1, hl2⟩ := h.last hk hm hd h0
  exact ⟨L[q], by rw [hl1]; exact UB.label hU q (by omega), hl2, hlast q hq⟩
theorem below_facts {M : List ByteArray} {w : World} {gd go md nb j : Nat} (hD : UB w gd 0 (encL M)) (hO : OB w go (offL 0 M)) (hM : ∀ s ∈ M, s.size ≤ 255) (hmd : md = (encL M).length) (hmd2 : md ≤ 65535) (hnb : nb = M.length) (hj : j < nb) :
    ∃ (s : ByteArray) (o : Nat), w.cell? ⟨go, j, none⟩ = some (.int .u16 (o : Int)) ∧ w.cell? ⟨gd, o, none⟩ = some (.int .u8 (s.size : Int)) ∧ UB w gd o (lab s) ∧ o + 1 + s.size ≤ md ∧ s.size ≤ 255 ∧ s ∈ M := by
  have hj' : j < M.length := by omega
  have e := encL_take M j hj'
  have hle := encL_take_le M (j + 1)
  have h1 := hO j (by rw [offL_len]; exact hj')
  rw [offL_at, Nat.zero_add] at h1
  have h2 := UB.label hD j hj'
  rw [Nat.zero_add] at h2
  have hs := hM _ (List.getElem_mem hj')
  have hw : IntKind.u16.wrap ((encL (M.take j)).length : Int) = ((encL (M.take j)).length : Int) := by
    generalize (encL (M.take j)).length = a at *
    have : a ≤ 65535 := by omega
    rw [IntKind.wrap_u16]; omega
  rw [hw] at h1
  exact ⟨M[j], _, h1, UB.head h2 hs, h2, by omega, hs, List.getElem_mem hj'⟩

set_option maxHeartbeats 1000000 in
theorem shift_any (A T : ByteArray) (L M : List ByteArray) (Fb Bb gd md go nb gq nB C m Q : Nat) (hA : A.size ≤ 1048576) (hm1 : m ≤ 16777216) (hm : m = (encL L).length) (hQ : 12 + m + A.size = Q) (hnq : Q ≤ nB) (hC : nB ≤ C) (hC2 : C ≤ 1073741824)
    (hL : ∀ s ∈ L, s.size ≤ 255) (hM : ∀ s ∈ M, s.size ≤ 255) (hmd : md = (encL M).length) (hmd2 : md ≤ 65535) (hnb : nb = M.length) (hnb2 : nb ≤ 65536) (hlast : ∀ q (hq : q + 1 = L.length), ∀ s ∈ M, s ≠ L[q])
    (w : World) (hI : ShIn w Fb Bb A gd md go nb gq nB C (Q : Int)) (hU : UB w gq 0 (zeros12 ++ encL L ++ A.data.toList ++ T.data.toList)) (hD : UB w gd 0 (encL M)) (hO : OB w go (offL 0 M)) (hC12 : ¬ C = 12) (hCm : ¬ C - 12 = m) :
    Calls Try.prog 31 #[.pointer (some ⟨Fb, 0, none⟩), .pointer (some ⟨Bb, 0, none⟩)] w fun e w' => e = .returned (.tuple #[.int .i64 m, .bool true]) ∧ ∃ k, w' = w.drewN k := by
  obtain ⟨f0, f1, f5, b0, b3, b4, b5, b6, b14⟩ := hI
  have q0 : ((Q : Int) == 0) = false := beq_eq_false_iff_ne.2 (by omega)
  have he := eq41
  have hnm : ((Q - 12 : Nat) : Int) - (A.size : Int) = (m : Int) := by omega
  have hmi : (m : Int) ≤ ((Q - 12 : Nat) : Int) := by omega
  have hm0 : decide ((m : Int) < 0) = false := decide_eq_false (by omega)
  have U1 : Hid (UB w gq 12 (encL L)) := by
    have h := UB.right (UB.left (UB.left hU))
    exact h
  have hcv : ∀ k, (convert 32 9 (.slice (if C - 12 = m then some ⟨gq, 12, none⟩ else some ⟨gq, 12 + m, none⟩) (Q - 12 - m) (C - 12 - m))).run Try.prog (w.drewN k) = .ok (.string A) (w.drewN k) := by
    intro k
    by_cases e : C - 12 = m
    · have hA0 : A.size = 0 := by omega
      have hA1 : A = ⟨#[]⟩ := ByteArray.ext (Array.eq_empty_of_size_eq_zero hA0)
      rw [if_pos e, show Q - 12 - m = 0 by omega, hA1]
      exact conv_none _ _ _
    · rw [if_neg e]
      have h := UB.right (UB.left hU)
      have hl : (zeros12 ++ encL L).length = 12 + m := by rw [List.length_append, ← hm]; rfl
      rw [hl, Nat.zero_add] at h
      have := conv_bytes h (Q - 12 - m) (C - 12 - m) (by show A.size = _; omega) k
      rw [str_data] at this
      exact this
  have HM := hide hm
  have HU := hide hU
  have HD := hide hD
  have HO := hide hO
  have HLs := hide hL
  have HMs := hide hM
  have Hmd := hide hmd
  have Hnb := hide hnb
  have Hlast := hide hlast
  have hQ12 : 12 + m + A.size ≤ Q := by omega
  have hQ13 : Q ≤ 12 + m + A.size := by omega
  clear hm hQ hU hD hO hL hM hmd hnb hlast
  rw [if_neg hCm] at hcv
  go_enter Try.func31, Try.ntmps31
  go_wp2
  go_quiet (fail)
  go_wp2
  go_quiet (fail)
  go_wp2
  go_loopw [8, 9] (fun i x wr => ∃ k d l : Nat, d ≤ m ∧ i = .int .i64 d ∧ x = .int .i64 l ∧ Hid (k ≤ L.length ∧ Stand L k d l) ∧ ∃ n, wr = w.drewN n) (fun i _ _ => m - (intOf i).toNat)
  case atStart => exact ⟨0, 0, 0, Nat.zero_le _, rfl, rfl, ⟨Nat.zero_le _, Stand.start L⟩, _, by simp only [World.drewN_drewN]; rfl⟩
  case round =>
    obtain ⟨k, d, l, hd, rfl, rfl, hS, n0, rfl⟩ := hrel
    by_cases hlt : d < m
    · obtain ⟨z, hcell, hz, hle, hS'⟩ := hS.out.2.next hS.out.1 HM.out hlt HLs.out U1.out
      have HS' := hide hS'
      have hlq : (d : Int) < ((Q - 12 : Nat) : Int) := by omega
      clear hS hS'
      go_wp2
      go_quiet (fail)
      go_wp2
      go_roundw
      case rel => exact ⟨k + 1, d + 1 + z, d, hle, by go_num, rfl, HS'.out, _, by simp only [World.drewN_drewN]; rfl⟩
      case measure => simp [intOf]; omega
    · obtain rfl : m = d := by omega
      have hl := hS.out
      clear hlt hd hS
      have HL := hide hl
      clear hl
      by_cases h0 : m = 0
      · have h00 : decide (0 < m) = false := decide_eq_false (by omega)
        go_wp2
        go_ret2
        refine ⟨rfl, _, rfl⟩
      · have h00 : decide (0 < m) = true := decide_eq_true (by omega)
        obtain ⟨y, hcq, hl2, hly⟩ := HL.out.2.fin HL.out.1 HM.out rfl (by omega) Hlast.out U1.out
        have HLY := hide hly
        have hcq := conv_bytes hcq (m - l) (C - 12 - l) (by rw [lab_len]; omega)
        have hCl : ¬ C - 12 = l := by omega
        have hlm : l ≤ m := by omega
        clear HL hl2 Hlast hly
        go_wp2
        go_loopw [77] (fun i wr => ∃ j : Nat, j ≤ nb ∧ i = .int .i64 j ∧ ∃ n, wr = w.drewN n) (fun i _ => nb - (intOf i).toNat)
        case atStart => exact ⟨0, Nat.zero_le _, rfl, _, rfl⟩
        case round =>
          obtain ⟨j, hj, rfl, n1, rfl⟩ := hrel
          by_cases hlt : j < nb
          · obtain ⟨s, o, c1, c2, hus, hos, hs, hsM⟩ := below_facts HD.out HO.out HMs.out Hmd.out hmd2 Hnb.out hlt
            have hcs := conv_bytes hus (1 + s.size) (md - o) (lab_len s)
            have hne : (lab s == lab y) = false := beq_eq_false_iff_ne.2 (fun e => lab_inj (HLY.out s hsM) (by rw [e]))
            have hmo : ¬ md = o := by omega
            have hom : o < md := by omega
            have hom1 : (o : Int) < (md : Int) := by omega
            have hw1 : IntKind.i64.wrap (o : Int) = (o : Int) := by rw [IntKind.wrap_i64]; omega
            have hw2 : IntKind.i64.wrap ((o : Int) + 1) = (o : Int) + 1 := by rw [IntKind.wrap_i64]; omega
            have hw3 : IntKind.i64.wrap (s.size : Int) = (s.size : Int) := by rw [IntKind.wrap_i64]; omega
            have hw4 : IntKind.i64.wrap ((o : Int) + 1 + (s.size : Int)) = ((o + (1 + s.size) : Nat) : Int) := by rw [IntKind.wrap_i64]; omega
            have hw5 : ((o + (1 + s.size) : Nat) : Int) ≤ (md : Int) := by omega
            have hw6 : (o : Int) ≤ ((o + (1 + s.size) : Nat) : Int) := by omega
            have hw7 : o + (1 + s.size) - o = 1 + s.size := by omega
            have HH := hide hsM
            clear hsM hus
            go_wp2
            go_quiet (fail)
            go_wp2
            go_roundw
            case rel => exact ⟨j + 1, by omega, by go_num, _, rfl⟩
            case measure => simp [intOf]; omega
          · go_wp2
            go_ret2
            exact ⟨rfl, _, rfl⟩
set_option maxHeartbeats 1000000 in
theorem shift_full (A T : ByteArray) (L M : List ByteArray) (Fb Bb gd md go nb gq nB C m Q : Nat) (hA : A.size ≤ 1048576) (hm1 : m ≤ 16777216) (hm : m = (encL L).length) (hQ : 12 + m + A.size = Q) (hnq : Q ≤ nB) (hC : nB ≤ C) (hC2 : C ≤ 1073741824)
    (hL : ∀ s ∈ L, s.size ≤ 255) (hM : ∀ s ∈ M, s.size ≤ 255) (hmd : md = (encL M).length) (hmd2 : md ≤ 65535) (hnb : nb = M.length) (hnb2 : nb ≤ 65536) (hlast : ∀ q (hq : q + 1 = L.length), ∀ s ∈ M, s ≠ L[q])
    (w : World) (hI : ShIn w Fb Bb A gd md go nb gq nB C (Q : Int)) (hU : UB w gq 0 (zeros12 ++ encL L ++ A.data.toList ++ T.data.toList)) (hD : UB w gd 0 (encL M)) (hO : OB w go (offL 0 M)) (hC12 : ¬ C = 12) (hCm : C - 12 = m) :
    Calls Try.prog 31 #[.pointer (some ⟨Fb, 0, none⟩), .pointer (some ⟨Bb, 0, none⟩)] w fun e w' => e = .returned (.tuple #[.int .i64 m, .bool true]) ∧ ∃ k, w' = w.drewN k := by
  obtain ⟨f0, f1, f5, b0, b3, b4, b5, b6, b14⟩ := hI
  have q0 : ((Q : Int) == 0) = false := beq_eq_false_iff_ne.2 (by omega)
  have he := eq41
  have hnm : ((Q - 12 : Nat) : Int) - (A.size : Int) = (m : Int) := by omega
  have hmi : (m : Int) ≤ ((Q - 12 : Nat) : Int) := by omega
  have hm0 : decide ((m : Int) < 0) = false := decide_eq_false (by omega)
  have U1 : Hid (UB w gq 12 (encL L)) := by
    have h := UB.right (UB.left (UB.left hU))
    exact h
  have hcv : ∀ k, (convert 32 9 (.slice (if C - 12 = m then some ⟨gq, 12, none⟩ else some ⟨gq, 12 + m, none⟩) (Q - 12 - m) (C - 12 - m))).run Try.prog (w.drewN k) = .ok (.string A) (w.drewN k) := by
    intro k
    by_cases e : C - 12 = m
    · have hA0 : A.size = 0 := by omega
      have hA1 : A = ⟨#[]⟩ := ByteArray.ext (Array.eq_empty_of_size_eq_zero hA0)
      rw [if_pos e, show Q - 12 - m = 0 by omega, hA1]
      exact conv_none _ _ _
    · rw [if_neg e]
      have h := UB.right (UB.left hU)
      have hl : (zeros12 ++ encL L).length = 12 + m := by rw [List.length_append, ← hm]; rfl
      rw [hl, Nat.zero_add] at h
      have := conv_bytes h (Q - 12 - m) (C - 12 - m) (by show A.size = _; omega) k
      rw [str_data] at this
      exact this
  have HM := hide hm
  have HU := hide hU
  have HD := hide hD
  have HO := hide hO
  have HLs := hide hL
  have HMs := hide hM
  have Hmd := hide hmd
  have Hnb := hide hnb
  have Hlast := hide hlast
  have hQ12 : 12 + m + A.size ≤ Q := by omega
  have hQ13 : Q ≤ 12 + m + A.size := by omega
  clear hm hQ hU hD hO hL hM hmd hnb hlast
  have hcv2 : ∀ k, (convert 32 9 (.slice (some ⟨gq, 12, none⟩) (Q - 12 - m) 0)).run Try.prog (w.drewN k) = .ok (.string A) (w.drewN k) := by
    intro k
    have := hcv k
    rw [if_pos hCm, show C - 12 - m = 0 by omega] at this
    exact this
  clear hcv
  go_enter Try.func31, Try.ntmps31
  go_wp2
  go_quiet (fail)
  go_wp2
  go_quiet (fail)
  go_wp2
  go_loopw [8, 9] (fun i x wr => ∃ k d l : Nat, d ≤ m ∧ i = .int .i64 d ∧ x = .int .i64 l ∧ Hid (k ≤ L.length ∧ Stand L k d l) ∧ ∃ n, wr = w.drewN n) (fun i _ _ => m - (intOf i).toNat)
  case atStart => exact ⟨0, 0, 0, Nat.zero_le _, rfl, rfl, ⟨Nat.zero_le _, Stand.start L⟩, _, by simp only [World.drewN_drewN]; rfl⟩
  case round =>
    obtain ⟨k, d, l, hd, rfl, rfl, hS, n0, rfl⟩ := hrel
    by_cases hlt : d < m
    · obtain ⟨z, hcell, hz, hle, hS'⟩ := hS.out.2.next hS.out.1 HM.out hlt HLs.out U1.out
      have HS' := hide hS'
      have hlq : (d : Int) < ((Q - 12 : Nat) : Int) := by omega
      clear hS hS'
      go_wp2
      go_quiet (fail)
      go_wp2
      go_roundw
      case rel => exact ⟨k + 1, d + 1 + z, d, hle, by go_num, rfl, HS'.out, _, by simp only [World.drewN_drewN]; rfl⟩
      case measure => simp [intOf]; omega
    · obtain rfl : m = d := by omega
      have hl := hS.out
      clear hlt hd hS
      have HL := hide hl
      clear hl
      by_cases h0 : m = 0
      · have h00 : decide (0 < m) = false := decide_eq_false (by omega)
        go_wp2
        go_ret2
        refine ⟨rfl, _, rfl⟩
      · have h00 : decide (0 < m) = true := decide_eq_true (by omega)
        obtain ⟨y, hcq, hl2, hly⟩ := HL.out.2.fin HL.out.1 HM.out rfl (by omega) Hlast.out U1.out
        have HLY := hide hly
        have hcq := conv_bytes hcq (m - l) (m - l) (by rw [lab_len]; omega)
        have hCl : ¬ m = l := by omega
        have hlm : l ≤ m := by omega
        clear HL hl2 Hlast hly
        go_wp2
        go_loopw [77] (fun i wr => ∃ j : Nat, j ≤ nb ∧ i = .int .i64 j ∧ ∃ n, wr = w.drewN n) (fun i _ => nb - (intOf i).toNat)
        case atStart => exact ⟨0, Nat.zero_le _, rfl, _, rfl⟩
        case round =>
          obtain ⟨j, hj, rfl, n1, rfl⟩ := hrel
          by_cases hlt : j < nb
          · obtain ⟨s, o, c1, c2, hus, hos, hs, hsM⟩ := below_facts HD.out HO.out HMs.out Hmd.out hmd2 Hnb.out hlt
            have hcs := conv_bytes hus (1 + s.size) (md - o) (lab_len s)
            have hne : (lab s == lab y) = false := beq_eq_false_iff_ne.2 (fun e => lab_inj (HLY.out s hsM) (by rw [e]))
            have hmo : ¬ md = o := by omega
            have hom : o < md := by omega
            have hom1 : (o : Int) < (md : Int) := by omega
            have hw1 : IntKind.i64.wrap (o : Int) = (o : Int) := by rw [IntKind.wrap_i64]; omega
            have hw2 : IntKind.i64.wrap ((o : Int) + 1) = (o : Int) + 1 := by rw [IntKind.wrap_i64]; omega
            have hw3 : IntKind.i64.wrap (s.size : Int) = (s.size : Int) := by rw [IntKind.wrap_i64]; omega
            have hw4 : IntKind.i64.wrap ((o : Int) + 1 + (s.size : Int)) = ((o + (1 + s.size) : Nat) : Int) := by rw [IntKind.wrap_i64]; omega
            have hw5 : ((o + (1 + s.size) : Nat) : Int) ≤ (md : Int) := by omega
            have hw6 : (o : Int) ≤ ((o + (1 + s.size) : Nat) : Int) := by omega
            have hw7 : o + (1 + s.size) - o = 1 + s.size := by omega
            have HH := hide hsM
            clear hsM hus
            go_wp2
            go_quiet (fail)
            go_wp2
            go_roundw
            case rel => exact ⟨j + 1, by omega, by go_num, _, rfl⟩
            case measure => simp [intOf]; omega
          · go_wp2
            go_ret2
            exact ⟨rfl, _, rfl⟩
set_option maxHeartbeats 1000000 in
theorem shift_twelve (A T : ByteArray) (L M : List ByteArray) (Fb Bb gd md go nb gq nB C m Q : Nat) (hA : A.size ≤ 1048576) (hm1 : m ≤ 16777216) (hm : m = (encL L).length) (hQ : 12 + m + A.size = Q) (hnq : Q ≤ nB) (hC : nB ≤ C) (hC2 : C ≤ 1073741824)
    (hL : ∀ s ∈ L, s.size ≤ 255) (hM : ∀ s ∈ M, s.size ≤ 255) (hmd : md = (encL M).length) (hmd2 : md ≤ 65535) (hnb : nb = M.length) (hnb2 : nb ≤ 65536) (hlast : ∀ q (hq : q + 1 = L.length), ∀ s ∈ M, s ≠ L[q])
    (w : World) (hI : ShIn w Fb Bb A gd md go nb gq nB C (Q : Int)) (hU : UB w gq 0 (zeros12 ++ encL L ++ A.data.toList ++ T.data.toList)) (hD : UB w gd 0 (encL M)) (hO : OB w go (offL 0 M)) (hC12 : C = 12) :
    Calls Try.prog 31 #[.pointer (some ⟨Fb, 0, none⟩), .pointer (some ⟨Bb, 0, none⟩)] w fun e w' => e = .returned (.tuple #[.int .i64 m, .bool true]) ∧ ∃ k, w' = w.drewN k := by
  obtain ⟨f0, f1, f5, b0, b3, b4, b5, b6, b14⟩ := hI
  subst hC12
  have hA0 : A.size = 0 := by omega
  obtain rfl : m = 0 := by omega
  obtain rfl : Q = 12 := by omega
  obtain rfl : nB = 12 := by omega
  have q0 : ((12 : Nat) : Int) = 12 := rfl
  have he := eq41
  have hA1 : A = ⟨#[]⟩ := ByteArray.ext (Array.eq_empty_of_size_eq_zero hA0)
  subst hA1
  have hcv : ∀ k, (convert 32 9 (.slice (some ⟨gq, 0, none⟩) 0 0)).run Try.prog (w.drewN k) = .ok (.string ⟨#[]⟩) (w.drewN k) := fun k => conv_none _ _ _
  have hz : (⟨#[]⟩ : ByteArray).size = 0 := rfl
  clear hm hQ hU hD hO hL hM hmd hnb hlast hA hA0
  rw [q0] at b14
  go_enter Try.func31, Try.ntmps31
  go_wp2
  go_quiet (fail)
  go_wp2
  go_quiet (fail)
  go_wp2
  go_loopw [8] (fun i wr => i = .int .i64 0 ∧ ∃ n, wr = w.drewN n) (fun _ _ => 0)
  case atStart => exact ⟨rfl, _, by simp only [World.drewN_drewN]; rfl⟩
  case round =>
    obtain ⟨rfl, n0, rfl⟩ := hrel
    go_wp2
    go_ret2
    exact ⟨rfl, _, rfl⟩
/-- shift on labels, then the anchor. -/
theorem shift_all (A T : ByteArray) (L M : List ByteArray) (Fb Bb gd md go nb gq nB C m Q : Nat) (hA : A.size ≤ 1048576) (hm1 : m ≤ 16777216) (hm : m = (encL L).length) (hQ : 12 + m + A.size = Q) (hnq : Q ≤ nB) (hC : nB ≤ C) (hC2 : C ≤ 1073741824)
    (hL : ∀ s ∈ L, s.size ≤ 255) (hM : ∀ s ∈ M, s.size ≤ 255) (hmd : md = (encL M).length) (hmd2 : md ≤ 65535) (hnb : nb = M.length) (hnb2 : nb ≤ 65536) (hlast : ∀ q (hq : q + 1 = L.length), ∀ s ∈ M, s ≠ L[q])
    (w : World) (hI : ShIn w Fb Bb A gd md go nb gq nB C (Q : Int)) (hU : UB w gq 0 (zeros12 ++ encL L ++ A.data.toList ++ T.data.toList)) (hD : UB w gd 0 (encL M)) (hO : OB w go (offL 0 M)) :
    Calls Try.prog 31 #[.pointer (some ⟨Fb, 0, none⟩), .pointer (some ⟨Bb, 0, none⟩)] w fun e w' => e = .returned (.tuple #[.int .i64 m, .bool true]) ∧ ∃ k, w' = w.drewN k := by
  by_cases h12 : C = 12
  · exact shift_twelve A T L M Fb Bb gd md go nb gq nB C m Q hA hm1 hm hQ hnq hC hC2 hL hM hmd hmd2 hnb hnb2 hlast w hI hU hD hO h12
  · by_cases hCm : C - 12 = m
    · exact shift_full A T L M Fb Bb gd md go nb gq nB C m Q hA hm1 hm hQ hnq hC hC2 hL hM hmd hmd2 hnb hnb2 hlast w hI hU hD hO h12 hCm
    · exact shift_any A T L M Fb Bb gd md go nb gq nB C m Q hA hm1 hm hQ hnq hC hC2 hL hM hmd hmd2 hnb hnb2 hlast w hI hU hD hO h12 hCm
end Go.Proofs.Qxb6003469a.ShF
