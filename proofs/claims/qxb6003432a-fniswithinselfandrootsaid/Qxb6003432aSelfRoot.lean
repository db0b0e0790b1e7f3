import Derived.Test.Qxb6003432aWithin
namespace Go.Proofs.Qxb6003432a.SelfRoot
open Go.ChangeShapes Go.WideShapes Go.ChangeAt Go.RowKit
open Go.Proofs.Qxb6003432a.Within

theorem bytes_yes (a0 : ByteArray) (h : (a0.size : Int) ≤ 1048576) (w : World) :
    Calls Try.prog 24 #[.string a0] w fun e w' => e = .returned (.bool true) ∧ w' = w := by
  have h' : ¬ (1048576 : Int) < (a0.size : Int) := by omega
  go_enter Try.func24, Try.ntmps24
  go_wp2
  go_ret
  exact ⟨rfl, rfl⟩
theorem bytes_no (a0 : ByteArray) (h : (1048576 : Int) < (a0.size : Int)) (w : World) :
    Calls Try.prog 24 #[.string a0] w fun e w' => e = .returned (.bool false) ∧ w' = w := by
  go_enter Try.func24, Try.ntmps24
  go_wp2
  go_ret
  exact ⟨rfl, rfl⟩

theorem zzName_any (a0 : ByteArray) (w : World) :
    Calls Try.prog 17 #[.string a0] w fun e w' => e = .returned (.agg #[.string a0]) ∧ w' = w.alloc (.cells #[.string a0] 26) := by
  go_enter Try.func17, Try.ntmps17
  go_wp2
  exact bodyPost_ret (v := .agg #[.string a0]) (by simp [results, Try.results17, go_sem]) rfl ⟨rfl, rfl⟩

theorem below3 {w w1 : World} {o1 o2 o3 : Obj} (h : Below (((w.alloc o1).alloc o2).alloc o3).heap.size (((w.alloc o1).alloc o2).alloc o3) w1) : Below w.heap.size w w1 ∧ w.heap.size + 3 ≤ w1.heap.size :=
  ⟨((((Below.refl w.heap.size w).alloc (by simp) o1).alloc (by go_size) o2).alloc (by go_size) o3).trans (h.mono (by simp; omega)), by have := h.size; simp at this; omega⟩

theorem cellB {W w1 : World} {B b o : Nat} {v : Value} (hb : Below B W w1) (h : b < B) (hc : W.cell? ⟨b, o, none⟩ = some v) : w1.cell? ⟨b, o, none⟩ = some v :=
  (hb.cell (p := ⟨b, o, none⟩) h).trans hc

theorem walk (a0 : ByteArray) (w0 : a0.size ≤ maxLen) (w : World) :
    Calls Try.prog 8 #[.string a0] w fun e w' => e = .returned (.bool true) ∧ Below w.heap.size w w' := by
  by_cases hb : (a0.size : Int) ≤ 1048576
  · have hb' : ¬ (1048576 : Int) < (a0.size : Int) := by omega
    go_enter Try.func8, Try.ntmps8
    go_wp2_with (go_at_call 24; refine (bytes_yes _ hb _).mono ?_; rintro e w' ⟨rfl, rfl⟩)
    refine (zzName_any _ _).mono ?_
    rintro e w1 ⟨rfl, rfl⟩
    go_wp2_with fail
    refine (within_self a0 w0 _).mono ?_
    rintro e w1 ⟨rfl, hb1⟩
    have hn1 : w1.cell? ⟨w'.heap.size + 1, 0, none⟩ = some (.string a0) := cellB hb1 (by simp) (by simp [go_sem])
    have hr1 : w1.cell? ⟨w'.heap.size + 1 + 1, 0, none⟩ = some (.string ⟨#[]⟩) := cellB hb1 (by simp) (by simp [go_sem])
    obtain ⟨hB1, hz1⟩ := below3 hb1
    have HB1 := hide hB1
    clear hb1 hB1
    go_wp2_with fail
    by_cases h0 : a0.size = 0
    · obtain rfl : a0 = ⟨#[]⟩ := ByteArray.ext (Array.eq_empty_of_size_eq_zero h0)
      refine (within_self ⟨#[]⟩ w0 _).mono ?_
      rintro e w2 ⟨rfl, hb2⟩
      have hn2 : w2.cell? ⟨w'.heap.size + 1, 0, none⟩ = some (.string ⟨#[]⟩) := cellB hb2 (by omega) hn1
      have hr2 : w2.cell? ⟨w'.heap.size + 1 + 1, 0, none⟩ = some (.string ⟨#[]⟩) := cellB hb2 (by omega) hr1
      have HB2 := hide (HB1.out.trans (hb2.mono (by omega)))
      have hz2 : w'.heap.size ≤ w2.heap.size := by have := hb2.size; omega
      clear hb2 HB1
      go_wp2_with fail
      refine (wellFormed_any ⟨#[]⟩ w0 _).mono ?_
      rintro e w3 ⟨b, rfl, hk, rfl⟩
      have HK := hide hk
      clear hk
      cases b
      · go_wp2
        go_ret
        exact ⟨rfl, HB2⟩
      · go_wp2_with fail
        refine (within_self ⟨#[]⟩ w0 _).mono ?_
        rintro e w4 ⟨rfl, hb4⟩
        have HB4 := hide (HB2.out.trans (hb4.mono hz2))
        clear hb4
        go_wp2
        go_ret
        exact ⟨rfl, HB4⟩
    · refine (within_root_no a0 w0 (by omega) _).mono ?_
      rintro e w2 ⟨rfl, hb2⟩
      have hn2 : w2.cell? ⟨w'.heap.size + 1, 0, none⟩ = some (.string a0) := cellB hb2 (by omega) hn1
      have hr2 : w2.cell? ⟨w'.heap.size + 1 + 1, 0, none⟩ = some (.string ⟨#[]⟩) := cellB hb2 (by omega) hr1
      have HB2 := hide (HB1.out.trans (hb2.mono (by omega)))
      have hz2 : w'.heap.size ≤ w2.heap.size := by have := hb2.size; omega
      have h0' : ((a0.size : Int) == 0) = false := beq_eq_false_iff_ne.2 (by omega)
      clear hb2 HB1
      go_wp2_with fail
      refine (wellFormed_any a0 w0 _).mono ?_
      rintro e w3 ⟨b, rfl, hk, rfl⟩
      have HK := hide hk
      clear hk
      cases b
      · go_wp2
        go_ret
        exact ⟨rfl, HB2⟩
      · go_wp2_with fail
        refine (within_root a0 w0 (HK.out (by simp)) _).mono ?_
        rintro e w4 ⟨rfl, hb4⟩
        have HB4 := hide (HB2.out.trans (hb4.mono hz2))
        clear hb4
        go_wp2
        go_ret
        exact ⟨rfl, HB4⟩
  · have hb' : (1048576 : Int) < (a0.size : Int) := by omega
    go_enter Try.func8, Try.ntmps8
    go_wp2_with (go_at_call 24; refine (bytes_no _ hb' _).mono ?_; rintro e w' ⟨rfl, rfl⟩)
    go_ret
    exact ⟨rfl, Below.refl _ _⟩

end Go.Proofs.Qxb6003432a.SelfRoot
