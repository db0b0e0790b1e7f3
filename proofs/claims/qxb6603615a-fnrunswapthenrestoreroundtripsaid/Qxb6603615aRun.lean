import Derived.Test.Qxb6603615aPlain
namespace Go.Proofs.Qxb6603615a.Run
open Go.ChangeShapes Go.WideShapes Go.ChangeAt Go.RowKit
open Go.Proofs.Qxb6603615a.Plain
set_option linter.unusedVariables false

/-- w' is w with new blocks, and with writes to block B alone. -/
def Only (B : Nat) (w w' : World) : Prop := w.grownBy w' (some B)
theorem Only.refl (B : Nat) (w : World) : Only B w w := ⟨rfl, rfl, rfl, Nat.le_refl _, fun _ _ _ => rfl⟩
theorem Only.trans {B : Nat} {w w1 w2 : World} (h : Only B w w1) (k : Only B w1 w2) : Only B w w2 :=
  ⟨k.os.trans h.os, k.tape.trans h.tape, k.output.trans h.output, Nat.le_trans h.size k.size, fun i hi hn => (k.block i (Nat.lt_of_lt_of_le hi h.size) hn).trans (h.block i hi hn)⟩
theorem Only.alloc {B : Nat} {w w1 : World} (h : Only B w w1) (o : Obj) : Only B w (w1.alloc o) := h.trans (World.grownBy_alloc w1 o (some B))
theorem Only.set {B : Nat} {w w1 : World} (h : Only B w w1) (o : Nat) (u : Value) : Only B w (w1.setCell ⟨B, o, none⟩ u) :=
  h.trans ⟨rfl, rfl, rfl, by simp [World.setCell], fun i _ hn => Below.heap_setCell _ _ _ _ (fun e => hn (by rw [e]))⟩
/-- A write into a block that was not there at the start. -/
theorem Only.setNew {B : Nat} {w w1 : World} (h : Only B w w1) {a : Addr} (ha : w.heap.size ≤ a.block) (u : Value) : Only B w (w1.setCell a u) :=
  ⟨h.os, h.tape, h.output, by have := h.size; simpa [World.setCell] using this, fun i hi hn => (Below.heap_setCell _ _ _ _ (by omega)).trans (h.block i hi hn)⟩
theorem Only.drewN {B : Nat} {w w1 : World} (h : Only B w w1) (n : Nat) : Only B w (w1.drewN n) := ⟨h.os, h.tape, h.output, h.size, h.block⟩
theorem Only.below {B : Nat} {w w1 : World} (h : Only B w w1) {C : Nat} (hC : C ≤ B) (hs : C ≤ w.heap.size) : Below C w w1 :=
  ⟨h.os, h.tape, h.output, h.size, fun i hi => h.block i (by omega) (fun e => by have := Option.some.inj e; omega)⟩
theorem Only.cell {B : Nat} {w w1 : World} (h : Only B w w1) {b o : Nat} {v : Value} (hc : w.cell? ⟨b, o, none⟩ = some v) (hne : b ≠ B) : w1.cell? ⟨b, o, none⟩ = some v :=
  World.grownBy.cell h hc (fun e => hne (Option.some.inj e))

theorem Pl.block {w w' : World} {B : Nat} {v : Int} {p : Bool} (h : Pl w B v p) (hb : w'.heap[B]? = w.heap[B]?) : Pl w' B v p :=
  ⟨(World.cell?_of_block (w := w) hb).trans h.val, (World.cell?_of_block (w := w) hb).trans h.pres, (World.frozen?_of_block (w := w) hb).trans h.warm, (World.frozen?_of_block (w := w) hb).trans h.warm'⟩
theorem Pl.lt {w : World} {B : Nat} {v : Int} {p : Bool} (h : Pl w B v p) : B < w.heap.size := World.block_lt_of_cell? w _ h.val
theorem Pl.alloc {w : World} {B : Nat} {v : Int} {p : Bool} (h : Pl w B v p) (o : Obj) : Pl (w.alloc o) B v p := Pl.block h (Below.heap_alloc _ _ _ (Pl.lt h))
theorem Pl.setNew {w : World} {B : Nat} {v : Int} {p : Bool} (h : Pl w B v p) {a : Addr} (ha : B ≠ a.block) (u : Value) : Pl (w.setCell a u) B v p := Pl.block h (Below.heap_setCell _ _ _ _ ha)

theorem Only.frozen {B : Nat} {w w1 : World} (h : Only B w w1) {b : Nat} (hb : b < w.heap.size) (hne : b ≠ B) (o : Nat) : w1.frozen? ⟨b, o, none⟩ = w.frozen? ⟨b, o, none⟩ :=
  World.frozen?_of_block (w := w) (World.grownBy.block h b hb (fun e => hne (Option.some.inj e)))

/-- What the three boxes that Run lays hold behind the call of the map's method. -/
theorem boxes {B : Nat} {w w1 : World} {o : Obj} (hB : B < w.heap.size) (h : Only B (((w.alloc o).alloc (.cells #[.int .i64 0, .bool false] 26)).alloc (.cells #[.int .i64 0, .bool false] 26)) w1) :
    (w1.cell? ⟨w.heap.size + 1, 0, none⟩ = some (.int .i64 0) ∧ w1.cell? ⟨w.heap.size + 1, 1, none⟩ = some (.bool false) ∧ w1.cell? ⟨w.heap.size + 1 + 1, 0, none⟩ = some (.int .i64 0) ∧ w1.cell? ⟨w.heap.size + 1 + 1, 1, none⟩ = some (.bool false)) ∧
    (w1.frozen? ⟨w.heap.size + 1, 0, none⟩ = false ∧ w1.frozen? ⟨w.heap.size + 1, 1, none⟩ = false ∧ w1.frozen? ⟨w.heap.size + 1 + 1, 0, none⟩ = false ∧ w1.frozen? ⟨w.heap.size + 1 + 1, 1, none⟩ = false) ∧
    Only B w w1 ∧ w.heap.size + 3 ≤ w1.heap.size := by
  have hz := h.size
  simp at hz
  refine ⟨⟨h.cell (by simp [go_sem]) (by omega), h.cell (by simp [go_sem]) (by omega), h.cell (by simp [go_sem]) (by omega), h.cell (by simp [go_sem]) (by omega)⟩, ⟨?_, ?_, ?_, ?_⟩, ((((Only.refl B w).alloc _).alloc _).alloc _).trans h, by omega⟩
  all_goals (rw [h.frozen (by simp) (by omega)]; simp [go_sem])

def RPost (B : Nat) (v : Int) (p : Bool) (r : Value) (w : World) (e : Ending) (w' : World) : Prop := e = .returned r ∧ Pl w' B v p ∧ Only B w w'

theorem delete_only (B : Nat) (k : ByteArray) (v : Int) (p : Bool) (w : World) (h : Pl w B v p) :
    Calls Try.prog 22 #[.pointer (some ⟨B, 0, none⟩), .string k] w fun e w' => RPost B 0 false (.tuple #[]) w e w' := by
  have c0 := h.val
  have c1 := h.pres
  have f0 := h.warm
  have f1 := h.warm'
  have HS := hide (h.set 0 false)
  clear h
  go_enter Try.func22, Try.ntmps22
  go_wp2
  go_end0
  exact ⟨rfl, HS, ((Only.refl _ _).set _ _).set _ _⟩

theorem store_only (B : Nat) (k : ByteArray) (v x : Int) (p : Bool) (w : World) (h : Pl w B v p) :
    Calls Try.prog 25 #[.pointer (some ⟨B, 0, none⟩), .string k, .int .i64 x] w fun e w' => RPost B x true (.tuple #[]) w e w' := by
  have c0 := h.val
  have c1 := h.pres
  have f0 := h.warm
  have f1 := h.warm'
  have HS := hide (h.set x true)
  clear h
  go_enter Try.func25, Try.ntmps25
  go_wp2
  go_end0
  exact ⟨rfl, HS, ((Only.refl _ _).set _ _).set _ _⟩

theorem load_only (B : Nat) (k : ByteArray) (v : Int) (p : Bool) (w : World) (h : Pl w B v p) :
    Calls Try.prog 23 #[.pointer (some ⟨B, 0, none⟩), .string k] w fun e w' => RPost B v p (.tuple #[.int .i64 v, .bool p]) w e w' := by
  have c0 := h.val
  have c1 := h.pres
  have HS := hide h
  clear h
  go_enter Try.func23, Try.ntmps23
  go_wp2
  go_quiet (fail)
  go_wp2
  go_ret2
  exact ⟨rfl, HS.out.drewN _, (Only.refl _ _).drewN _⟩

theorem fields_only (B : Nat) (v : Int) (p : Bool) (w : World) (h : Pl w B v p) :
    Calls Try.prog 10 #[.pointer (some ⟨B, 0, none⟩)] w fun e w' => RPost B v p (.tuple #[.int .i64 v, .bool p]) w e w' := by
  have c0 := h.val
  have c1 := h.pres
  have HS := hide h
  clear h
  go_enter Try.func10, Try.ntmps10
  go_wp2
  go_quiet (fail)
  go_wp2
  go_ret2
  exact ⟨rfl, HS.out.drewN _, (Only.refl _ _).drewN _⟩

theorem swap_only (B : Nat) (k : ByteArray) (v x : Int) (p : Bool) (w : World) (h : Pl w B v p) (hB : B < w.heap.size) :
    Calls Try.prog 85 #[.pointer (some ⟨B, 0, none⟩), .string k, .int .i64 x] w fun e w' => RPost B x true (.tuple #[.int .i64 v, .bool p]) w e w' := by
  have c0 := h.val
  have c1 := h.pres
  have f0 := h.warm
  have f1 := h.warm'
  have HS := hide (h.set x true)
  clear h
  go_enter Try.func85, Try.ntmps85
  go_wp2
  go_quiet (fail)
  go_wp2
  go_ret2
  exact ⟨rfl, (Pl.alloc HS.out _).drewN _, (Only.alloc (((Only.refl _ _).set _ _).set _ _) _).drewN _⟩

/-- An Op of kind K on key k, its first argument x. -/
def opV (K : Int) (k : ByteArray) (x : Int) : Value := .agg #[.int .i64 0, .int .i64 0, .int .i64 0, .int .i64 K, .string k, .int .i64 x, .int .i64 0, .int .i64 0, .bool false]

theorem run_swap (B : Nat) (k : ByteArray) (v x : Int) (p : Bool) (w : World) (h : Pl w B v p) :
    Calls Try.prog 21 #[opV 5 k x, .iface 23 (.pointer (some ⟨B, 0, none⟩))] w fun e w' => RPost B x true (.agg #[.int .i64 v, .bool p]) w e w' := by
  have hlt := Pl.lt h
  have HP := hide h
  clear h
  unfold opV
  go_enter Try.func21, Try.ntmps21
  go_wp2_with fail
  refine (swap_only B k v x p _ (Pl.alloc (Pl.alloc (Pl.alloc HP.out _) _) _) (by simp; omega)).mono ?_
  rintro e w1 ⟨rfl, hp1, ho1⟩
  obtain ⟨⟨a1, a2, a3, a4⟩, ⟨b1, b2, b3, b4⟩, hO, hz⟩ := boxes hlt ho1
  have HP1 := hide hp1
  have HO := hide hO
  clear hp1 ho1 hO HP
  go_wp2
  exact bodyPost_ret (v := .agg #[.int .i64 v, .bool p]) (by simp [results, Try.results21, go_sem, a1, a2]) rfl ⟨rfl, (Pl.setNew (Pl.setNew (Pl.setNew (Pl.setNew HP1.out (by show B ≠ w.heap.size + 1 + 1; omega) _) (by show B ≠ w.heap.size + 1 + 1; omega) _) (by show B ≠ w.heap.size + 1; omega) _) (by show B ≠ w.heap.size + 1; omega) _), (Only.setNew (Only.setNew (Only.setNew (Only.setNew HO.out (by show w.heap.size ≤ w.heap.size + 1 + 1; omega) _) (by show w.heap.size ≤ w.heap.size + 1 + 1; omega) _) (by show w.heap.size ≤ w.heap.size + 1; omega) _) (by show w.heap.size ≤ w.heap.size + 1; omega) _)⟩

theorem run_load (B : Nat) (k : ByteArray) (v : Int) (p : Bool) (w : World) (h : Pl w B v p) :
    Calls Try.prog 21 #[opV 0 k 0, .iface 23 (.pointer (some ⟨B, 0, none⟩))] w fun e w' => RPost B v p (.agg #[.int .i64 v, .bool p]) w e w' := by
  have hlt := Pl.lt h
  have HP := hide h
  clear h
  unfold opV
  go_enter Try.func21, Try.ntmps21
  go_wp2_with fail
  refine (load_only B k v p _ (Pl.alloc (Pl.alloc (Pl.alloc HP.out _) _) _)).mono ?_
  rintro e w1 ⟨rfl, hp1, ho1⟩
  obtain ⟨⟨a1, a2, a3, a4⟩, ⟨b1, b2, b3, b4⟩, hO, hz⟩ := boxes hlt ho1
  have HP1 := hide hp1
  have HO := hide hO
  clear hp1 ho1 hO HP
  go_wp2
  exact bodyPost_ret (v := .agg #[.int .i64 v, .bool p]) (by simp [results, Try.results21, go_sem, a1, a2]) rfl ⟨rfl, (Pl.setNew (Pl.setNew (Pl.setNew (Pl.setNew HP1.out (by show B ≠ w.heap.size + 1 + 1; omega) _) (by show B ≠ w.heap.size + 1 + 1; omega) _) (by show B ≠ w.heap.size + 1; omega) _) (by show B ≠ w.heap.size + 1; omega) _), (Only.setNew (Only.setNew (Only.setNew (Only.setNew HO.out (by show w.heap.size ≤ w.heap.size + 1 + 1; omega) _) (by show w.heap.size ≤ w.heap.size + 1 + 1; omega) _) (by show w.heap.size ≤ w.heap.size + 1; omega) _) (by show w.heap.size ≤ w.heap.size + 1; omega) _)⟩

theorem run_store (B : Nat) (k : ByteArray) (v x : Int) (p : Bool) (w : World) (h : Pl w B v p) :
    Calls Try.prog 21 #[opV 1 k x, .iface 23 (.pointer (some ⟨B, 0, none⟩))] w fun e w' => RPost B x true (.agg #[.int .i64 0, .bool false]) w e w' := by
  have hlt := Pl.lt h
  have HP := hide h
  clear h
  unfold opV
  go_enter Try.func21, Try.ntmps21
  go_wp2_with fail
  refine (store_only B k v x p _ (Pl.alloc (Pl.alloc (Pl.alloc HP.out _) _) _)).mono ?_
  rintro e w1 ⟨rfl, hp1, ho1⟩
  obtain ⟨⟨a1, a2, a3, a4⟩, ⟨b1, b2, b3, b4⟩, hO, hz⟩ := boxes hlt ho1
  have HP1 := hide hp1
  have HO := hide hO
  clear hp1 ho1 hO HP
  go_wp2
  exact bodyPost_ret (v := .agg #[.int .i64 0, .bool false]) (by simp [results, Try.results21, go_sem, a1, a2]) rfl ⟨rfl, (Pl.setNew (Pl.setNew HP1.out (by show B ≠ w.heap.size + 1; omega) _) (by show B ≠ w.heap.size + 1; omega) _), (Only.setNew (Only.setNew HO.out (by show w.heap.size ≤ w.heap.size + 1; omega) _) (by show w.heap.size ≤ w.heap.size + 1; omega) _)⟩

theorem run_delete (B : Nat) (k : ByteArray) (v : Int) (p : Bool) (w : World) (h : Pl w B v p) :
    Calls Try.prog 21 #[opV 2 k 0, .iface 23 (.pointer (some ⟨B, 0, none⟩))] w fun e w' => RPost B 0 false (.agg #[.int .i64 0, .bool false]) w e w' := by
  have hlt := Pl.lt h
  have HP := hide h
  clear h
  unfold opV
  go_enter Try.func21, Try.ntmps21
  go_wp2_with fail
  refine (delete_only B k v p _ (Pl.alloc (Pl.alloc (Pl.alloc HP.out _) _) _)).mono ?_
  rintro e w1 ⟨rfl, hp1, ho1⟩
  obtain ⟨⟨a1, a2, a3, a4⟩, ⟨b1, b2, b3, b4⟩, hO, hz⟩ := boxes hlt ho1
  have HP1 := hide hp1
  have HO := hide hO
  clear hp1 ho1 hO HP
  go_wp2
  exact bodyPost_ret (v := .agg #[.int .i64 0, .bool false]) (by simp [results, Try.results21, go_sem, a1, a2]) rfl ⟨rfl, (Pl.setNew (Pl.setNew HP1.out (by show B ≠ w.heap.size + 1; omega) _) (by show B ≠ w.heap.size + 1; omega) _), (Only.setNew (Only.setNew HO.out (by show w.heap.size ≤ w.heap.size + 1; omega) _) (by show w.heap.size ≤ w.heap.size + 1; omega) _)⟩

end Go.Proofs.Qxb6603615a.Run
