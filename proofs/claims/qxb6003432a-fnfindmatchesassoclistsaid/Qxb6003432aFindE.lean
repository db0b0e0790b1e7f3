import Derived.Test.Qxb6003432aFindD
import Derived.RegionTactic
import Derived.BigRegion
import Derived.Maps.OwnSet
import Derived.Maps.Views
namespace Go.Proofs.Qxb6003432a.FindE
open Go.ChangeShapes Go.WideShapes Go.ChangeAt Go.RowKit
open Go.Proofs.Qxb6003432a.FindA
open Go.Proofs.Qxb6003432a.FindB
open Go.Proofs.Qxb6003432a.FindD
set_option linter.unusedVariables false

/-- The variable 's' while its list is being filled: the first k pairs stand. -/
structure Part (w : World) (S : Nat) (F : List ByteArray) (fa : List Int) (k : Nat) : Prop where
  wire : ∀ j (h : j < F.length), j < k → w.cell? ⟨S, j * 2, none⟩ = some (.string F[j])
  place : ∀ j (h : j < fa.length), j < k → w.cell? ⟨S, j * 2 + 1, none⟩ = some (.int .i64 fa[j])
  has : ∀ o, o < 34 → ∃ v, w.cell? ⟨S, o, none⟩ = some v
  warm : ∀ o, w.frozen? ⟨S, o, none⟩ = false
  mp : w.cell? ⟨S, 33, none⟩ = some (.map none)

theorem ne_off {S a b : Nat} (h : a ≠ b) : (⟨S, a, none⟩ : Addr) ≠ ⟨S, b, none⟩ := fun e => h (congrArg Addr.off e)

theorem set_same {w : World} {a : Addr} {u v : Value} (h : w.cell? a = some u) : (w.setCell a v).cell? a = some v := World.cell?_setCell_same _ _ _ h
theorem set_other {w : World} {S a b : Nat} {v : Value} (h : a ≠ b) : (w.setCell ⟨S, a, none⟩ v).cell? ⟨S, b, none⟩ = w.cell? ⟨S, b, none⟩ := World.cell?_setCell_other _ _ _ _ (ne_off h)
theorem set_has {w : World} {S o p : Nat} {u : Value} (h : ∃ v, w.cell? ⟨S, p, none⟩ = some v) : ∃ v, (w.setCell ⟨S, o, none⟩ u).cell? ⟨S, p, none⟩ = some v := by
  obtain ⟨v, hv⟩ := h
  by_cases e : o = p
  · subst e; exact ⟨u, set_same hv⟩
  · exact ⟨v, (set_other e).trans hv⟩

theorem Part.step {wr : World} {S : Nat} {F : List ByteArray} {fa : List Int} {k : Nat} (h : Part wr S F fa k) (h16 : k < 16) {y : ByteArray} {z : Int} (hkF : k < F.length) (hka : k < fa.length) (hy : F[k] = y) (hz : fa[k] = z) :
    Part ((wr.setCell ⟨S, k * 2, none⟩ (.string y)).setCell ⟨S, k * 2 + 1, none⟩ (.int .i64 z)).drew S F fa (k + 1) := by
  obtain ⟨v0, g0⟩ := h.has (k * 2) (by omega)
  obtain ⟨v1, g1⟩ := set_has (o := k * 2) (u := .string y) (h.has (k * 2 + 1) (by omega))
  constructor
  · intro j hj hjk
    rw [World.cell?_drew]; refine (set_other (by omega)).trans ?_
    by_cases e : j = k
    · subst e; rw [hy]; exact set_same g0
    · refine (set_other (by omega)).trans ?_; exact h.wire j hj (by omega)
  · intro j hj hjk
    rw [World.cell?_drew]
    by_cases e : j = k
    · subst e; rw [hz]; exact set_same g1
    · refine (set_other (by omega)).trans ((set_other (by omega)).trans ?_); exact h.place j hj (by omega)
  · intro o ho
    exact set_has (set_has (h.has o ho))
  · intro o
    show ((wr.setCell _ _).setCell _ _).frozen? _ = _
    rw [World.frozen?_setCell, World.frozen?_setCell]; exact h.warm o
  · rw [World.cell?_drew]; refine (set_other (by omega)).trans ((set_other (by omega)).trans ?_); exact h.mp

/-- The list is full and its number is stored. -/
theorem Part.full {wr : World} {S : Nat} {F : List ByteArray} {fa : List Int} {n : Nat} (h : Part wr S F fa n) (hF : F.length = n) (hfa : fa.length = n) (h16 : n ≤ 16) :
    Laid (wr.setCell ⟨S, 32, none⟩ (.int .i64 n)) S F fa none := by
  obtain ⟨v0, g0⟩ := h.has 32 (by omega)
  constructor
  · intro j hj
    refine (set_other (by omega)).trans ?_; exact h.wire j hj (by omega)
  · intro j hj
    refine (set_other (by omega)).trans ?_; exact h.place j hj (by omega)
  · rw [hF]; exact set_same g0
  · refine (set_other (by omega)).trans ?_; exact h.mp

theorem Laid.block {w w' : World} {S : Nat} {F : List ByteArray} {fa : List Int} {r : Option Nat} (h : Laid w S F fa r) (hb : w'.heap[S]? = w.heap[S]?) : Laid w' S F fa r := by
  have hc : ∀ o, w'.cell? ⟨S, o, none⟩ = w.cell? ⟨S, o, none⟩ := fun o => World.cell?_of_block (w := w) hb
  exact ⟨fun k hk => (hc _).trans (h.wire k hk), fun k hk => (hc _).trans (h.place k hk), (hc _).trans h.cnt, (hc _).trans h.mp⟩

theorem Laid.map {w : World} {S : Nat} {F : List ByteArray} {fa : List Int} {r : Option Nat} (h : Laid w S F fa r) (h16 : F.length ≤ 16) (h16' : fa.length ≤ 16) (q : Option Nat) : Laid (w.setCell ⟨S, 33, none⟩ (.map q)) S F fa q := by
  constructor
  · intro j hj
    refine (set_other (by omega)).trans ?_; exact h.wire j hj
  · intro j hj
    refine (set_other (by omega)).trans ?_; exact h.place j hj
  · refine (set_other (by omega)).trans ?_; exact h.cnt
  · exact set_same h.mp

theorem Part.start (w : World) (F : List ByteArray) (fa : List Int) : Part (w.alloc (.cells #[.string ⟨#[]⟩, .int .i64 0, .string ⟨#[]⟩, .int .i64 0, .string ⟨#[]⟩, .int .i64 0, .string ⟨#[]⟩, .int .i64 0,
    .string ⟨#[]⟩, .int .i64 0, .string ⟨#[]⟩, .int .i64 0, .string ⟨#[]⟩, .int .i64 0, .string ⟨#[]⟩, .int .i64 0, .string ⟨#[]⟩, .int .i64 0, .string ⟨#[]⟩, .int .i64 0, .string ⟨#[]⟩, .int .i64 0, .string ⟨#[]⟩, .int .i64 0,
    .string ⟨#[]⟩, .int .i64 0, .string ⟨#[]⟩, .int .i64 0, .string ⟨#[]⟩, .int .i64 0, .string ⟨#[]⟩, .int .i64 0, .int .i64 0, .map none] 52)) w.heap.size F fa 0 := by
  constructor
  · intro j _ h; omega
  · intro j _ h; omega
  · intro o ho
    rw [World.cell?_alloc_at _ _ _ _ rfl]
    exact ⟨_, Array.getElem?_eq_getElem (by simpa using ho)⟩
  · intro o; exact World.frozen?_alloc_new _ _ _ _
  · rw [World.cell?_alloc_at _ _ _ _ rfl]; rfl

/-! ### the map -/
open Go.Maps Go.WideMaps

/-- The last of the first k texts that is x: its number. -/
def lastAt (M : List ByteArray) (ma : List Int) : Nat → ByteArray → Option Int
  | 0, _ => none
  | k + 1, x => if M[k]? = some x then some (ma.getD k 0) else lastAt M ma k x

def keyL (s : ByteArray) : Lit := .string s.data.toList
theorem keyL_inj {s t : ByteArray} (h : s ≠ t) : keyL s ≠ keyL t := by
  intro e
  simp only [keyL, Lit.string.injEq] at e
  exact h (ByteArray.ext (Array.toList_inj.1 e))

/-- The map holds just the first k pairs, later ones over earlier ones. -/
def MapIs (D : DataW Unit) (M : List ByteArray) (ma : List Int) (k : Nat) : Prop :=
  IsMap D ∧ ∀ s : ByteArray, Maps.has D (keyL s) = (lastAt M ma k s).isSome ∧ D.atKey (keyL s) (.lit (.int .i64 0)) = .lit (.int .i64 ((lastAt M ma k s).getD 0))

theorem MapIs.start (M : List ByteArray) (ma : List Int) : MapIs (.map []) M ma 0 :=
  ⟨isMap_empty, fun s => ⟨rfl, rfl⟩⟩

theorem MapIs.step {D : DataW Unit} {M : List ByteArray} {ma : List Int} {k : Nat} (h : MapIs D M ma k) {y : ByteArray} {z : Int} (hkM : k < M.length) (hka : k < ma.length) (hy : M[k] = y) (hz : ma[k] = z) :
    MapIs (D.put (keyL y) (.lit (.int .i64 z))) M ma (k + 1) := by
  refine ⟨h.1.put _ _, fun s => ?_⟩
  have e1 : M[k]? = some y := by rw [List.getElem?_eq_getElem hkM, hy]
  have e2 : ma.getD k 0 = z := by rw [List.getD_eq_getElem?_getD, List.getElem?_eq_getElem hka, hz]; rfl
  by_cases e : s = y
  · subst e
    simp only [lastAt, e1, if_true, e2]
    exact ⟨has_put_same h.1 (k := keyL s) (show WideAt.IsKeyLit (keyL s) from trivial) _, atKey_put_same h.1 (show WideAt.IsKeyLit (keyL s) from trivial) _ _⟩
  · have ne : M[k]? ≠ some s := by rw [e1]; exact fun h => e (Option.some.inj h).symm
    simp only [lastAt, if_neg ne]
    rw [has_put_other (keyL_inj e), atKey_put_other (keyL_inj e)]
    exact h.2 s

theorem law : Keyed Try.prog 9 := string_keyed Try.underlying9
theorem zeroE (w : World) : (zeroValue 3).run Try.prog w = .ok (.int .i64 0) w := by kernel_rfl
theorem run_make50 (w : World) (n : Int) : (Instr.makeMap 50 (some (.int .i64 n))).run Try.prog w = .ok (.map (some w.heap.size)) (w.alloc (.map #[] 0)) := by
  simp [Instr.makeMap, run_underlying Try.underlying50, asInt]
  rfl

/-- The look-up in a map that holds the first k pairs. -/
theorem MapIs.look {D : DataW Unit} {M : List ByteArray} {ma : List Int} {k B n : Nat} {w : World} (h : MapIs D M ma k) (hown : w.ownsMap Try.prog 9 (plainElem Try.prog 3) B n D) (x : ByteArray) (hx : x.size ≤ maxLen) :
    (Instr.lookup 50 (.map (some B)) (.string x) true).run Try.prog w = .ok (.tuple #[.int .i64 ((lastAt M ma k x).getD 0), .bool (lastAt M ma k x).isSome]) w := by
  obtain ⟨v, ps, hrun, hv⟩ := hown.look_ok law Try.underlying50 (zeroE w) (plainElem_int Try.underlying3 (by decide)) (kl := keyL x) (keyOf_string_mk Try.underlying9 hx)
  obtain ⟨a, rfl, hc, _⟩ := plainElem_int_inv Try.underlying3 hv
  rw [(h.2 x).2] at hc
  rw [(h.2 x).1] at hrun
  simp only [Prod.mk.injEq, DataW.lit.injEq, Lit.int.injEq, true_and] at hc
  rw [hrun, hc.1]
end Go.Proofs.Qxb6003432a.FindE
