import Derived.Test.Qxb6003469aBitB
namespace Go.Proofs.Qxb6003469a.BitC
open Go.ChangeShapes Go.WideShapes Go.ChangeAt Go.RowKit
open Go.Proofs.Qxb6003469a.BitA
set_option linter.unusedVariables false

def zeroList (p : Value → Bool) : List Value → Nat → Bool
  | [], 0 => true
  | v :: l, n + 1 => p v && zeroList p l n
  | _, _ => false
def isU8 : Value → Bool
  | .int .u8 z => z == 0
  | _ => false
def isFalse : Value → Bool
  | .bool b => !b
  | _ => false
theorem zeroList_len {p : Value → Bool} : ∀ (l : List Value) (n : Nat), zeroList p l n = true → l.length = n ∧ ∀ v ∈ l, p v = true
  | [], 0, _ => ⟨rfl, by simp⟩
  | [], n + 1, h => by simp [zeroList] at h
  | v :: l, 0, h => by simp [zeroList] at h
  | v :: l, n + 1, h => by
    simp only [zeroList, Bool.and_eq_true] at h
    obtain ⟨h1, h2⟩ := zeroList_len l n h.2
    refine ⟨by simp [h1], fun x hx => ?_⟩
    rcases List.mem_cons.1 hx with rfl | hx
    · exact h.1
    · exact h2 x hx
/-- The zero value of type t is made of n cells, each as p says. -/
def zeroIs (P : Program) (t : TypeId) (n : Nat) (p : Value → Bool) : Bool :=
  match P.info? t with
  | some i => match i.zero with
    | some (.agg cs) => zeroList p cs.toList n
    | _ => false
  | _ => false
theorem zero69 : zeroIs Try.prog 69 256 isFalse = true := by kernel_rfl
theorem zero68 : zeroIs Try.prog 68 8192 isU8 = true := by kernel_rfl

/-- 'var x [..]T' of many cells, its cells not written out. -/
theorem wpList_alloc_zero {P : Program} (w : World) {ops : Array Oper} {rest : List Oper} {o : Oper} {a : Act} {Q : Exit → Act → World → Prop}
    (hg : o.guard = none) (t : TypeId) (hop : o.op = Op.alloc t) (n : Nat) (p : Value → Bool) (hz : zeroIs P t n p = true)
    (hK : ∀ C : Array Value, C.size = n → (∀ v ∈ C.toList, p v = true) → wpList P ops Q rest (a.put o.dst (.pointer (some ⟨w.heap.size, 0, none⟩))) (w.alloc (.cells C t))) :
    wpList P ops Q (o :: rest) a w := by
  refine wpList_plain hg fun K hK' => ?_
  unfold zeroIs at hz
  split at hz
  · rename_i i hi
    split at hz
    · rename_i cs hcs
      obtain ⟨h1, h2⟩ := zeroList_len _ _ hz
      have hk := hK cs (by simpa using h1) h2
      unfold Oper.wp
      simp [execOp, hop, Instr.alloc, zeroValue, typeInfo, hi, hcs, Result.andThen, newVar, newRow, newObj]
      exact hK' _ _ hk
    · cases hz
  · cases hz
end Go.Proofs.Qxb6003469a.BitC
