/-
  THE PLAIN PART of the seat b2773a: what build and model compute, on lists. No walk.
-/
import Derived.Test.YbulkbekeRows
import Derived.WalkKit
import Derived.Maps.OwnSet
namespace Go.Proofs.Ybulkbeke
open Go.RowKit Go.Maps

/-- the string that element i is picked to be, where its kind is 0 -/
def pickS (ss : List ByteArray) (i : Nat) : ByteArray := if ss.length = 0 then ⟨#[120]⟩ else ss.getD (i % ss.length) ⟨#[]⟩
/-- the interface value of element i -/
def elemV (ks : List Int) (ss : List ByteArray) (i : Nat) : Value :=
  if ks.getD i 0 % 3 = 0 then .iface 9 (.string (pickS ss i)) else if ks.getD i 0 % 3 = 1 then .nilIface else .iface 3 (.int .i64 i)
/-- the first k elements -/
def els (ks : List Int) (ss : List ByteArray) : Nat → List Value
  | 0 => []
  | k + 1 => els ks ss k ++ [elemV ks ss k]
/-- what element i reads as: a string, or none -/
def strOf (ks : List Int) (ss : List ByteArray) (i : Nat) : Option ByteArray :=
  if ks.getD i 0 % 3 = 0 then some (pickS ss i) else if ks.getD i 0 % 3 = 1 then some ⟨#[]⟩ else none
def hasS (l : List ByteArray) (s : ByteArray) : Bool := l.any (fun t => t.data.toList == s.data.toList)
def addS (l : List ByteArray) (s : ByteArray) : List ByteArray := if hasS l s then l else l ++ [s]
/-- the distinct strings among the first k elements, in the order of their first places -/
def dist (ks : List Int) (ss : List ByteArray) : Nat → List ByteArray
  | 0 => []
  | k + 1 => match strOf ks ss k with | some s => addS (dist ks ss k) s | none => dist ks ss k
/-- is one of the first k elements of another kind? -/
def oth (ks : List Int) (ss : List ByteArray) : Nat → Bool
  | 0 => false
  | k + 1 => match strOf ks ss k with | some _ => oth ks ss k | none => true
/-- the strings of the first k elements, repeats and all, as keys -/
def keyL (s : ByteArray) : Lit := .string s.data.toList
def allK (ks : List Int) (ss : List ByteArray) : Nat → List Lit
  | 0 => []
  | k + 1 => match strOf ks ss k with | some s => allK ks ss k ++ [keyL s] | none => allK ks ss k
/-- the set that keepStrings has made after k elements -/
def setK (ks : List Int) (ss : List ByteArray) (k : Nat) : DataW Unit := setOf (.agg []) (allK ks ss k)

theorem els_length (ks : List Int) (ss : List ByteArray) : ∀ k, (els ks ss k).length = k
  | 0 => rfl
  | k + 1 => by simp [els, els_length ks ss k]
theorem els_get (ks : List Int) (ss : List ByteArray) (i : Nat) : ∀ k, i < k → (els ks ss k)[i]? = some (elemV ks ss i)
  | 0, h => absurd h (Nat.not_lt_zero _)
  | k + 1, h => by
    by_cases e : i < k
    · rw [els, List.getElem?_append_left (by rw [els_length]; exact e)]; exact els_get ks ss i k e
    · obtain rfl : i = k := by omega
      rw [els, List.getElem?_append_right (by rw [els_length]; omega)]; simp [els_length]

theorem keyL_is (s : ByteArray) : WideAt.IsKeyLit (keyL s) := trivial
theorem allK_keys (ks : List Int) (ss : List ByteArray) : ∀ k, ∀ x ∈ allK ks ss k, ∃ s, x = keyL s
  | 0, x, h => by simp [allK] at h
  | k + 1, x, h => by
    unfold allK at h
    split at h
    · rcases List.mem_append.1 h with h | h
      · exact allK_keys ks ss k x h
      · exact ⟨_, by simpa using h⟩
    · exact allK_keys ks ss k x h

theorem sameKey_keyL (s t : ByteArray) : (keyL s).sameKey (keyL t) = (s.data.toList == t.data.toList) := by
  simp [keyL, Lit.sameKey]

/-- the set holds s just if one of the distinct strings is s; it is as large as they are many -/
theorem fold_dist (ks : List Int) (ss : List ByteArray) : ∀ k, (allK ks ss k).foldl addKey [] = (dist ks ss k).map keyL
  | 0 => rfl
  | k + 1 => by
    have ih := fold_dist ks ss k
    unfold allK dist
    split
    · rename_i s _
      rw [List.foldl_append, ih]
      simp only [List.foldl_cons, List.foldl_nil]
      unfold addKey addS hasS
      have e : ((dist ks ss k).map keyL).any (fun y => y.sameKey (keyL s)) = (dist ks ss k).any (fun t => t.data.toList == s.data.toList) := by
        rw [List.any_map]; exact congrArg (List.any _) (funext fun t => sameKey_keyL t s)
      rw [e]
      split <;> simp
    · exact ih
theorem any_dist (ks : List Int) (ss : List ByteArray) (s : ByteArray) : ∀ k, (allK ks ss k).any (fun y => y.sameKey (keyL s)) = hasS (dist ks ss k) s
  | 0 => rfl
  | k + 1 => by
    have ih := any_dist ks ss s k
    unfold allK dist
    split
    · rename_i t _
      rw [List.any_append, ih]
      unfold addS
      simp only [List.any_cons, List.any_nil, Bool.or_false, sameKey_keyL]
      by_cases h : hasS (dist ks ss k) t = true
      · rw [if_pos h]
        by_cases e : (t.data.toList == s.data.toList) = true
        · rw [e]
          have e' : t.data.toList = s.data.toList := by simpa using e
          have : hasS (dist ks ss k) s = true := by rw [← h]; unfold hasS; rw [e']
          rw [this]; rfl
        · rw [Bool.not_eq_true] at e; rw [e, Bool.or_false]
      · rw [if_neg h]; unfold hasS; simp [List.any_append]
    · exact ih
theorem size_setK (ks : List Int) (ss : List ByteArray) (k : Nat) : Maps.size (setK ks ss k) = (dist ks ss k).length := by
  unfold setK
  rw [size_setOf _ _ (fun x hx => by obtain ⟨s, rfl⟩ := allK_keys ks ss k x hx; exact keyL_is s), fold_dist]
  simp
theorem has_setK (ks : List Int) (ss : List ByteArray) (k : Nat) (s : ByteArray) : Maps.has (setK ks ss k) (.string s.data.toList) = hasS (dist ks ss k) s := by
  unfold setK
  rw [has_setOf _ _ _ (fun x hx => by obtain ⟨s, rfl⟩ := allK_keys ks ss k x hx; exact keyL_is s)]
  exact any_dist ks ss s k
theorem setK_some {ks : List Int} {ss : List ByteArray} {k : Nat} {s : ByteArray} (h : strOf ks ss k = some s) : setK ks ss (k + 1) = (setK ks ss k).put (.string s.data.toList) (.agg []) := by
  have e : allK ks ss (k + 1) = allK ks ss k ++ [keyL s] := by rw [allK, h]
  unfold setK
  rw [e]
  exact setOf_snoc _ _ _
theorem setK_none {ks : List Int} {ss : List ByteArray} {k : Nat} (h : strOf ks ss k = none) : setK ks ss (k + 1) = setK ks ss k := by
  unfold setK; rw [allK, h]
theorem dist_some {ks : List Int} {ss : List ByteArray} {k : Nat} {s : ByteArray} (h : strOf ks ss k = some s) : dist ks ss (k + 1) = addS (dist ks ss k) s := by rw [dist, h]
theorem dist_none {ks : List Int} {ss : List ByteArray} {k : Nat} (h : strOf ks ss k = none) : dist ks ss (k + 1) = dist ks ss k := by rw [dist, h]
theorem oth_some {ks : List Int} {ss : List ByteArray} {k : Nat} {s : ByteArray} (h : strOf ks ss k = some s) : oth ks ss (k + 1) = oth ks ss k := by rw [oth, h]
theorem oth_none {ks : List Int} {ss : List ByteArray} {k : Nat} (h : strOf ks ss k = none) : oth ks ss (k + 1) = true := by rw [oth, h]
theorem dist_le (ks : List Int) (ss : List ByteArray) : ∀ k, (dist ks ss k).length ≤ k
  | 0 => Nat.le_refl _
  | k + 1 => by
    have := dist_le ks ss k
    unfold dist
    split
    · unfold addS; split
      · omega
      · simp; omega
    · omega
theorem hasS_self (l : List ByteArray) (s : ByteArray) (h : s ∈ l) : hasS l s = true := by unfold hasS; exact List.any_eq_true.2 ⟨s, h, by simp⟩
end Go.Proofs.Ybulkbeke
