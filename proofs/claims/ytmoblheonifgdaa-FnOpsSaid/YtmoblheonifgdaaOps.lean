/-
  What the two lists of operations hold: the calls of functions 4 (the package's list) and 5 (the reference's list) each hand back a slice of 152 structs over one new block, and row k of the one has the name and the form of row k of the other.
  Conditions: none. The rows are read off the loaded program by 'Rowlit.rowsOf'.
-/
import Derived.Test.YtmoblheonifgdaaChecked
import Derived.Test.YtmoblheonifgdaaLit
import Derived.KernelRfl
namespace Go.Proofs.Ytmoblheonifgdaa.Ops
open Rowlit

/-- The first region's one operation, and the second region's operations, of a body of that shape. -/
def headOf : Option Code → List Oper
  | some (.seq (.region _ l _) _) => l.toList
  | _ => []
def opsOf : Option Code → List Oper
  | some (.seq _ (.seq (.region _ l _) _)) => l.toList
  | _ => []
def opAt (l : List Oper) (i : Nat) : Oper := l.getD i ⟨none, .ready 0, 0, "", #[], none⟩
def partsOf (o : Oper) : Array (Nat × Operand) :=
  match o.op with
  | .buildSlice _ _ ps => ps
  | _ => #[]
noncomputable def ops4 : List Oper := opsOf Try.f4.body
noncomputable def ops5 : List Oper := opsOf Try.f5.body
/-- The rows: the package's, the reference's. -/
noncomputable def rows4 : List (Array Value) := (rowsOf Try.prog 1 (ops4.take 152)).getD []
noncomputable def rows5 : List (Array Value) := (rowsOf Try.prog 1 (ops5.take 152)).getD []

theorem told {P : Program} {d : Nat} {l : List Oper} (h : (rowsOf P d l).isSome = true) : rowsOf P d l = some ((rowsOf P d l).getD []) := by
  cases e : rowsOf P d l with
  | none => simp [e] at h
  | some r => rfl

theorem some4 : (rowsOf Try.prog 1 (ops4.take 152)).isSome = true := by kernel_rfl
theorem some5 : (rowsOf Try.prog 1 (ops5.take 152)).isSome = true := by kernel_rfl
theorem length4 : rows4.length = 152 := by kernel_rfl
theorem length5 : rows5.length = 152 := by kernel_rfl
theorem sizes4 : (rows4.all fun c => c.size == 2) = true := by kernel_rfl
theorem sizes5 : (rows5.all fun c => c.size == 11) = true := by kernel_rfl

/-- Two rows have one name and one form. -/
def agree (x y : Array Value) : Bool :=
  match x[0]?, x[1]?, y[0]?, y[1]? with
  | some (Value.string s), some (Value.int IntKind.i64 m), some (Value.string t), some (Value.int IntKind.i64 n) => s.data.toList == t.data.toList && m == n
  | _, _, _, _ => false
def agreeAll : List (Array Value) → List (Array Value) → Bool
  | [], [] => true
  | x :: xs, y :: ys => agree x y && agreeAll xs ys
  | _, _ => false
theorem same : agreeAll rows4 rows5 = true := by kernel_rfl

theorem agree_told {x y : Array Value} (h : agree x y = true) :
    ∃ (s : ByteArray) (n : Int), x[0]? = some (.string s) ∧ x[1]? = some (.int .i64 n) ∧ y[0]? = some (.string s) ∧ y[1]? = some (.int .i64 n) := by
  unfold agree at h
  split at h
  · rename_i s m t n h0 h1 h2 h3
    simp only [Bool.and_eq_true, beq_iff_eq] at h
    obtain ⟨hs, rfl⟩ := h
    have e : s = t := by
      cases s; cases t
      simp only [ByteArray.mk.injEq]
      exact Array.toList_inj.1 hs
    subst e
    exact ⟨s, m, h0, h1, h2, h3⟩
  · simp at h

theorem agreeAll_told : ∀ (xs ys : List (Array Value)), agreeAll xs ys = true → ∀ k, k < xs.length → ∃ x y, xs[k]? = some x ∧ ys[k]? = some y ∧ agree x y = true
  | [], _, _, k, hk => absurd hk (by simp)
  | _ :: _, [], h, _, _ => by simp [agreeAll] at h
  | x :: xs, y :: ys, h, k, hk => by
    simp only [agreeAll, Bool.and_eq_true] at h
    cases k with
    | zero => exact ⟨x, y, rfl, rfl, h.1⟩
    | succ k => exact agreeAll_told xs ys h.2 k (by simpa using hk)

theorem size4 : ∀ c ∈ rows4, c.size = 2 := fun c hc => by simpa using List.all_eq_true.1 sizes4 c hc
theorem size5 : ∀ c ∈ rows5, c.size = 11 := fun c hc => by simpa using List.all_eq_true.1 sizes5 c hc

/-- What the new blocks hold: row k's name and form, the same in both. -/
theorem cells (w v : World) (k : Nat) (hk : k < 152) :
    ∃ (s : ByteArray) (n : Int),
      (w.alloc (.cells (rows4.flatMap fun c => c.toList).toArray 27)).cell? ⟨w.heap.size, k * 2 + 0, none⟩ = some (.string s) ∧
      (w.alloc (.cells (rows4.flatMap fun c => c.toList).toArray 27)).cell? ⟨w.heap.size, k * 2 + 1, none⟩ = some (.int .i64 n) ∧
      (v.alloc (.cells (rows5.flatMap fun c => c.toList).toArray 29)).cell? ⟨v.heap.size, k * 11 + 0, none⟩ = some (.string s) ∧
      (v.alloc (.cells (rows5.flatMap fun c => c.toList).toArray 29)).cell? ⟨v.heap.size, k * 11 + 1, none⟩ = some (.int .i64 n) := by
  obtain ⟨x, y, hx, hy, ha⟩ := agreeAll_told rows4 rows5 same k (by rw [length4]; exact hk)
  obtain ⟨s, n, h0, h1, h2, h3⟩ := agree_told ha
  refine ⟨s, n, ?_, ?_, ?_, ?_⟩
  · rw [cell_of (by decide) rows4 size4 k 0 (by decide), hx]; exact h0
  · rw [cell_of (by decide) rows4 size4 k 1 (by decide), hx]; exact h1
  · rw [cell_of (by decide) rows5 size5 k 0 (by decide), hy]; exact h2
  · rw [cell_of (by decide) rows5 size5 k 1 (by decide), hy]; exact h3

theorem opsAt (l : List Oper) (n : Nat) (h : l.length = n + 2) : l = l.take n ++ [opAt l n, opAt l (n + 1)] := by
  have hd : l.drop n = [opAt l n, opAt l (n + 1)] := by
    rw [List.drop_eq_getElem_cons (by omega), List.drop_eq_getElem_cons (by omega), List.drop_eq_nil_of_le (by omega)]
    simp only [opAt, List.getD_eq_getElem?_getD]
    rw [List.getElem?_eq_getElem (by omega), List.getElem?_eq_getElem (by omega)]
    rfl
  conv => lhs; rw [← List.take_append_drop n l, hd]

/-- Function 4, the package's list. -/
theorem call4 (w : World) : Calls Try.prog 4 #[] w fun e w' => e = .returned (.slice (some ⟨w.heap.size, 0, none⟩) 152 152) ∧ w' = w.alloc (.cells (rows4.flatMap fun c => c.toList).toArray 27) := by
  have hb : Try.f4.body = some (.seq (.region 0 [opAt (headOf Try.f4.body) 0].toArray false) (.seq (.region 1 (ops4.take 152 ++ [opAt ops4 152, opAt ops4 153]).toArray false) .ret)) := by
    rw [← opsAt ops4 152 (by kernel_rfl)]
    kernel_rfl
  have h := Rowlit.calls (P := Try.prog) (x := .const (.slice none 0 0)) 22 27 2 rows4 (partsOf (opAt ops4 152)) w Try.func4 hb (by kernel_rfl) (by rw [length4]; kernel_rfl) (by kernel_rfl) (by kernel_rfl)
    (told some4) (by kernel_rfl) (by rw [length4]; kernel_rfl) (by rw [length4]; kernel_rfl) (by rw [length4]; kernel_rfl) (by kernel_rfl) (by kernel_rfl) (by rw [length4]; kernel_rfl)
    (by kernel_rfl) (by kernel_rfl) (by kernel_rfl) (by decide) (by rw [length4]; decide) (by rw [length4]; decide) size4
  rw [length4] at h
  exact h

/-- Function 5, the reference's list. -/
theorem call5 (w : World) : Calls Try.prog 5 #[] w fun e w' => e = .returned (.slice (some ⟨w.heap.size, 0, none⟩) 152 152) ∧ w' = w.alloc (.cells (rows5.flatMap fun c => c.toList).toArray 29) := by
  have hb : Try.f5.body = some (.seq (.region 0 [opAt (headOf Try.f5.body) 0].toArray false) (.seq (.region 1 (ops5.take 152 ++ [opAt ops5 152, opAt ops5 153]).toArray false) .ret)) := by
    rw [← opsAt ops5 152 (by kernel_rfl)]
    kernel_rfl
  have h := Rowlit.calls (P := Try.prog) (x := .const (.slice none 0 0)) 24 29 11 rows5 (partsOf (opAt ops5 152)) w Try.func5 hb (by kernel_rfl) (by rw [length5]; kernel_rfl) (by kernel_rfl) (by kernel_rfl)
    (told some5) (by kernel_rfl) (by rw [length5]; kernel_rfl) (by rw [length5]; kernel_rfl) (by rw [length5]; kernel_rfl) (by kernel_rfl) (by kernel_rfl) (by rw [length5]; kernel_rfl)
    (by kernel_rfl) (by kernel_rfl) (by kernel_rfl) (by decide) (by rw [length5]; decide) (by rw [length5]; decide) size5
  rw [length5] at h
  exact h
end Go.Proofs.Ytmoblheonifgdaa.Ops
