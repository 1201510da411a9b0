/-
  laws.FnOps answers true at every int, and leaves behind at most new blocks.
  Conditions: none.
-/
import Derived.Test.YtmoblheonifgdaaRows
import Derived.Test.YtmoblheonifgdaaOps
import Derived.WalkKit
import Derived.Deep.QuietTactic
import Derived.BigQuiet
import Derived.Lib.Hide
import Derived.RowKit3
namespace Go.Proofs.Ytmoblheonifgdaa.fnOps
open Go.RowKit

set_option maxHeartbeats 400000 in
/-- Below 0. -/
theorem walkNeg (i : Int) (hi : i < 0) (w : World) :
    Calls Try.prog 3 #[.int .i64 i] w fun e w' => e = .returned (.bool true) ∧ Grown w w' := by
  go_enter Try.func3, Try.ntmps3
  go_wp2_with (first
    | (go_at_call 4; refine (Ops.call4 _).mono ?_; rintro e w1 ⟨rfl, h1⟩; have H1 := Lib.hid h1; clear h1)
    | (go_at_call 5; refine (Ops.call5 _).mono ?_; rintro e w2 ⟨rfl, h2⟩; have H2 := Lib.hid h2; clear h2))
  go_ret
  refine ⟨rfl, ?_⟩
  rw [H2.out, H1.out]
  exact ((Grown.refl _).alloc _ _).alloc _ _

set_option maxHeartbeats 400000 in
/-- 152 or more. -/
theorem walkPast (i : Int) (hi : 152 ≤ i) (w : World) :
    Calls Try.prog 3 #[.int .i64 i] w fun e w' => e = .returned (.bool true) ∧ Grown w w' := by
  have h0 : ¬ i < 0 := by omega
  have h0' : decide (i < 0) = false := by simpa using h0
  go_enter Try.func3, Try.ntmps3
  go_wp2_with (first
    | (go_at_call 4; refine (Ops.call4 _).mono ?_; rintro e w1 ⟨rfl, h1⟩; have H1 := Lib.hid h1; clear h1)
    | (go_at_call 5; refine (Ops.call5 _).mono ?_; rintro e w2 ⟨rfl, h2⟩; have H2 := Lib.hid h2; clear h2))
  go_ret
  refine ⟨rfl, ?_⟩
  rw [H2.out, H1.out]
  exact ((Grown.refl _).alloc _ _).alloc _ _

/-- A cell of the first new block stands as it stood when the second one is laid. -/
theorem held {w1 : World} {b o : Nat} {v : Value} (O : Obj) (hb : b < w1.heap.size) (h : w1.cell? ⟨b, o, none⟩ = some v) : (w1.alloc O).cell? ⟨b, o, none⟩ = some v := by
  have e : (w1.alloc O).heap[b]? = w1.heap[b]? := by
    show (w1.heap.push O)[b]? = _
    rw [Array.getElem?_push, if_neg (by omega)]
  have : (w1.alloc O).cell? ⟨b, o, none⟩ = w1.cell? ⟨b, o, none⟩ := by unfold World.cell?; rw [e]
  rw [this]; exact h

set_option maxHeartbeats 400000 in
/-- In between. -/
theorem walkIn (k : Nat) (hk : k < 152) (w : World) :
    Calls Try.prog 3 #[.int .i64 k] w fun e w' => e = .returned (.bool true) ∧ Grown w w' := by
  have h0 : ¬ (k : Int) < 0 := by omega
  have h0' : decide ((k : Int) < 0) = false := by simp
  have h1' : ¬ (152 : Int) ≤ k := by omega
  have h1'' : decide ((152 : Int) ≤ k) = false := by simpa using h1'
  go_enter Try.func3, Try.ntmps3
  go_wp2_with (first
    | (go_at_call 4; refine (Ops.call4 _).mono ?_; rintro e w1 ⟨rfl, h1⟩; have H1 := Lib.hid h1; clear h1)
    | (go_at_call 5; refine (Ops.call5 _).mono ?_; rintro e w2 ⟨rfl, h2⟩; have H2 := Lib.hid h2; clear h2))
  obtain ⟨s, n, c0, c1, c2, c3⟩ := Ops.cells w w1 k hk
  have hw1 : w.heap.size < w1.heap.size := by rw [H1.out]; exact Nat.lt_of_lt_of_eq (Nat.lt_succ_self _) (Array.size_push _).symm
  rw [← H1.out] at c0 c1
  have d0 := held (.cells (Ops.rows5.flatMap fun c => c.toList).toArray 29) hw1 c0
  have d1 := held (.cells (Ops.rows5.flatMap fun c => c.toList).toArray 29) hw1 c1
  rw [← H2.out] at d0 d1 c2 c3
  have hg : Hid (Grown w w2) := Lib.hid (by rw [H2.out, H1.out]; exact ((Grown.refl _).alloc _ _).alloc _ _)
  simp only [Nat.add_zero] at d0 c2
  clear c0 c1 H1 H2 hw1
  go_quiet (fail)
  go_wp2
  go_ret
  exact ⟨rfl, hg.out⟩

/-- Every int. -/
theorem walk (a0 : Int) (w : World) :
    Calls Try.prog 3 #[.int .i64 a0] w fun e w' => e = .returned (.bool true) ∧ Grown w w' := by
  by_cases h0 : a0 < 0
  · exact walkNeg a0 h0 w
  · by_cases h1 : 152 ≤ a0
    · exact walkPast a0 h1 w
    · obtain ⟨k, rfl⟩ : ∃ k : Nat, a0 = k := ⟨a0.toNat, by omega⟩
      exact walkIn k (by omega) w
end Go.Proofs.Ytmoblheonifgdaa.fnOps
