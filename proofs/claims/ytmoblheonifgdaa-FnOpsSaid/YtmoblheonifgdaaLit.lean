/-
  A function whose body is one slice literal of constant rows hands back a slice over one new block that holds the rows' cells side by side; nothing else changes.
  Conditions: the body has that shape (a first assignment, the builds, one slice over them, the result's assignment), each row has the same number of cells, at least one, and the whole has at most 2^24 cells. The rows are read off the operations themselves ('rowsOf'): no table is typed here.
-/
import Derived.Great.CaseRows
namespace Go.Proofs.Ytmoblheonifgdaa.Rowlit
open Go.Great

/-- The constant that an operand is. -/
def constOf : Operand → Option Value
  | .const v => some v
  | _ => none

def constsOf : List (Nat × Operand) → Option (List (Nat × Value))
  | [] => some []
  | x :: l => match constOf x.2, constsOf l with
    | some v, some r => some ((x.1, v) :: r)
    | _, _ => none

theorem constsOf_eval (a : Act) : ∀ (l : List (Nat × Operand)) (r : List (Nat × Value)), constsOf l = some r → l.map (fun (x : Nat × Operand) => (x.1, a.eval x.2)) = r
  | [], r, h => by simp only [constsOf, Option.some.injEq] at h; subst h; rfl
  | x :: l, r, h => by
    unfold constsOf at h
    split at h
    · rename_i v r' hv hr
      simp only [Option.some.injEq] at h
      subst h
      have e : a.eval x.2 = v := by
        cases hx : x.2 <;> simp [constOf, hx] at hv
        subst hv; rfl
      rw [List.map_cons, e, constsOf_eval a l r' hr]
    · simp at h

/-- The cells that one operation builds out of constants into slot d. -/
def rowOf (P : Program) (d : Nat) (o : Oper) : Option (Array Value) :=
  match o.guard, o.dst, o.op with
  | none, some e, .build t parts =>
    if e = d then
      match constsOf parts.toList with
      | some r => P.built t r
      | none => none
    else none
  | _, _, _ => none

/-- The rows of a list of such operations, into the slots from d on. -/
def rowsOf (P : Program) : Nat → List Oper → Option (List (Array Value))
  | _, [] => some []
  | d, o :: l => match rowOf P d o, rowsOf P (d + 1) l with
    | some c, some r => some (c :: r)
    | _, _ => none

theorem rowOf_told {P : Program} {d : Nat} {o : Oper} {c : Array Value} (h : rowOf P d o = some c) :
    o.guard = none ∧ o.dst = some d ∧ ∃ t parts r, o.op = .build t parts ∧ constsOf parts.toList = some r ∧ P.built t r = some c := by
  unfold rowOf at h
  split at h
  · rename_i e t parts hg hd ho
    split at h
    · rename_i he
      subst he
      split at h
      · rename_i r hr
        exact ⟨hg, hd, t, parts, r, ho, hr, h⟩
      · simp at h
    · simp at h
  · simp at h

theorem rowsOf_length {P : Program} : ∀ (l : List Oper) (d : Nat) (rs : List (Array Value)), rowsOf P d l = some rs → rs.length = l.length
  | [], d, rs, h => by simp only [rowsOf, Option.some.injEq] at h; subst h; rfl
  | o :: l, d, rs, h => by
    unfold rowsOf at h
    split at h
    · rename_i c r hc hr
      simp only [Option.some.injEq] at h
      subst h
      simp [rowsOf_length l (d + 1) r hr]
    · simp at h

section
variable {P : Program}

theorem wpList_rows {ops : Array Oper} {rest : List Oper} {w : World} {Q : Exit → Act → World → Prop} :
    ∀ (l : List Oper) (rs : List (Array Value)) (d : Nat) (a : Act), rowsOf P d l = some rs → d + l.length ≤ a.tmps.size →
      (∀ a' : Act, a'.tmps.size = a.tmps.size → a'.defers = a.defers → (∀ i (h : i < rs.length), a'.eval (.tmp (d + i)) = .agg rs[i]) →
        (∀ j, j < d → a'.eval (.tmp j) = a.eval (.tmp j)) → wpList P ops Q rest a' w) →
      wpList P ops Q (l ++ rest) a w
  | [], rs, d, a, hrs, _, h => by
    simp only [rowsOf, Option.some.injEq] at hrs
    subst hrs
    exact h a rfl rfl (fun i hi => absurd hi (by simp)) (fun _ _ => rfl)
  | o :: l, rs, d, a, hrs, hd, h => by
    unfold rowsOf at hrs
    split at hrs
    · rename_i c r hc hr
      simp only [Option.some.injEq] at hrs
      subst hrs
      obtain ⟨hg, hdst, t, parts, cs, ho, hcs, hb⟩ := rowOf_told hc
      have hlt : d < a.tmps.size := by simp at hd; omega
      show wpList P ops Q (o :: (l ++ rest)) a w
      refine wpList_buildTo hg t parts ho (some d) hdst c ?_ ?_
      · rw [← hb, ← constsOf_eval a parts.toList cs hcs]
        simp
      · refine wpList_rows l r (d + 1) _ hr (by rw [Act.size_put]; simp at hd; omega) fun a' hs hdf hev hlow => ?_
        refine h a' (hs.trans (Act.size_put _ _ _)) (hdf.trans (Act.defers_put' _ _ _)) (fun i hi => ?_) (fun j hj => ?_)
        · cases i with
          | zero => rw [Nat.add_zero, hlow d (by omega), Act.eval_put_same _ _ _ hlt]; rfl
          | succ i =>
            have := hev i (by simpa using hi)
            rw [show d + (i + 1) = d + 1 + i by omega, this]
            rfl
        · rw [hlow j (by omega), Act.eval_put_ne _ _ _ _ (by omega)]
    · simp at hrs

theorem wpList_assignTo {ops : Array Oper} {rest : List Oper} {o : Oper} {a : Act} {w : World} {Q : Exit → Act → World → Prop} (hg : o.guard = none) (x : Operand) (ho : o.op = .assign x)
    (d : Option Tmp) (hd : o.dst = d) (h : wpList P ops Q rest (a.put d (a.eval x)) w) : wpList P ops Q (o :: rest) a w := by
  refine wpList_runTo hg d hd (a.eval x) w ?_ h
  unfold execOp
  simp [ho]

/-- The contract of such a function. -/
theorem calls {f : FuncId} {fn : Func} {g b z : Oper} {l : List Oper} {x : Operand} {i0 i1 : Nat} (t e : TypeId) (s : Nat) (rs : List (Array Value)) (parts : Array (Nat × Operand)) (w : World)
    (hf : P.funcs[f]? = some fn)
    (hbody : fn.body = some (.seq (.region i0 [g].toArray false) (.seq (.region i1 (l ++ [b, z]).toArray false) .ret)))
    (hres : fn.results = #[.tmp 0]) (hn : fn.ntmps = rs.length + 2)
    (hg : g.guard = none) (hgo : g.op = .assign x)
    (hrows : rowsOf P 1 l = some rs)
    (hb : b.guard = none) (hbd : b.dst = some (rs.length + 1)) (hbo : b.op = .buildSlice t rs.length parts)
    (hparts : parts.toList = (List.range rs.length).map fun i => (i, Operand.tmp (1 + i)))
    (hz : z.guard = none) (hzd : z.dst = some 0) (hzo : z.op = .assign (.tmp (rs.length + 1)))
    (hu : P.underlying t = some (.slice e)) (hsz : (P.info? e).map (·.size) = some s) (hzero : ((P.info? e).bind (·.zero)).isSome = true)
    (hs : 0 < s) (hpos : 0 < rs.length) (hsmall : rs.length * s ≤ 2 ^ 24)
    (h1 : ∀ c ∈ rs, c.size = s) :
    Calls P f #[] w fun e' w' => e' = .returned (.slice (some ⟨w.heap.size, 0, none⟩) rs.length rs.length) ∧ w' = w.alloc (.cells (rs.flatMap fun c => c.toList).toArray e) := by
  have hll := rowsOf_length l 1 rs hrows
  refine calls_of_wp hf hbody ?_
  refine wp_anyFrame (rs.length + 2) (by simp [hn]) rfl fun a0 hs0 hd0 => ?_
  apply wp_seq_k; intro K0 hK0
  apply wp_region_lit
  refine wpList_assignTo hg x hgo _ rfl ?_
  apply wpList_nil
  refine hK0 _ _ ?_
  refine wp_anyFrame (rs.length + 2) (by simp only [Act.size_put, hs0]) (by simp only [Act.defers_put', hd0]) fun a1 hs1 hd1 => ?_
  clear hK0 K0
  apply wp_seq_k; intro K1 hK1
  apply wp_region_lit
  refine wpList_rows l rs 1 a1 hrows (by omega) fun a2 hs2 hd2 hev _ => ?_
  have hl : (rs.map Value.agg).length = rs.length := by simp
  refine wpList_buildRows hb t e parts s (rs.map Value.agg) (by rw [hl]; exact hbo) (fun i => 1 + i) w.heap.size rfl (some (rs.length + 1)) hbd hu hsz hzero hs (by rw [hl]; exact hpos) (by rw [hl]; exact hsmall)
    (by rw [hl]; exact hparts) (fun v hv => by obtain ⟨c, hc, rfl⟩ := List.mem_map.1 hv; exact h1 c hc) (fun i hi => by rw [hev i (by simpa using hi)]; simp) ?_
  rw [hl]
  have hflat : ((rs.map Value.agg).flatMap fun v => v.cells.toList) = rs.flatMap fun c => c.toList := by simp [List.flatMap_map, Value.cells]
  rw [hflat]
  refine wpList_assignTo hz _ hzo _ hzd ?_
  rw [Act.eval_put_same _ _ _ (by omega)]
  apply wpList_nil
  refine hK1 _ _ ?_
  apply wp_ret
  refine bodyPost_ret (v := .slice (some ⟨w.heap.size, 0, none⟩) rs.length rs.length) ?_ (by simp only [Act.defers_put', hd2, hd1]) ⟨rfl, rfl⟩
  rw [results_tmp hres]
  congr 1
  exact Act.eval_put_same _ 0 _ (by rw [Act.size_put]; omega)

/-- What stands in the new block: cell c of row k. -/
theorem cell_of {w : World} {e : TypeId} {s : Nat} (hs : 0 < s) (rs : List (Array Value)) (h1 : ∀ c ∈ rs, c.size = s) (k j : Nat) (hj : j < s) :
    (w.alloc (.cells (rs.flatMap fun c => c.toList).toArray e)).cell? ⟨w.heap.size, k * s + j, none⟩ = (rs[k]?).bind (fun c => c[j]?) := by
  have hflat : ((rs.map Value.agg).flatMap fun v => v.cells.toList) = rs.flatMap fun c => c.toList := by simp [List.flatMap_map, Value.cells]
  have h2 := flat_get hs (rs.map Value.agg) (fun v hv => by obtain ⟨c, hc, rfl⟩ := List.mem_map.1 hv; exact h1 c hc) (k * s + j)
  rw [hflat] at h2
  have hd : (k * s + j) / s = k := by rw [Nat.mul_comm, Nat.mul_add_div hs, Nat.div_eq_of_lt hj, Nat.add_zero]
  have hm : (k * s + j) % s = j := by rw [Nat.mul_comm, Nat.mul_add_mod, Nat.mod_eq_of_lt hj]
  rw [hd, hm] at h2
  have h3 : (w.alloc (.cells (rs.flatMap fun c => c.toList).toArray e)).cell? ⟨w.heap.size, k * s + j, none⟩ = (rs.flatMap fun c => c.toList)[k * s + j]? := by
    unfold World.cell?
    rw [(MapKept.heap_alloc w _).1]
    simp
  rw [h3, h2]
  cases hk : rs[k]? <;> simp [hk, Value.cells]
end
end Go.Proofs.Ytmoblheonifgdaa.Rowlit
