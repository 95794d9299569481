/- What is proved here: each of the two functions that lay a table of 256 rows returns a slice over one new block, whose cells are the rows' fields one behind the other. No condition: every world. -/
import Derived.Test.YticgfpeaahhbcaaData
import Derived.Test.YticgfpeaahhbcaaProg
import Derived.Great.CaseRows
import Derived.WalkKit
import Derived.KernelRfl
namespace Go.Proofs.Yticgfpeaahhbcaa
open Go.Great

section
variable {P : Program} {α : Type}

/-- The operations that build one struct a row, as the loader lays them. -/
def litOps (t : TypeId) (pos : String) (g : α → Array (Nat × Operand)) : Nat → List α → List Oper
  | _, [] => []
  | d, x :: xs => { dst := some d, op := .build t (g x), type := t, pos := pos, after := #[], guard := none } :: litOps t pos g (d + 1) xs

/-- What is known of the frame behind the builds of the rows from the first temporary on: its size and its deferred calls are as they were, so are the temporaries below; each row's temporary holds the row. -/
def Laid (c : α → List Value) (d : Nat) (xs : List α) (a b : Act) : Prop :=
  (b.tmps.size = a.tmps.size ∧ b.defers = a.defers) ∧ (∀ i x, xs[i]? = some x → b.eval (.tmp (d + i)) = .agg (c x).toArray) ∧ ∀ j, j < d → b.eval (.tmp j) = a.eval (.tmp j)

theorem Laid.nil (c : α → List Value) (d : Nat) (a : Act) : Laid c d [] a a := ⟨⟨rfl, rfl⟩, ⟨fun i x h => (by simp at h), fun _ _ => rfl⟩⟩

theorem Laid.cons {c : α → List Value} {d : Nat} {x : α} {xs : List α} {a b : Act} (hd : d < a.tmps.size) (h : Laid c (d + 1) xs (a.put (some d) (.agg (c x).toArray)) b) : Laid c d (x :: xs) a b := by
  obtain ⟨⟨h1, h2⟩, h3, h4⟩ := h
  rw [Act.size_put] at h1
  rw [Act.defers_put'] at h2
  refine ⟨⟨h1, h2⟩, ?_, ?_⟩
  · rintro (_ | i) y hy
    · obtain rfl : x = y := by simpa using hy
      exact (h4 d (Nat.lt_succ_self d)).trans (Act.eval_put_same _ _ _ hd)
    · rw [show d + (i + 1) = d + 1 + i by omega]
      exact h3 i y (by simpa using hy)
  · intro j hj
    exact (h4 j (Nat.lt_succ_of_lt hj)).trans (Act.eval_put_ne _ _ _ _ (Nat.ne_of_gt hj))

/-- All of the builds. -/
theorem wpList_lits {ops : Array Oper} {rest : List Oper} {w : World} {Q : Exit → Act → World → Prop} (t : TypeId) (pos : String) (g : α → Array (Nat × Operand)) (c : α → List Value)
    (hb : ∀ (x : α) (a : Act), P.built t ((g x).map fun (i, o) => (i, a.eval o)).toList = some (c x).toArray) (xs : List α) :
    ∀ (d : Nat) (a : Act), d + xs.length ≤ a.tmps.size → (∀ b : Act, Laid c d xs a b → wpList P ops Q rest b w) → wpList P ops Q (litOps t pos g d xs ++ rest) a w := by
  induction xs with
  | nil => exact fun d a _ h => h a (Laid.nil c d a)
  | cons x xs ih =>
    intro d a hd h
    rw [List.length_cons] at hd
    rw [litOps, List.cons_append]
    exact wpList_buildTo rfl t _ rfl (some d) rfl _ (hb x a) (ih (d + 1) _ (by rw [Act.size_put]; omega) fun b hl => h b (hl.cons (by omega)))

/-- The slice over them, its length and its cells said by the caller. -/
theorem wpList_overRows {ops : Array Oper} {rest : List Oper} {o : Oper} {a : Act} {w : World} {Q : Exit → Act → World → Prop} (hg : o.guard = none) (t e : TypeId) (parts : Array (Nat × Operand)) (s : Nat) (vs : List Value)
    (len : Nat) (hlen : vs.length = len) (ho : o.op = .buildSlice t len parts) (ix : Nat → Nat) (dst : Option Tmp) (hdst : o.dst = dst)
    (hu : P.underlying t = some (.slice e)) (hsz : (P.info? e).map (·.size) = some s) (hz : ((P.info? e).bind (·.zero)).isSome = true)
    (hs : 0 < s) (hpos : 0 < len) (hsmall : len * s ≤ 2 ^ 24)
    (hparts : parts.toList = (List.range len).map fun i => (i, Operand.tmp (ix i)))
    (h1 : ∀ v ∈ vs, v.cells.size = s) (hev : ∀ i (h : i < vs.length), a.eval (.tmp (ix i)) = vs[i])
    (cells : Array Value) (hc : (vs.flatMap fun v => v.cells.toList).toArray = cells)
    (h : wpList P ops Q rest (a.put dst (.slice (some ⟨w.heap.size, 0, none⟩) len len)) (w.alloc (.cells cells e))) : wpList P ops Q (o :: rest) a w := by
  subst hlen hc
  exact wpList_buildRows hg t e parts s vs ho ix w.heap.size rfl dst hdst hu hsz hz hs hpos hsmall hparts h1 hev h
/-- An assignment, what it assigns said by the caller. -/
theorem wpList_assignTo {ops : Array Oper} {rest : List Oper} {o : Oper} {a : Act} {w : World} {Q : Exit → Act → World → Prop} (hg : o.guard = none) (x : Operand) (ho : o.op = .assign x)
    (d : Option Tmp) (hd : o.dst = d) (v : Value) (hv : a.eval x = v) (h : wpList P ops Q rest (a.put d v) w) : wpList P ops Q (o :: rest) a w := by
  subst hd hv
  refine wpList_plain hg fun _ hK => ?_
  unfold Oper.wp execOp
  rw [ho]
  exact hK _ _ h
end

/-- A row's cells and the parts of the operation that builds it: the first table. -/
def cellsA (x : Row) : List Value := [.string x.1, .int .i64 x.2.1, .int .i64 x.2.2.1, .bool x.2.2.2]
def partsA (x : Row) : Array (Nat × Operand) := #[(0, .const (.string x.1)), (1, .const (.int .i64 x.2.1)), (2, .const (.int .i64 x.2.2.1)), (3, .const (.bool x.2.2.2))]
/-- The second table: one field more. -/
def cellsB (x : Row × Int) : List Value := [.string x.1.1, .int .i64 x.1.2.1, .int .i64 x.1.2.2.1, .bool x.1.2.2.2, .int .u32 x.2]
def partsB (x : Row × Int) : Array (Nat × Operand) := #[(0, .const (.string x.1.1)), (1, .const (.int .i64 x.1.2.1)), (2, .const (.int .i64 x.1.2.2.1)), (3, .const (.bool x.1.2.2.2)), (4, .const (.int .u32 x.2))]

/-- The blocks that the two calls lay. -/
def blockA : Array Value := (rows.flatMap cellsA).toArray
def blockB : Array Value := (rowsB.flatMap cellsB).toArray

theorem rows_length : rows.length = 256 := by kernel_rfl
theorem rowsB_length : rowsB.length = 256 := by kernel_rfl

theorem flatA : ((rows.map fun x => Value.agg (cellsA x).toArray).flatMap fun v => v.cells.toList).toArray = blockA := by unfold blockA; simp [List.flatMap_map, Value.cells]
theorem flatB : ((rowsB.map fun x => Value.agg (cellsB x).toArray).flatMap fun v => v.cells.toList).toArray = blockB := by unfold blockB; simp [List.flatMap_map, Value.cells]

theorem builtA (x : Row) (a : Act) : Try.prog.built 27 ((partsA x).map fun (i, o) => (i, a.eval o)).toList = some (cellsA x).toArray := by
  have h : ∀ (s : ByteArray) (f n : Int) (b : Bool), Try.prog.built 27 [(0, .string s), (1, .int .i64 f), (2, .int .i64 n), (3, .bool b)] = some #[.string s, .int .i64 f, .int .i64 n, .bool b] := fun _ _ _ _ => by as_aux_lemma => kernel_rfl
  simpa [partsA, cellsA, Act.eval] using h x.1 x.2.1 x.2.2.1 x.2.2.2
theorem builtB (x : Row × Int) (a : Act) : Try.prog.built 30 ((partsB x).map fun (i, o) => (i, a.eval o)).toList = some (cellsB x).toArray := by
  have h : ∀ (s : ByteArray) (f n : Int) (b : Bool) (z : Int), Try.prog.built 30 [(0, .string s), (1, .int .i64 f), (2, .int .i64 n), (3, .bool b), (4, .int .u32 z)] = some #[.string s, .int .i64 f, .int .i64 n, .bool b, .int .u32 z] := fun _ _ _ _ _ => by as_aux_lemma => kernel_rfl
  simpa [partsB, cellsB, Act.eval] using h x.1.1 x.1.2.1 x.1.2.2.1 x.1.2.2.2 x.2

attribute [local irreducible] wpList Code.wp rows rowsB blockA blockB

set_option maxRecDepth 1000000 in
set_option maxHeartbeats 2000000 in
theorem opsA (w : World) : Calls Try.prog 4 #[] w fun e w' => e = .returned (.slice (some ⟨w.heap.size, 0, none⟩) 256 256) ∧ w' = w.alloc (.cells blockA 27) := by
  refine calls_of_wp Try.func4 rfl ?_
  refine wp_anyFrame 258 (by as_aux_lemma => kernel_rfl) rfl fun a hs hd => ?_
  apply wp_seq_k; intro K hK
  apply wp_region_lit
  refine wpList_runTo rfl (some 0) rfl (.slice none 0 0) w (by as_aux_lemma => kernel_rfl) ?_
  apply wpList_nil
  refine hK _ _ ?_
  refine wp_anyFrame 258 (by simp only [Act.size_put, hs]) (by simp only [Act.defers_put', hd]) fun a1 hs1 hd1 => ?_
  clear hK K
  apply wp_seq_k; intro K hK
  apply wp_region_lit
  refine wpList_splitAt 256 (litOps 27 "list.go:5" partsA 1 rows) (by as_aux_lemma => kernel_rfl) ?_
  refine wpList_lits 27 "list.go:5" partsA cellsA builtA rows 1 _ (by rw [rows_length, hs1]; decide) fun b ⟨⟨hb, hbd⟩, hev, _⟩ => ?_
  refine wpList_overRows rfl 22 27 _ 4 (rows.map fun x => Value.agg (cellsA x).toArray) 256 (by rw [List.length_map, rows_length]) rfl (fun i => 1 + i) (some 257) rfl (by as_aux_lemma => kernel_rfl) (by as_aux_lemma => kernel_rfl) (by as_aux_lemma => kernel_rfl)
    (by decide) (by decide) (by decide) (by as_aux_lemma => kernel_rfl)
    (fun v hv => by obtain ⟨x, _, rfl⟩ := List.mem_map.1 hv; rfl) (fun i hi => by rw [hev i _ (List.getElem?_eq_getElem (by simpa using hi))]; simp) blockA flatA ?_
  refine wpList_assignTo rfl (.tmp 257) rfl (some 0) rfl (.slice (some ⟨w.heap.size, 0, none⟩) 256 256) (Act.eval_put_same _ _ _ (by rw [hb, hs1]; decide)) ?_
  apply wpList_nil
  refine hK _ _ ?_
  refine wp_ret (bodyPost_ret (results_tmp rfl _ _ _) (by simp only [Act.defers_put', hbd, hd1]) ⟨congrArg Ending.returned ?_, rfl⟩)
  exact Act.eval_put_same _ 0 _ (by simp only [Act.size_put, hb, hs1]; decide)

set_option maxRecDepth 1000000 in
set_option maxHeartbeats 2000000 in
theorem opsB (w : World) : Calls Try.prog 5 #[] w fun e w' => e = .returned (.slice (some ⟨w.heap.size, 0, none⟩) 256 256) ∧ w' = w.alloc (.cells blockB 30) := by
  refine calls_of_wp Try.func5 rfl ?_
  refine wp_anyFrame 258 (by as_aux_lemma => kernel_rfl) rfl fun a hs hd => ?_
  apply wp_seq_k; intro K hK
  apply wp_region_lit
  refine wpList_runTo rfl (some 0) rfl (.slice none 0 0) w (by as_aux_lemma => kernel_rfl) ?_
  apply wpList_nil
  refine hK _ _ ?_
  refine wp_anyFrame 258 (by simp only [Act.size_put, hs]) (by simp only [Act.defers_put', hd]) fun a1 hs1 hd1 => ?_
  clear hK K
  apply wp_seq_k; intro K hK
  apply wp_region_lit
  refine wpList_splitAt 256 (litOps 30 "table.go:16" partsB 1 rowsB) (by as_aux_lemma => kernel_rfl) ?_
  refine wpList_lits 30 "table.go:16" partsB cellsB builtB rowsB 1 _ (by rw [rowsB_length, hs1]; decide) fun b ⟨⟨hb, hbd⟩, hev, _⟩ => ?_
  refine wpList_overRows rfl 24 30 _ 5 (rowsB.map fun x => Value.agg (cellsB x).toArray) 256 (by rw [List.length_map, rowsB_length]) rfl (fun i => 1 + i) (some 257) rfl (by as_aux_lemma => kernel_rfl) (by as_aux_lemma => kernel_rfl) (by as_aux_lemma => kernel_rfl)
    (by decide) (by decide) (by decide) (by as_aux_lemma => kernel_rfl)
    (fun v hv => by obtain ⟨x, _, rfl⟩ := List.mem_map.1 hv; rfl) (fun i hi => by rw [hev i _ (List.getElem?_eq_getElem (by simpa using hi))]; simp) blockB flatB ?_
  refine wpList_assignTo rfl (.tmp 257) rfl (some 0) rfl (.slice (some ⟨w.heap.size, 0, none⟩) 256 256) (Act.eval_put_same _ _ _ (by rw [hb, hs1]; decide)) ?_
  apply wpList_nil
  refine hK _ _ ?_
  refine wp_ret (bodyPost_ret (results_tmp rfl _ _ _) (by simp only [Act.defers_put', hbd, hd1]) ⟨congrArg Ending.returned ?_, rfl⟩)
  exact Act.eval_put_same _ 0 _ (by simp only [Act.size_put, hb, hs1]; decide)
end Go.Proofs.Yticgfpeaahhbcaa
