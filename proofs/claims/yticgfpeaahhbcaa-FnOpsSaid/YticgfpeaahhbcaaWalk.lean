/- What is proved here: the law's function returns true at every int, in every world; the world gains new blocks alone. No condition. -/
import Derived.Test.YticgfpeaahhbcaaTabs
import Derived.WalkKit
import Derived.ProofKit
import Derived.Deep.QuietTactic
import Derived.BigQuiet
import Derived.Lib.Hide
namespace Go.Proofs.Yticgfpeaahhbcaa
open Go.ChangeShapes Go.WideShapes Go.ChangeAt Go.RowKit Go.Lib

theorem bits_length : bits.length = 256 := by kernel_rfl

attribute [local irreducible] rows rowsB bits blockA blockB

set_option maxHeartbeats 400000 in
theorem walk_low (a0 : Int) (h : a0 < 0) (w : World) :
    Calls Try.prog 3 #[.int .i64 a0] w fun e w' => e = .returned (.bool true) ∧ Grown w w' := by
  go_enter Try.func3, Try.ntmps3
  go_wp2_with (first | (go_at_call 4; refine (opsA _).mono ?_; rintro e w' ⟨rfl, rfl⟩) | (go_at_call 5; refine (opsB _).mono ?_; rintro e w' ⟨rfl, rfl⟩))
  go_ret
  exact ⟨rfl, ((Grown.refl _).alloc _ _).alloc _ _⟩

set_option maxHeartbeats 400000 in
theorem walk_high (a0 : Int) (h0 : 0 ≤ a0) (h : 256 ≤ a0) (w : World) :
    Calls Try.prog 3 #[.int .i64 a0] w fun e w' => e = .returned (.bool true) ∧ Grown w w' := by
  go_enter Try.func3, Try.ntmps3
  go_wp2_with (first | (go_at_call 4; refine (opsA _).mono ?_; rintro e w' ⟨rfl, rfl⟩) | (go_at_call 5; refine (opsB _).mono ?_; rintro e w' ⟨rfl, rfl⟩))
  go_ret
  exact ⟨rfl, ((Grown.refl _).alloc _ _).alloc _ _⟩

/-- The world behind the two calls. -/
def W2 (w : World) : World := (w.alloc (.cells blockA 27)).alloc (.cells blockB 30)

set_option maxHeartbeats 1000000 in
/-- Inside the tables, the two rows' cells as premises. -/
theorem walk_mid (n : Nat) (h : n < 256) (w : World) (s : ByteArray) (f z : Int) (b : Bool)
   (hA0 : (W2 w).cell? ⟨w.heap.size, n * 4, none⟩ = some (.string s)) (hA1 : (W2 w).cell? ⟨w.heap.size, n * 4 + 1, none⟩ = some (.int .i64 f))
   (hA2 : (W2 w).cell? ⟨w.heap.size, n * 4 + 2, none⟩ = some (.int .i64 z)) (hA3 : (W2 w).cell? ⟨w.heap.size, n * 4 + 3, none⟩ = some (.bool b))
   (hB0 : (W2 w).cell? ⟨w.heap.size + 1, n * 5, none⟩ = some (.string s)) (hB1 : (W2 w).cell? ⟨w.heap.size + 1, n * 5 + 1, none⟩ = some (.int .i64 f))
   (hB2 : (W2 w).cell? ⟨w.heap.size + 1, n * 5 + 2, none⟩ = some (.int .i64 z)) (hB3 : (W2 w).cell? ⟨w.heap.size + 1, n * 5 + 3, none⟩ = some (.bool b)) :
    Calls Try.prog 3 #[.int .i64 n] w fun e w' => e = .returned (.bool true) ∧ Grown w w' := by
  have h0 : (0 : Int) ≤ n := by omega
  have h1 : (n : Int) < 256 := by omega
  have d1 : decide ((n : Int) < 0) = false := by simp
  have d2 : decide ((256 : Int) ≤ n) = false := by simp; omega
  have hG : Grown w (W2 w) := ((Grown.refl _).alloc _ _).alloc _ _
  go_enter Try.func3, Try.ntmps3
  go_wp2_with (first | (go_at_call 4; refine (opsA _).mono ?_; rintro e w' ⟨rfl, rfl⟩) | (go_at_call 5; refine (opsB _).mono ?_; rintro e w' ⟨rfl, hw⟩; replace hw : w' = W2 w := hw; rw [hw]; clear hw w'))
  go_quiet (fail)
  go_wp2
  go_ret
  exact ⟨rfl, hG⟩

/-! ### The cells of the two blocks -/
theorem flat_at {α β : Type} (c : α → List β) (s : Nat) (hc : ∀ x, (c x).length = s) : ∀ (l : List α) (i : Nat) (x : α), l[i]? = some x → ∀ j, j < s → (l.flatMap c)[i * s + j]? = (c x)[j]?
  | [], i, x, h, _, _ => by simp at h
  | y :: ys, 0, x, h, j, hj => by
    obtain rfl : y = x := by simpa using h
    rw [List.flatMap_cons, Nat.zero_mul, Nat.zero_add, List.getElem?_append_left (by rw [hc]; exact hj)]
  | y :: ys, i + 1, x, h, j, hj => by
    rw [List.flatMap_cons, List.getElem?_append_right (by rw [hc, Nat.add_mul]; omega), hc, show (i + 1) * s + j - s = i * s + j by rw [Nat.add_mul]; omega]
    exact flat_at c s hc ys i x (by simpa using h) j hj

theorem cellA (w : World) (k : Nat) : (W2 w).cell? ⟨w.heap.size, k, none⟩ = blockA[k]? := by
  refine cell_of_heap (T := 27) (fr := (0, 0)) ?_ k
  unfold W2
  rw [(MapKept.heap_alloc _ _).2 _ (by rw [World.size_alloc]; omega), (MapKept.heap_alloc _ _).1]
theorem cellB (w : World) (k : Nat) : (W2 w).cell? ⟨w.heap.size + 1, k, none⟩ = blockB[k]? := by
  refine cell_of_heap (T := 30) (fr := (0, 0)) ?_ k
  unfold W2
  rw [← World.size_alloc w (.cells blockA 27), (MapKept.heap_alloc _ _).1]

theorem blockA_at (i : Nat) (x : Row) (h : rows[i]? = some x) (j : Nat) (hj : j < 4) : blockA[i * 4 + j]? = (cellsA x)[j]? := by
  unfold blockA
  rw [List.getElem?_toArray]
  exact flat_at cellsA 4 (fun _ => rfl) rows i x h j hj
theorem blockB_at (i : Nat) (x : Row × Int) (h : rowsB[i]? = some x) (j : Nat) (hj : j < 5) : blockB[i * 5 + j]? = (cellsB x)[j]? := by
  unfold blockB
  rw [List.getElem?_toArray]
  exact flat_at cellsB 5 (fun _ => rfl) rowsB i x h j hj

/-- The two tables have the same names, forms, sizes and kinds of registers in the same order: the second is the first beside its bits. -/
theorem both_at (i : Nat) (h : i < 256) : ∃ (x : Row) (z : Int), rows[i]? = some x ∧ rowsB[i]? = some (x, z) := by
  have h1 : i < rows.length := by rw [rows_length]; exact h
  have h2 : i < bits.length := by rw [bits_length]; exact h
  exact ⟨rows[i], bits[i], List.getElem?_eq_getElem h1, by unfold rowsB; rw [List.getElem?_eq_getElem (by rw [List.length_zip]; omega), List.getElem_zip]⟩

theorem walk (a0 : Int) (_w0 : (Lit.int .i64 a0).wf = true) (w : World) :
    Calls Try.prog 3 #[.int .i64 a0] w fun e w' => e = .returned (.bool true) ∧ Grown w w' := by
  by_cases hn : a0 < 0
  · exact walk_low a0 hn w
  · by_cases hh : 256 ≤ a0
    · exact walk_high a0 (by omega) hh w
    · obtain ⟨n, rfl⟩ : ∃ n : Nat, a0 = n := ⟨a0.toNat, by omega⟩
      have hlt : n < 256 := by omega
      obtain ⟨x, z, hx, hz⟩ := both_at n hlt
      exact walk_mid n hlt w x.1 x.2.1 x.2.2.1 x.2.2.2
        ((cellA w _).trans (blockA_at n x hx 0 (by decide))) ((cellA w _).trans (blockA_at n x hx 1 (by decide))) ((cellA w _).trans (blockA_at n x hx 2 (by decide))) ((cellA w _).trans (blockA_at n x hx 3 (by decide)))
        ((cellB w _).trans (blockB_at n (x, z) hz 0 (by decide))) ((cellB w _).trans (blockB_at n (x, z) hz 1 (by decide))) ((cellB w _).trans (blockB_at n (x, z) hz 2 (by decide))) ((cellB w _).trans (blockB_at n (x, z) hz 3 (by decide)))
#print axioms walk
end Go.Proofs.Yticgfpeaahhbcaa
