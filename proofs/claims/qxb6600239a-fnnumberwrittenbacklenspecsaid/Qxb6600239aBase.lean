import Derived.Test.Qxb6600239aChecked
import Derived.WalkKit
import Derived.Laws.CopyOwn
import Derived.Deep.OwnRows
import Derived.WalkSpells
namespace Go.Proofs.Qxb6600239a
open Go.RowKit

theorem Try.info5 : (Try.prog.info? 5).map (fun i => (i.zero, i.size, i.bytes)) = some (some (.int .u8 0), 1, 1) := by kernel_rfl
theorem Try.size5 : (Try.prog.info? 5).map (·.size) = some 1 := by kernel_rfl

/-- the cells of a text -/
def bytesOf (t : Nat → Int) (n : Nat) : List Value := (List.range n).map fun i => .int .u8 (t i)
theorem bytesOf_length (t : Nat → Int) (n : Nat) : (bytesOf t n).length = n := by simp [bytesOf]
theorem bytesOf_get (t : Nat → Int) (n j : Nat) (h : j < n) : (bytesOf t n)[j]? = some (.int .u8 (t j)) := by simp [bytesOf, h]
theorem bytesOf_one (t : Nat → Int) (n : Nat) : ∀ v ∈ bytesOf t n, v.oneCell' = true := by
  intro v hv
  simp [bytesOf] at hv
  obtain ⟨j, _, rfl⟩ := hv
  rfl

/-- the world behind copyBytes -/
theorem copied_cells (w : World) (t : Nat → Int) (n i : Nat) (h : i < n) :
    ((w.alloc (.cells (madeCells #[.int .u8 0] n) 5)).setRow w.heap.size (bytesOf t n).toArray).cell? ⟨w.heap.size, i, none⟩ = some (.int .u8 (t i)) := by
  have hg := setRow_heap (w.alloc (.cells (madeCells #[.int .u8 0] n) 5)) w.heap.size _ (bytesOf t n).toArray 5 (0, 0) (heap_alloc_new w _)
  simp only [World.cell?, hg]
  simpa using bytesOf_get t n i h

set_option maxHeartbeats 400000 in
theorem copy_any (x : Addr) (n cap : Nat) (t : Nat → Int) (w : World) (hn : n ≤ 1048576) (hc : ∀ i, i < n → w.cell? (x.add i) = some (.int .u8 (t i))) :
    Calls Try.prog 11 #[.slice (some x) n cap] w fun e w' => e = .returned (.slice (some ⟨w.heap.size, 0, none⟩) n n) ∧ (∀ i, i < n → w'.cell? ⟨w.heap.size, i, none⟩ = some (.int .u8 (t i))) ∧ Below w.heap.size w w' ∧ w.heap.size < w'.heap.size := by
  have hnil := fun (w : World) (a : Option Addr) (n c : Nat) => Lib.run_eql_slice_nil (P := Try.prog) w 22 5 a n c 0 0 Try.underlying22
  have hmk := fun w => run_make_row' (P := Try.prog) 22 5 (.int .u8 0) 1 Try.underlying22 Try.info5 rfl .i64 .i64 n (by omega) (by omega) w
  have hcp := run_copy_row (P := Try.prog) (w.alloc (.cells (madeCells #[.int .u8 0] n) 5)) 22 22 3 5 w.heap.size 0 n n x n cap (madeCells #[.int .u8 0] n) 5 (bytesOf t n) Try.underlying22 Try.size5
    (heap_alloc_new w _) (by simp [bytesOf_length]) (by
      intro j v hj
      have hjn : j < n := by
        have := (List.getElem?_eq_some_iff.1 hj).1
        rwa [bytesOf_length] at this
      rw [bytesOf_get t n j hjn] at hj
      rw [World.cell?_alloc_lt (h := block_lt_of_cell (hc j hjn)), hc j hjn]
      exact hj) (by simp [bytesOf_length, size_madeCells]) (bytesOf_one t n)
  simp only [bytesOf_length, List.take_zero, List.nil_append, Nat.zero_add] at hcp
  rw [List.drop_eq_nil_of_le (by simp [size_madeCells]), List.append_nil] at hcp
  go_enter Try.func11, Try.ntmps11
  go_wp2
  go_ret
  refine ⟨rfl, fun i hi => copied_cells w t n i hi, ?_, ?_⟩
  · exact below_setRow ((Below.refl _ _).alloc (Nat.le_refl _) _) (Nat.le_refl _) _
  · simp [World.setRow]

theorem copy_nil (w : World) : Calls Try.prog 11 #[.slice none 0 0] w fun e w' => e = .returned (.slice none 0 0) ∧ w' = w := by
  have hnil := fun (w : World) (a : Option Addr) (n c : Nat) => Lib.run_eql_slice_nil (P := Try.prog) w 22 5 a n c 0 0 Try.underlying22
  go_enter Try.func11, Try.ntmps11
  go_wp2
  go_ret
  exact ⟨rfl, rfl⟩

/-- copyBytes at a slice that came in, nil or not -/
theorem copyB_any (a : Option Addr) (n cap : Nat) (t : Nat → Int) (w : World) (hn : n ≤ 1048576) (h0 : a = none → n = 0 ∧ cap = 0) (hc : ∀ x, a = some x → ∀ i, i < n → w.cell? (x.add i) = some (.int .u8 (t i))) :
    Calls Try.prog 11 #[.slice a n cap] w fun e w' => ∃ a' c', e = .returned (.slice a' n c') ∧ (a' = none → n = 0 ∧ c' = 0) ∧ (∀ x, a' = some x → ∀ i, i < n → w'.cell? (x.add i) = some (.int .u8 (t i))) ∧ (∀ x, a' = some x → x.block < w'.heap.size) ∧ Below w.heap.size w w' := by
  cases a with
  | some x =>
    refine (copy_any x n cap t w hn (hc x rfl)).mono fun e w' ⟨he, h1, h2, h3⟩ => ⟨_, _, he, by simp, ?_, ?_, h2⟩
    · intro x hx i hi
      obtain rfl := Option.some.inj hx
      rw [Addr.add_lit, Nat.zero_add]
      exact h1 i hi
    · intro x hx
      obtain rfl := Option.some.inj hx
      exact h3
  | none =>
    obtain ⟨rfl, rfl⟩ := h0 rfl
    exact (copy_nil w).mono fun e w' ⟨he, hw⟩ => ⟨_, _, he, by simp, by simp, by simp, by rw [hw]; exact Below.refl _ _⟩

theorem wf_u8 {n : Int} (h : (Lit.int .u8 n).wf = true) : 0 ≤ n ∧ n ≤ 255 := by
  simp [Lit.wf, IntKind.min, IntKind.max, IntKind.signed, IntKind.bits] at h
  omega

/-- what the shell tells of a slice of bytes that came in -/
theorem row_open {w : World} {a : Option Addr} {len cap : Nat} {zs : List Int}
    (h : (a = none ∧ len = 0 ∧ cap = 0 ∧ zs = []) ∨ ∃ x, a = some x ∧ len ≤ cap ∧ cap ≤ maxLen ∧ zs.length = cap ∧ (∀ i, i < zs.length → w.cell? (x.add i) = some (.int .u8 (zs.getD i 0))) ∧ ∀ n ∈ zs, (Lit.int .u8 n).wf = true) :
    (a = none → len = 0 ∧ cap = 0) ∧ (∀ x, a = some x → ∀ i, i < len → w.cell? (x.add i) = some (.int .u8 (zs.getD i 0))) ∧ (∀ i, 0 ≤ zs.getD i 0 ∧ zs.getD i 0 ≤ 255) := by
  rcases h with ⟨rfl, rfl, rfl, rfl⟩ | ⟨x, rfl, h1, h2, h3, h4, h5⟩
  · exact ⟨fun _ => ⟨rfl, rfl⟩, by simp, fun i => by simp [List.getD]⟩
  · refine ⟨by simp, ?_, ?_⟩
    · intro y hy i hi
      obtain rfl := Option.some.inj hy
      exact h4 i (by omega)
    · intro i
      by_cases hi : i < zs.length
      · have : zs.getD i 0 = zs[i] := by simp [List.getD, hi]
        rw [this]
        exact wf_u8 (h5 _ (List.getElem_mem hi))
      · have : zs.getD i 0 = 0 := by simp [List.getD, List.getElem?_eq_none (Nat.le_of_not_lt hi)]
        rw [this]
        omega

end Go.Proofs.Qxb6600239a
