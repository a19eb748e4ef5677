/- renderedNumberLen: words and small contracts for its walk -/
import Derived.Test.Qxb6600239aNumBd
import Derived.Test.Qxb6600239aRen
import Derived.Maps.AppendAt
namespace Go.Proofs.Qxb6600239a
open Go.RowKit
set_option linter.unusedVariables false

/-- the row of digits, and nothing old turned -/
def DW (w wr : World) (cap : Nat) (D : List Int) : Prop :=
  wr.ownsRow w.heap.size 5 1 (.slice (some ⟨w.heap.size, 0, none⟩) D.length cap) D.length (D.map (Value.int .u8)) ∧ Below w.heap.size w wr
theorem DW_start {w w1 : World} {cap : Nat} (h : w1.ownsRow w.heap.size 5 1 (.slice (some ⟨w.heap.size, 0, none⟩) 0 cap) 0 []) (g : w.grownBy w1 none) : DW w w1 cap [] :=
  ⟨h, (Below.refl _ _).grown g (Nat.le_refl _) (by simp)⟩
theorem DW_step {w wr w6 : World} {cap : Nat} {D : List Int} {c : Int} {o : Obj} (h : DW w wr cap D) (own6 : w6.ownsRow w.heap.size 5 1 (.slice (some ⟨w.heap.size, 0, none⟩) (D.length + 1) cap) (D.length + 1) (D.map (Value.int .u8) ++ [.int .u8 c])) (g6 : (wr.alloc o).grownBy w6 (some w.heap.size)) : DW w w6 cap (D ++ [c]) := by
  refine ⟨?_, (h.2.alloc h.2.size o).grown g6 (by have := h.2.size; simp; omega) (by simp)⟩
  have e : (D ++ [c]).length = D.length + 1 := by simp
  rw [e, List.map_append]
  exact own6
theorem DW_cell {w wr : World} {cap : Nat} {D : List Int} (h : DW w wr cap D) {a : Addr} {v : Value} (hc : w.cell? a = some v) : wr.cell? a = some v := by
  rw [h.2.cell (block_lt_of_cell hc)]
  exact hc
theorem DW_dig {w wr : World} {cap : Nat} {D : List Int} (h : DW w wr cap D) (j : Nat) (hj : j < D.length) : wr.cell? ⟨w.heap.size, j, none⟩ = some (.int .u8 (dat D j)) := by
  rw [h.1.cellAt j (by omega)]
  simp [dat, List.getD, hj]

theorem DW_own {w wr : World} {cap j : Nat} {D : List Int} (h : Hid (DW w wr cap D)) (hl : D.length = j) : wr.ownsRow w.heap.size 5 1 (.slice (some ⟨w.heap.size, 0, none⟩) j cap) j (D.map (Value.int .u8)) := by
  subst hl
  exact h.out.1
theorem DW_next {w wr w6 : World} {cap j : Nat} {D : List Int} {c : Int} {o : Obj} (h : Hid (DW w wr cap D)) (hl : D.length = j) (own6 : w6.ownsRow w.heap.size 5 1 (.slice (some ⟨w.heap.size, 0, none⟩) (j + 1) cap) (j + 1) (D.map (Value.int .u8) ++ [.int .u8 c])) (g6 : (wr.alloc o).grownBy w6 (some w.heap.size)) : Hid (DW w w6 cap (D ++ [c])) := by
  subst hl
  exact DW_step h.out own6 g6
/-- the digit at k, appended -/
theorem DW_sg {w wr w6 : World} {cap j k a l : Nat} {P : List Int} {t : Nat → Int} {c : Int} {o : Obj} (h : Hid (DW w wr cap (P ++ sg t a j))) (hl : (P ++ sg t a j).length = l) (hk : Hid (k = a + j)) (hc : Hid (c = t k))
    (own6 : w6.ownsRow w.heap.size 5 1 (.slice (some ⟨w.heap.size, 0, none⟩) (l + 1) cap) (l + 1) ((P ++ sg t a j).map (Value.int .u8) ++ [.int .u8 c])) (g6 : (wr.alloc o).grownBy w6 (some w.heap.size)) : Hid (DW w w6 cap (P ++ sg t a (j + 1))) := by
  have := DW_next h hl own6 g6
  rw [sg_succ, ← List.append_assoc, ← hk.out, ← hc.out]
  exact this

/-- the row that is written, of so many bytes; the digits' world untouched -/
def OW (W wr : World) (l : Nat) : Prop :=
  ∃ xs, wr.ownsRow W.heap.size 5 1 (.slice (some ⟨W.heap.size, 0, none⟩) l 147459) l xs ∧ Below W.heap.size W wr
theorem OW_start {W w1 : World} (h : w1.ownsRow W.heap.size 5 1 (.slice (some ⟨W.heap.size, 0, none⟩) 0 147459) 0 []) (g : W.grownBy w1 none) : OW W w1 0 :=
  ⟨[], h, (Below.refl _ _).grown g (Nat.le_refl _) (by simp)⟩
theorem OW_step {W wr w6 : World} {l : Nat} {xs : List Value} {c : Value} {o : Obj} (h : Below W.heap.size W wr) (own6 : w6.ownsRow W.heap.size 5 1 (.slice (some ⟨W.heap.size, 0, none⟩) (l + 1) 147459) (l + 1) (xs ++ [c])) (g6 : (wr.alloc o).grownBy w6 (some W.heap.size)) : OW W w6 (l + 1) :=
  ⟨_, own6, (h.alloc h.size o).grown g6 (by have := h.size; simp; omega) (by simp)⟩
theorem OW_below {W wr : World} {l : Nat} (h : OW W wr l) : Below W.heap.size W wr := by
  obtain ⟨_, _, hb⟩ := h
  exact hb

theorem evM_on {t : Nat → Int} {a j k : Nat} {c e e' : Int} (hk : Hid (k = a + j)) (hc : Hid (c = t k)) (he : Hid (e = evM (sg t a j))) (h : e' = if e < 1073741824 then e * 10 + (c - 48) else e) : Hid (e' = evM (sg t a (j + 1))) := by
  show _ = _
  rw [sg_succ, evM_snoc, ← he.out, ← hk.out, ← hc.out, h]
  rfl
theorem evM_bd {l : List Int} (h : ∀ z ∈ l, 48 ≤ z ∧ z ≤ 57) : 0 ≤ evM l ∧ evM l ≤ 10737418249 :=
  (evM_ev l h 0 0 (by omega) (by omega) (fun _ => rfl) (fun h => by omega)).1
theorem l_succ {l m j : Nat} (h : Hid (l = m + j)) : Hid (l + 1 = m + (j + 1)) := by
  show _ = _
  rw [h.out]; omega

/-- a digit's cell, once the row that is written lies behind it -/
theorem DO_cell {w WD wr : World} {cap dl : Nat} {D : List Int} (h : Hid (DW w WD cap D)) (hl : Hid (D.length = dl)) (hb : Below WD.heap.size WD wr) : ∀ j, j < dl → wr.cell? ⟨w.heap.size, j, none⟩ = some (.int .u8 (dat D j)) := by
  intro j hj
  have hc := DW_dig h.out j (by rw [hl.out]; exact hj)
  rw [hb.cell (block_lt_of_cell hc)]
  exact hc
/-- what the loop over the whole part keeps -/
def In5 (F PT : Int) (dl l0 k l : Nat) (st : Bool) : Prop :=
  (st = false ∧ l = l0 ∧ k ≤ dl ∧ (F < 0 ∨ (k : Int) ≤ F)) ∨ (st = true ∧ 0 ≤ F ∧ F < k ∧ (k : Int) ≤ PT ∧ (l : Int) = l0 + k - F ∧ l ≤ 147458)
/-- what it leaves -/
def Out5 (F PT : Int) (l0 l : Nat) (st : Bool) : Prop :=
  (st = false ∧ l = l0 ∧ (F < 0 ∨ PT ≤ F)) ∨ (st = true ∧ 0 ≤ F ∧ F < PT ∧ l ≤ 147458 ∧ ((l : Int) = l0 + PT - F ∨ (l = 147458 ∧ (l : Int) ≤ l0 + PT - F)))
theorem Out5_of {F PT : Int} {dl l0 k l : Nat} {st : Bool} (h : In5 F PT dl l0 k l st) (h0 : l0 ≤ 1) (hx : ¬ ((k : Int) < PT ∧ l ≤ 147457)) : Out5 F PT l0 l st := by
  rcases h with ⟨h1, h2, h3, h4⟩ | ⟨h1, h2, h3, h4, h5, h6⟩
  · left
    refine ⟨h1, h2, ?_⟩
    omega
  · right
    refine ⟨h1, h2, by omega, h6, ?_⟩
    omega
/-- the digits written once the first is there -/
theorem l1_of {F X : Int} {m1 l0 l l1 : Nat} {st N NZ : Bool} (h : Out5 F ((m1 : Int) + X) l0 l st) (h1 : l1 = if st = true then l else l + 1) (h0 : l0 = if (N && NZ) = true then 1 else 0) (hNZ : NZ = true ↔ 0 ≤ F) :
    ((l1 : Int) = (if 0 ≤ F then (if 0 < (m1 : Int) - 1 - F + X then (m1 : Int) - 1 - F + X + 1 else 1) + (if N = true then 1 else 0) else 1) ∧ l1 ≤ 147458) ∨ (l1 = 147458 ∧ (l1 : Int) ≤ (if 0 ≤ F then (if 0 < (m1 : Int) - 1 - F + X then (m1 : Int) - 1 - F + X + 1 else 1) + (if N = true then 1 else 0) else 1)) := by
  have e0 : (l0 : Int) = if 0 ≤ F then (if N = true then 1 else 0) else 0 := by
    rw [h0]
    by_cases hF : 0 ≤ F
    · rw [if_pos hF, hNZ.2 hF]
      cases N <;> rfl
    · have : NZ = false := by
        cases NZ with
        | false => rfl
        | true => exact absurd (hNZ.1 rfl) hF
      rw [if_neg hF, this]
      cases N <;> rfl
  rcases h with ⟨rfl, h2, h3⟩ | ⟨rfl, h2, h3, h4, h5⟩
  · left
    have e1 : l1 = l + 1 := by rw [h1]; rfl
    by_cases hF : 0 ≤ F
    · rw [if_pos hF] at e0 ⊢
      rw [if_neg (by omega)]
      constructor
      · omega
      · have : (l0 : Int) ≤ 1 := by rw [e0]; split <;> omega
        omega
    · rw [if_neg hF] at e0 ⊢
      omega
  · have e1 : l1 = l := by rw [h1]; rfl
    rw [if_pos h2] at e0 ⊢
    have e2 : (if 0 < (m1 : Int) - 1 - F + X then (m1 : Int) - 1 - F + X + 1 else 1) = (m1 : Int) + X - F := by
      split <;> omega
    rw [e2, ← e0]
    omega
/-- the end -/
theorem ren_final {N : Bool} {m1 m2 l1 l3 : Nat} {F X SC R1 R2 s : Int} (hSC : SC = max ((m2 : Int) - X) 0)
    (h1 : ((l1 : Int) = (if 0 ≤ F then (if 0 < (m1 : Int) - 1 - F + X then (m1 : Int) - 1 - F + X + 1 else 1) + (if N = true then 1 else 0) else 1) ∧ l1 ≤ 147458) ∨ (l1 = 147458 ∧ (l1 : Int) ≤ (if 0 ≤ F then (if 0 < (m1 : Int) - 1 - F + X then (m1 : Int) - 1 - F + X + 1 else 1) + (if N = true then 1 else 0) else 1)))
    (h3 : (SC ≤ 0 ∧ l3 = l1) ∨ (0 < SC ∧ ((l3 : Int) = l1 + 1 + SC ∨ (147457 < l3 ∧ (l3 : Int) ≤ l1 + 1 + SC))))
    (hR : R1 = if 147457 < numLen N m1 m2 F X then R2 - s else numLen N m1 m2 F X) : R1 = if 147457 < (l3 : Int) then R2 - s else (l3 : Int) := by
  have e : numLen N m1 m2 F X = (if 0 ≤ F then (if 0 < (m1 : Int) - 1 - F + X then (m1 : Int) - 1 - F + X + 1 else 1) + (if N = true then 1 else 0) else 1) + (if 0 < SC then 1 + SC else 0) := by
    unfold numLen
    rw [hSC]
  generalize (if 0 ≤ F then (if 0 < (m1 : Int) - 1 - F + X then (m1 : Int) - 1 - F + X + 1 else 1) + (if N = true then 1 else 0) else 1) = Z at *
  rw [hR, e]
  rcases h3 with ⟨h4, h5⟩ | ⟨h4, h5⟩
  · rw [if_neg (show ¬ 0 < SC by omega)]
    by_cases hb : 147457 < (l3 : Int)
    · rw [if_pos hb, if_pos (by omega)]
    · rw [if_neg hb, if_neg (by omega)]
      omega
  · rw [if_pos h4]
    by_cases hb : 147457 < (l3 : Int)
    · rw [if_pos hb, if_pos (by omega)]
    · rw [if_neg hb, if_neg (by omega)]
      omega

/-! ### digitAt -/
set_option maxHeartbeats 400000 in
theorem digitAt_in (G dl cap k : Nat) (c : Int) (w : World) (hdl : dl ≤ 1048576) (hk : k < dl) (hc : w.cell? ⟨G, k, none⟩ = some (.int .u8 c)) :
    Calls Try.prog 30 #[.slice (some ⟨G, 0, none⟩) dl cap, .int .i64 (k : Int)] w fun e w' => e = .returned (.int .u8 c) ∧ w' = w := by
  go_enter Try.func30, Try.ntmps30
  go_wp2
  go_ret
  exact ⟨rfl, rfl⟩
set_option maxHeartbeats 400000 in
theorem digitAt_out (G dl cap : Nat) (k : Int) (w : World) (hdl : dl ≤ 1048576) (hk : k < 0 ∨ (dl : Int) ≤ k) :
    Calls Try.prog 30 #[.slice (some ⟨G, 0, none⟩) dl cap, .int .i64 k] w fun e w' => e = .returned (.int .u8 48) ∧ w' = w := by
  rcases hk with hk | hk
  · go_enter Try.func30, Try.ntmps30
    go_wp2
    go_ret
    exact ⟨rfl, rfl⟩
  · by_cases h0 : k < 0
    · omega
    · go_enter Try.func30, Try.ntmps30
      go_wp2
      go_ret
      exact ⟨rfl, rfl⟩
theorem digitAt_some (G dl cap : Nat) (k : Int) (f : Nat → Int) (w : World) (hdl : dl ≤ 1048576) (hc : ∀ j, j < dl → w.cell? ⟨G, j, none⟩ = some (.int .u8 (f j))) :
    Calls Try.prog 30 #[.slice (some ⟨G, 0, none⟩) dl cap, .int .i64 k] w fun e w' => ∃ x : Int, e = .returned (.int .u8 x) ∧ w' = w := by
  by_cases h : k < 0 ∨ (dl : Int) ≤ k
  · exact (digitAt_out G dl cap k w hdl h).mono fun e w' he => ⟨48, he⟩
  · obtain ⟨j, rfl⟩ := Int.eq_ofNat_of_zero_le (show 0 ≤ k by omega)
    exact (digitAt_in G dl cap j (f j) w hdl (by omega) (hc j (by omega))).mono fun e w' he => ⟨_, he⟩

end Go.Proofs.Qxb6600239a
