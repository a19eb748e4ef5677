/- Plain laws for renderedNumberLen: what its writing comes to. No Go in sight. -/
import Derived.Test.Qxb6600239aNumL
namespace Go.Proofs.Qxb6600239a
set_option linter.unusedVariables false

/-! ### the first digit that is not zero -/
def dat (D : List Int) (k : Nat) : Int := D.getD k 48
theorem fst_none : ∀ D : List Int, fst D < 0 → ∀ j, dat D j = 48
  | [], _, j => by simp [dat]
  | z :: l, h, j => by
    have hb := fst_bd l
    simp only [fst] at h
    split at h
    · omega
    · rename_i hz
      have hz' : z = 48 := by omega
      split at h
      · rename_i hl
        cases j with
        | zero => simp [dat, hz']
        | succ j => have := fst_none l hl j; simpa [dat] using this
      · omega
theorem fst_some : ∀ D : List Int, 0 ≤ fst D → dat D (fst D).toNat ≠ 48 ∧ ∀ j, j < (fst D).toNat → dat D j = 48
  | [], h => by simp [fst] at h
  | z :: l, h => by
    have hb := fst_bd l
    by_cases hz : z = 48
    · by_cases hl : fst l < 0
      · simp [fst, hz, hl] at h
      · have e : fst (z :: l) = fst l + 1 := by simp [fst, hz, hl]
        obtain ⟨h1, h2⟩ := fst_some l (by omega)
        rw [e, show (fst l + 1).toNat = (fst l).toNat + 1 by omega]
        refine ⟨by simpa [dat] using h1, ?_⟩
        intro j hj
        cases j with
        | zero => simp [dat, hz]
        | succ j => have := h2 j (by omega); simpa [dat] using this
    · have e : fst (z :: l) = 0 := by simp [fst, hz]
      rw [e]
      exact ⟨by simp [dat, hz], fun j hj => by simp at hj⟩
theorem fst_iff (D : List Int) : 0 ≤ fst D ↔ ∃ j, j < D.length ∧ dat D j ≠ 48 := by
  constructor
  · intro h
    have hb := fst_bd D
    exact ⟨(fst D).toNat, by omega, (fst_some D h).1⟩
  · rintro ⟨j, _, hj⟩
    by_cases h : fst D < 0
    · exact absurd (fst_none D h j) hj
    · omega

/-! ### the exponent, as the model adds it up -/
def evMStep (e z : Int) : Int := if e < 1073741824 then e * 10 + (z - 48) else e
def evM (l : List Int) : Int := l.foldl evMStep 0
theorem evM_snoc (l : List Int) (z : Int) : evM (l ++ [z]) = evMStep (evM l) z := by simp [evM]
theorem evM_ev : ∀ l : List Int, (∀ z ∈ l, 48 ≤ z ∧ z ≤ 57) → ∀ a b : Int, 0 ≤ b → b ≤ 10737418249 → (b < 1073741824 → a = b) → (1073741824 ≤ b → 1073741824 ≤ a) →
    (0 ≤ l.foldl evMStep b ∧ l.foldl evMStep b ≤ 10737418249) ∧ (l.foldl evMStep b < 1073741824 → l.foldl evStep a = l.foldl evMStep b) ∧ (1073741824 ≤ l.foldl evMStep b → 1073741824 ≤ l.foldl evStep a)
  | [], _, a, b, h0, h1, h2, h3 => ⟨⟨h0, h1⟩, h2, h3⟩
  | z :: l, h, a, b, h0, h1, h2, h3 => by
    have hz := h z (by simp)
    refine evM_ev l (fun y hy => h y (by simp [hy])) (evStep a z) (evMStep b z) ?_ ?_ ?_ ?_
    · unfold evMStep; split <;> omega
    · unfold evMStep; split <;> omega
    · intro hb
      unfold evMStep at hb ⊢
      unfold evStep
      split at hb
      · rename_i hlt
        rw [if_pos hlt, h2 hlt]
        omega
      · omega
    · intro hb
      unfold evMStep at hb
      unfold evStep
      split at hb
      · rename_i hlt
        rw [h2 hlt]
        omega
      · have := h3 (by omega)
        omega

section
variable (t : Nat → Int) (n s : Nat)
theorem digE_bd (h : hasE t n s = true) : ∀ z ∈ digE t n s, 48 ≤ z ∧ z ≤ 57 := by
  intro z hz
  simp only [digE, sg, List.mem_map, List.mem_range] at hz
  obtain ⟨j, hj, rfl⟩ := hz
  have e : pF t n s = re t n (pE t n s) := by unfold pF; rw [if_pos h]
  rw [e] at hj
  exact dig_iff.1 (re_dig (by omega) (show pE t n s + j < re t n (pE t n s) by omega))
/-- the model's exponent -/
def expM : Int := if hasE t n s = true then (if (hasS t n s && t (pD t n s + 1) == 45) = true then - min (evM (digE t n s)) 1073741824 else min (evM (digE t n s)) 1073741824) else 0
theorem expM_cases : expM t n s = expo t n s ∨ (expM t n s = 1073741824 ∧ 1073741824 ≤ expo t n s) ∨ (expM t n s = -1073741824 ∧ expo t n s ≤ -1073741824) := by
  unfold expM expo
  split
  · rename_i hE
    have key := evM_ev (digE t n s) (digE_bd t n s hE) 0 0 (by omega) (by omega) (fun _ => rfl) (fun h => by omega)
    change (0 ≤ evM _ ∧ evM _ ≤ _) ∧ (evM _ < _ → ev _ = evM _) ∧ (_ ≤ evM _ → _ ≤ ev _) at key
    obtain ⟨⟨k0, k1⟩, k2, k3⟩ := key
    unfold sgnE
    by_cases hlt : evM (digE t n s) < 1073741824
    · have := k2 hlt
      left
      split
      · omega
      · omega
    · have := k3 (by omega)
      right
      split
      · right; omega
      · left; omega
  · left; rfl
/-- the length that the model's writing comes to -/
def rawM : Int := numLen (neg t s) (digW t n s).length (digF t n s).length (fst (digW t n s ++ digF t n s)) (expM t n s)
theorem lens_le (hs : s < n) : (digW t n s).length + (digF t n s).length ≤ n := by
  have h1 := pA_bd t s
  have hb := pB_bd t n s hs
  have hc := pC_bd t n s hs
  have hd := pD_bd t n s hs
  unfold digW digF
  rw [sg_length]
  split
  · rw [sg_length]; omega
  · simp; omega
/-- the two lengths are one, or both are past the most that numeric writes -/
theorem raw_cases (hs : s < n) (hn : n ≤ 1048576) : rawM t n s = rawN t n s ∨ (147457 < rawM t n s ∧ 147457 < rawN t n s) := by
  have hl := lens_le t n s hs
  have hf := fst_bd (digW t n s ++ digF t n s)
  rw [List.length_append] at hf
  unfold rawM rawN
  rcases expM_cases t n s with h | ⟨h1, h2⟩ | ⟨h1, h2⟩
  · left; rw [h]
  · rw [h1]
    generalize expo t n s = X at *
    generalize fst (digW t n s ++ digF t n s) = F at *
    generalize (digW t n s).length = A at *
    generalize (digF t n s).length = B at *
    by_cases hF : 0 ≤ F
    · right
      have key : ∀ Y : Int, 1073741824 ≤ Y → 147457 < numLen (neg t s) A B F Y := by
        intro Y hY
        unfold numLen
        rw [if_pos hF]
        split <;> split <;> split <;> omega
      exact ⟨key _ (by omega), key _ h2⟩
    · left
      have key : ∀ Y : Int, 1073741824 ≤ Y → numLen (neg t s) A B F Y = 1 := by
        intro Y hY
        unfold numLen
        rw [if_neg hF]
        split <;> omega
      rw [key _ (by omega), key _ h2]
  · rw [h1]
    generalize expo t n s = X at *
    generalize fst (digW t n s ++ digF t n s) = F at *
    generalize (digW t n s).length = A at *
    generalize (digF t n s).length = B at *
    right
    have key : ∀ Y : Int, Y ≤ -1073741824 → 147457 < numLen (neg t s) A B F Y := by
      intro Y hY
      unfold numLen
      split
      · split <;> split <;> split <;> omega
      · split <;> omega
    exact ⟨key _ (by omega), key _ h2⟩
theorem numN_eq (hs : s < n) (hn : n ≤ 1048576) : numN t n s = if 147457 < rawM t n s then (pF t n s : Int) - s else rawM t n s := by
  unfold numN
  rcases raw_cases t n s hs hn with h | ⟨h1, h2⟩
  · rw [h]
  · rw [if_pos h1, if_pos h2]
end

end Go.Proofs.Qxb6600239a
