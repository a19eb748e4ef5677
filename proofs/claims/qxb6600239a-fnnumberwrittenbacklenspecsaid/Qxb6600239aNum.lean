/- Plain functions and laws: what numberWrittenBackLen reads and answers. No Go in sight. -/
namespace Go.Proofs.Qxb6600239a

def dig (z : Int) : Bool := decide (48 ≤ z) && decide (z ≤ 57)
theorem dig_iff {z : Int} : dig z = true ↔ 48 ≤ z ∧ z ≤ 57 := by simp [dig]

/-- where the run of digits from i on ends (fuel first) -/
def runEnd (t : Nat → Int) (n : Nat) : Nat → Nat → Nat
  | 0, i => i
  | f + 1, i => if i < n ∧ dig (t i) = true then runEnd t n f (i + 1) else i
def re (t : Nat → Int) (n i : Nat) : Nat := runEnd t n (n - i) i
theorem re_step {t : Nat → Int} {n i : Nat} (h : i < n) (hd : dig (t i) = true) : re t n i = re t n (i + 1) := by
  unfold re
  obtain ⟨f, hf⟩ : ∃ f, n - i = f + 1 := ⟨n - i - 1, by omega⟩
  rw [hf, show n - (i + 1) = f by omega]
  simp [runEnd, h, hd]
theorem re_stop {t : Nat → Int} {n i : Nat} (h : ¬ (i < n ∧ dig (t i) = true)) : re t n i = i := by
  unfold re
  cases hf : n - i with
  | zero => rfl
  | succ f => simp only [runEnd]; rw [if_neg h]
theorem runEnd_ge (t : Nat → Int) (n : Nat) : ∀ f i, i ≤ runEnd t n f i
  | 0, i => Nat.le_refl _
  | f + 1, i => by
    simp only [runEnd]
    split
    · exact Nat.le_trans (Nat.le_succ i) (runEnd_ge t n f (i + 1))
    · exact Nat.le_refl _
theorem re_ge (t : Nat → Int) (n i : Nat) : i ≤ re t n i := runEnd_ge t n _ i
theorem runEnd_le (t : Nat → Int) (n : Nat) : ∀ f i, i ≤ n → runEnd t n f i ≤ n
  | 0, i, h => h
  | f + 1, i, h => by
    simp only [runEnd]
    split
    · exact runEnd_le t n f (i + 1) (by omega)
    · exact h
theorem re_le {t : Nat → Int} {n i : Nat} (h : i ≤ n) : re t n i ≤ n := runEnd_le t n _ i h

theorem runEnd_dig (t : Nat → Int) (n : Nat) : ∀ f i k, i ≤ k → k < runEnd t n f i → dig (t k) = true
  | 0, i, k, h, hk => by simp only [runEnd] at hk; omega
  | f + 1, i, k, h, hk => by
    simp only [runEnd] at hk
    split at hk
    · rename_i hd
      by_cases e : i = k
      · subst e; exact hd.2
      · exact runEnd_dig t n f (i + 1) k (by omega) hk
    · omega
theorem re_dig {t : Nat → Int} {n i k : Nat} (h : i ≤ k) (hk : k < re t n i) : dig (t k) = true := runEnd_dig t n _ i k h hk

/-- m bytes from a on -/
def sg (t : Nat → Int) (a m : Nat) : List Int := (List.range m).map fun j => t (a + j)
theorem sg_length (t : Nat → Int) (a m : Nat) : (sg t a m).length = m := by simp [sg]
theorem sg_zero (t : Nat → Int) (a : Nat) : sg t a 0 = [] := rfl
theorem sg_succ (t : Nat → Int) (a m : Nat) : sg t a (m + 1) = sg t a m ++ [t (a + m)] := by simp [sg, List.range_succ]

/-- where the first digit stands that is not zero; -1: none -/
def fst : List Int → Int
  | [] => -1
  | z :: l => if z ≠ 48 then 0 else if fst l < 0 then -1 else fst l + 1
theorem fst_bd : ∀ l, -1 ≤ fst l ∧ fst l < l.length
  | [] => by simp [fst]
  | z :: l => by
    have := fst_bd l
    simp only [fst, List.length_cons]
    split
    · omega
    · split <;> omega
theorem fst_snoc (z : Int) : ∀ l, fst (l ++ [z]) = if fst l < 0 ∧ z ≠ 48 then (l.length : Int) else fst l
  | [] => by
    by_cases h : z = 48 <;> simp [fst, h]
  | y :: l => by
    have ih := fst_snoc z l
    have hb := fst_bd l
    simp only [List.cons_append, fst, ih, List.length_cons]
    by_cases hy : y = 48
    · by_cases h1 : fst l < 0
      · by_cases hz : z = 48
        · simp [hy, h1, hz]
        · simp [hy, h1, hz]; omega
      · simp [hy, h1]; omega
    · simp [hy]

/-- the exponent's value, as the program adds it up -/
def evStep (e z : Int) : Int := min (e * 10 + (z - 48)) 1099511627776
def ev (l : List Int) : Int := l.foldl evStep 0
theorem ev_snoc (l : List Int) (z : Int) : ev (l ++ [z]) = evStep (ev l) z := by simp [ev]

theorem ev_bd : ∀ l : List Int, (∀ z ∈ l, 48 ≤ z) → ∀ e, 0 ≤ e → e ≤ 1099511627776 → 0 ≤ l.foldl evStep e ∧ l.foldl evStep e ≤ 1099511627776
  | [], _, e, h0, h1 => ⟨h0, h1⟩
  | z :: l, h, e, h0, h1 => by
    have hz := h z (by simp)
    exact ev_bd l (fun y hy => h y (by simp [hy])) (evStep e z) (by unfold evStep; omega) (by unfold evStep; omega)

/-- the length that is written back -/
def numLen (neg : Bool) (whole frac first exp : Int) : Int :=
  (if 0 ≤ first then (if 0 < whole - 1 - first + exp then whole - 1 - first + exp + 1 else 1) + (if neg then 1 else 0) else 1)
    + (if 0 < max (frac - exp) 0 then 1 + max (frac - exp) 0 else 0)

section
variable (t : Nat → Int) (n s : Nat)
def neg : Bool := t s == 45
def pA : Nat := if neg t s = true then s + 1 else s
def pB : Nat := re t n (pA t s)
def hasP : Bool := decide (pB t n s < n) && (t (pB t n s) == 46)
def pC : Nat := if hasP t n s = true then pB t n s + 1 else pB t n s
def pD : Nat := if hasP t n s = true then re t n (pC t n s) else pB t n s
def hasE : Bool := decide (pD t n s < n) && (t (pD t n s) == 101 || t (pD t n s) == 69)
def hasS : Bool := decide (pD t n s + 1 < n) && (t (pD t n s + 1) == 43 || t (pD t n s + 1) == 45)
def pE : Nat := if hasS t n s = true then pD t n s + 2 else pD t n s + 1
def pF : Nat := if hasE t n s = true then re t n (pE t n s) else pD t n s
def digW : List Int := sg t (pA t s) (pB t n s - pA t s)
def digF : List Int := if hasP t n s = true then sg t (pC t n s) (pD t n s - pC t n s) else []
def digE : List Int := sg t (pE t n s) (pF t n s - pE t n s)
def sgnE : Int := if (hasS t n s && t (pD t n s + 1) == 45) = true then -1 else 1
def expo : Int := if hasE t n s = true then ev (digE t n s) * sgnE t n s else 0
def rawN : Int := numLen (neg t s) (digW t n s).length (digF t n s).length (fst (digW t n s ++ digF t n s)) (expo t n s)
def numN : Int := if 147457 < rawN t n s then (pF t n s : Int) - s else rawN t n s
theorem pA_bd : s ≤ pA t s ∧ pA t s ≤ s + 1 := by unfold pA; split <;> omega
theorem pB_bd (h : s < n) : pA t s ≤ pB t n s ∧ pB t n s ≤ n := by
  have := pA_bd t s
  exact ⟨re_ge _ _ _, re_le (by omega)⟩
theorem hasP_lt (h : hasP t n s = true) : pB t n s < n := by simp [hasP] at h; exact h.1
theorem pC_bd (h : s < n) : pB t n s ≤ pC t n s ∧ pC t n s ≤ n := by
  have := pB_bd t n s h
  unfold pC
  split
  · have := hasP_lt t n s (by assumption); omega
  · omega
theorem pD_bd (h : s < n) : pC t n s ≤ pD t n s ∧ pD t n s ≤ n := by
  have h1 := pC_bd t n s h
  unfold pD
  split
  · exact ⟨re_ge _ _ _, re_le h1.2⟩
  · have e : pC t n s = pB t n s := by unfold pC; rw [if_neg (by assumption)]
    omega
theorem hasE_lt (h : hasE t n s = true) : pD t n s < n := by simp [hasE] at h; exact h.1
theorem hasS_lt (h : hasS t n s = true) : pD t n s + 1 < n := by simp [hasS] at h; exact h.1
theorem pE_bd (h : hasE t n s = true) : pD t n s + 1 ≤ pE t n s ∧ pE t n s ≤ pD t n s + 2 ∧ pE t n s ≤ n := by
  have h1 := hasE_lt t n s h
  unfold pE
  split
  · have := hasS_lt t n s (by assumption); omega
  · omega
theorem pF_bd (h : s < n) : pD t n s ≤ pF t n s ∧ pF t n s ≤ n := by
  have h1 := pD_bd t n s h
  unfold pF
  split
  · have h2 := pE_bd t n s (by assumption)
    have := re_ge t n (pE t n s)
    have := re_le (t := t) h2.2.2
    omega
  · omega
theorem digE_ge (h : hasE t n s = true) : ∀ z ∈ digE t n s, 48 ≤ z := by
  intro z hz
  simp only [digE, sg, List.mem_map, List.mem_range] at hz
  obtain ⟨j, hj, rfl⟩ := hz
  have e : pF t n s = re t n (pE t n s) := by unfold pF; rw [if_pos h]
  rw [e] at hj
  exact (dig_iff.1 (re_dig (by omega) (show pE t n s + j < re t n (pE t n s) by omega))).1
theorem expo_bd : -1099511627776 ≤ expo t n s ∧ expo t n s ≤ 1099511627776 := by
  unfold expo
  split
  · have := ev_bd _ (digE_ge t n s (by assumption)) 0 (by omega) (by omega)
    change 0 ≤ ev _ ∧ ev _ ≤ _ at this
    unfold sgnE
    split <;> omega
  · omega
end

end Go.Proofs.Qxb6600239a
