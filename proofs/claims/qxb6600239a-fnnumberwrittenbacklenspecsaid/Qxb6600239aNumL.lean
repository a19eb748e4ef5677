/- Plain laws of numberWrittenBackLen: it hangs on the number's own text alone; its bounds. No Go in sight. -/
import Derived.Test.Qxb6600239aNum
namespace Go.Proofs.Qxb6600239a
set_option linter.unusedVariables false

theorem re_uniq {t : Nat → Int} {n i m : Nat} (h1 : i ≤ m) (h2 : m ≤ n) (h3 : ∀ k, i ≤ k → k < m → dig (t k) = true) (h4 : ¬ (m < n ∧ dig (t m) = true)) : re t n i = m := by
  obtain ⟨d, rfl⟩ := Nat.exists_eq_add_of_le h1
  clear h1
  induction d generalizing i with
  | zero => exact re_stop h4
  | succ d ih =>
    rw [re_step (by omega) (h3 i (by omega) (by omega))]
    have := ih (i := i + 1) (by omega) (fun k hk hk' => h3 k (by omega) (by omega)) (by rwa [show i + 1 + d = i + (d + 1) by omega])
    rw [this]; omega

theorem re_nodig {t : Nat → Int} {n i : Nat} (h : i ≤ n) : ¬ (re t n i < n ∧ dig (t (re t n i)) = true) := by
  rintro ⟨h1, h2⟩
  have key : ∀ f i, i + f = n → ¬ (runEnd t n f i < n ∧ dig (t (runEnd t n f i)) = true) := by
    intro f
    induction f with
    | zero => intro i hi; simp only [runEnd]; omega
    | succ f ih =>
      intro i hi
      simp only [runEnd]
      split
      · exact ih (i + 1) (by omega)
      · assumption
  exact key (n - i) i (by omega) ⟨h1, h2⟩

/-- a run read again in the text from s on, cut at e -/
theorem re_cut {t : Nat → Int} {n s e i : Nat} (hi : s ≤ i) (hin : i ≤ n) (he : re t n i ≤ e) (hen : e ≤ n) : re (fun j => t (s + j)) (e - s) (i - s) = re t n i - s := by
  have g := re_ge t n i
  refine re_uniq (by omega) (by omega) ?_ ?_
  · intro k hk hk'
    exact re_dig (by omega) (show s + k < re t n i by omega)
  · rintro ⟨h1, h2⟩
    refine re_nodig (t := t) hin ⟨by omega, ?_⟩
    rwa [show s + (re t n i - s) = re t n i by omega] at h2

theorem sg_cut (t : Nat → Int) (s a m : Nat) (h : s ≤ a) : sg (fun j => t (s + j)) (a - s) m = sg t a m := by
  simp only [sg]
  refine List.map_congr_left fun j _ => ?_
  show t (s + (a - s + j)) = _
  rw [show s + (a - s + j) = a + j by omega]

section
variable (t : Nat → Int) (n s : Nat)

theorem cut_neg : neg (fun j => t (s + j)) 0 = neg t s := rfl
theorem cut_pA : pA (fun j => t (s + j)) 0 = pA t s - s := by
  unfold pA
  rw [cut_neg]
  split <;> omega
theorem cut_pB {e : Nat} (hs : s < n) (he : pF t n s ≤ e) (hen : e ≤ n) (hse : s < e) : pB (fun j => t (s + j)) (e - s) 0 = pB t n s - s := by
  have h1 := pA_bd t s
  have h2 := pC_bd t n s hs
  have h3 := pD_bd t n s hs
  have h4 := pF_bd t n s hs
  unfold pB
  rw [cut_pA]
  exact re_cut h1.1 (by omega) (by change pB t n s ≤ e; omega) hen
theorem cut_hasP {e : Nat} (hs : s < n) (he : pF t n s ≤ e) (hen : e ≤ n) (hse : s < e) : hasP (fun j => t (s + j)) (e - s) 0 = hasP t n s := by
  have h1 := pA_bd t s
  have hb := pB_bd t n s hs
  have h2 := pC_bd t n s hs
  have h3 := pD_bd t n s hs
  have h4 := pF_bd t n s hs
  unfold hasP
  rw [cut_pB t n s hs he hen hse]
  have e1 : s + (pB t n s - s) = pB t n s := by omega
  show (decide (pB t n s - s < e - s) && (t (s + (pB t n s - s)) == 46)) = _
  rw [e1]
  by_cases h46 : t (pB t n s) = 46
  · by_cases hbn : pB t n s < n
    · have hp : hasP t n s = true := by simp [hasP, h46, hbn]
      have hc : pC t n s = pB t n s + 1 := by unfold pC; rw [if_pos hp]
      have : pB t n s - s < e - s := by omega
      simp [this, hbn]
    · have : ¬ pB t n s - s < e - s := by omega
      simp [this, hbn]
  · have h46' : (t (pB t n s) == 46) = false := by simpa using h46
    rw [h46', Bool.and_false, Bool.and_false]
theorem cut_pC {e : Nat} (hs : s < n) (he : pF t n s ≤ e) (hen : e ≤ n) (hse : s < e) : pC (fun j => t (s + j)) (e - s) 0 = pC t n s - s := by
  have h1 := pA_bd t s
  have hb := pB_bd t n s hs
  unfold pC
  rw [cut_hasP t n s hs he hen hse, cut_pB t n s hs he hen hse]
  split <;> omega
theorem cut_pD {e : Nat} (hs : s < n) (he : pF t n s ≤ e) (hen : e ≤ n) (hse : s < e) : pD (fun j => t (s + j)) (e - s) 0 = pD t n s - s := by
  have h1 := pA_bd t s
  have hb := pB_bd t n s hs
  have hc := pC_bd t n s hs
  have h4 := pF_bd t n s hs
  unfold pD
  rw [cut_hasP t n s hs he hen hse, cut_pB t n s hs he hen hse, cut_pC t n s hs he hen hse]
  split
  · have hp : hasP t n s = true := by assumption
    have hd : pD t n s = re t n (pC t n s) := by unfold pD; rw [if_pos hp]
    exact re_cut (by omega) (by omega) (by omega) hen
  · rfl
theorem cut_hasE {e : Nat} (hs : s < n) (he : pF t n s ≤ e) (hen : e ≤ n) (hse : s < e) : hasE (fun j => t (s + j)) (e - s) 0 = hasE t n s := by
  have h1 := pA_bd t s
  have hb := pB_bd t n s hs
  have hc := pC_bd t n s hs
  have hd := pD_bd t n s hs
  have h4 := pF_bd t n s hs
  unfold hasE
  rw [cut_pD t n s hs he hen hse]
  have e1 : s + (pD t n s - s) = pD t n s := by omega
  show (decide (pD t n s - s < e - s) && (t (s + (pD t n s - s)) == 101 || t (s + (pD t n s - s)) == 69)) = _
  rw [e1]
  by_cases h46 : (t (pD t n s) == 101 || t (pD t n s) == 69) = true
  · by_cases hbn : pD t n s < n
    · have hp : hasE t n s = true := by simp only [hasE, h46, hbn]; rfl
      have he' := pE_bd t n s hp
      have hf : pF t n s = re t n (pE t n s) := by unfold pF; rw [if_pos hp]
      have := re_ge t n (pE t n s)
      have : pD t n s - s < e - s := by omega
      simp only [this, hbn]
    · have : ¬ pD t n s - s < e - s := by omega
      simp only [this, hbn]
  · have h46' : (t (pD t n s) == 101 || t (pD t n s) == 69) = false := by simpa using h46
    rw [h46']; simp
theorem cut_hasS {e : Nat} (hs : s < n) (he : pF t n s ≤ e) (hen : e ≤ n) (hse : s < e) (hE : hasE t n s = true) : hasS (fun j => t (s + j)) (e - s) 0 = hasS t n s := by
  have h1 := pA_bd t s
  have hb := pB_bd t n s hs
  have hc := pC_bd t n s hs
  have hd := pD_bd t n s hs
  have h4 := pF_bd t n s hs
  have hf : pF t n s = re t n (pE t n s) := by unfold pF; rw [if_pos hE]
  have hg := re_ge t n (pE t n s)
  unfold hasS
  rw [cut_pD t n s hs he hen hse]
  have e1 : s + (pD t n s - s + 1) = pD t n s + 1 := by omega
  show (decide (pD t n s - s + 1 < e - s) && (t (s + (pD t n s - s + 1)) == 43 || t (s + (pD t n s - s + 1)) == 45)) = _
  rw [e1]
  by_cases h46 : (t (pD t n s + 1) == 43 || t (pD t n s + 1) == 45) = true
  · by_cases hbn : pD t n s + 1 < n
    · have hp : hasS t n s = true := by simp only [hasS, h46, hbn]; rfl
      have he' : pE t n s = pD t n s + 2 := by unfold pE; rw [if_pos hp]
      have : pD t n s - s + 1 < e - s := by omega
      simp only [this, hbn]
    · have : ¬ pD t n s - s + 1 < e - s := by omega
      simp only [this, hbn]
  · have h46' : (t (pD t n s + 1) == 43 || t (pD t n s + 1) == 45) = false := by simpa using h46
    rw [h46']; simp
theorem cut_pE {e : Nat} (hs : s < n) (he : pF t n s ≤ e) (hen : e ≤ n) (hse : s < e) (hE : hasE t n s = true) : pE (fun j => t (s + j)) (e - s) 0 = pE t n s - s := by
  have h1 := pA_bd t s
  have hb := pB_bd t n s hs
  have hc := pC_bd t n s hs
  have hd := pD_bd t n s hs
  unfold pE
  rw [cut_hasS t n s hs he hen hse hE, cut_pD t n s hs he hen hse]
  split <;> omega
theorem cut_pF {e : Nat} (hs : s < n) (he : pF t n s ≤ e) (hen : e ≤ n) (hse : s < e) : pF (fun j => t (s + j)) (e - s) 0 = pF t n s - s := by
  have h1 := pA_bd t s
  have hb := pB_bd t n s hs
  have hc := pC_bd t n s hs
  have hd := pD_bd t n s hs
  unfold pF
  rw [cut_hasE t n s hs he hen hse, cut_pD t n s hs he hen hse]
  split
  · have hE : hasE t n s = true := by assumption
    have he' := pE_bd t n s hE
    have hf : pF t n s = re t n (pE t n s) := by unfold pF; rw [if_pos hE]
    rw [cut_pE t n s hs he hen hse hE]
    exact re_cut (by omega) (by omega) (by omega) hen
  · rfl
theorem cut_digW {e : Nat} (hs : s < n) (he : pF t n s ≤ e) (hen : e ≤ n) (hse : s < e) : digW (fun j => t (s + j)) (e - s) 0 = digW t n s := by
  have h1 := pA_bd t s
  unfold digW
  rw [cut_pB t n s hs he hen hse, cut_pA, sg_cut _ _ _ _ h1.1]
  congr 1; omega
theorem cut_digF {e : Nat} (hs : s < n) (he : pF t n s ≤ e) (hen : e ≤ n) (hse : s < e) : digF (fun j => t (s + j)) (e - s) 0 = digF t n s := by
  have h1 := pA_bd t s
  have hb := pB_bd t n s hs
  have hc := pC_bd t n s hs
  unfold digF
  rw [cut_hasP t n s hs he hen hse, cut_pC t n s hs he hen hse, cut_pD t n s hs he hen hse, sg_cut _ _ _ _ (by omega)]
  rw [show pD t n s - s - (pC t n s - s) = pD t n s - pC t n s by omega]
theorem cut_expo {e : Nat} (hs : s < n) (he : pF t n s ≤ e) (hen : e ≤ n) (hse : s < e) : expo (fun j => t (s + j)) (e - s) 0 = expo t n s := by
  have h1 := pA_bd t s
  have hb := pB_bd t n s hs
  have hc := pC_bd t n s hs
  have hd := pD_bd t n s hs
  unfold expo
  rw [cut_hasE t n s hs he hen hse]
  split
  · have hE : hasE t n s = true := by assumption
    have he' := pE_bd t n s hE
    have e1 : digE (fun j => t (s + j)) (e - s) 0 = digE t n s := by
      unfold digE
      rw [cut_pE t n s hs he hen hse hE, cut_pF t n s hs he hen hse, sg_cut _ _ _ _ (by omega)]
      congr 1; omega
    have e2 : sgnE (fun j => t (s + j)) (e - s) 0 = sgnE t n s := by
      unfold sgnE
      rw [cut_hasS t n s hs he hen hse hE, cut_pD t n s hs he hen hse]
      show (if (hasS t n s && t (s + (pD t n s - s + 1)) == 45) = true then (-1 : Int) else 1) = _
      rw [show s + (pD t n s - s + 1) = pD t n s + 1 by omega]
    rw [e1, e2]
  · rfl
/-- THE LAW 'Local', plain. -/
theorem cut_numN {e : Nat} (hs : s < n) (he : pF t n s ≤ e) (hen : e ≤ n) (hse : s < e) : numN (fun j => t (s + j)) (e - s) 0 = numN t n s := by
  have h1 := pA_bd t s
  have hb := pB_bd t n s hs
  have hc := pC_bd t n s hs
  have hd := pD_bd t n s hs
  have hf := pF_bd t n s hs
  unfold numN rawN
  rw [cut_neg, cut_digW t n s hs he hen hse, cut_digF t n s hs he hen hse, cut_expo t n s hs he hen hse, cut_pF t n s hs he hen hse]
  split <;> omega
end

theorem numLen_pos (ng : Bool) (w f i e : Int) (h : i < w + f) : 1 ≤ numLen ng w f i e := by
  unfold numLen
  split
  · split <;> split <;> split <;> omega
  · split <;> omega

section
variable (t : Nat → Int) (n s : Nat)
theorem pF_ge (hs : s < n) : s ≤ pF t n s := by
  have h1 := pA_bd t s
  have hb := pB_bd t n s hs
  have hc := pC_bd t n s hs
  have hd := pD_bd t n s hs
  have hf := pF_bd t n s hs
  omega
theorem pF_eq (hs : s < n) (h : t s ≠ 45 ∧ ¬ (48 ≤ t s ∧ t s ≤ 57) ∧ t s ≠ 46 ∧ t s ≠ 101 ∧ t s ≠ 69) : pA t s = s ∧ pB t n s = s ∧ pD t n s = s ∧ pF t n s = s ∧ hasP t n s = false ∧ hasE t n s = false := by
  have hA : pA t s = s := by simp [pA, neg, h.1]
  have hB : pB t n s = s := by
    unfold pB
    rw [hA]
    refine re_stop ?_
    rintro ⟨_, hd⟩
    exact h.2.1 (dig_iff.1 hd)
  have hP : hasP t n s = false := by simp [hasP, hB, h.2.2.1]
  have hD : pD t n s = s := by simp [pD, hP, hB]
  have hE : hasE t n s = false := by simp [hasE, hD, h.2.2.2.1, h.2.2.2.2]
  exact ⟨hA, hB, hD, by simp [pF, hE, hD], hP, hE⟩
theorem pF_gt (hs : s < n) (h : t s = 45 ∨ (48 ≤ t s ∧ t s ≤ 57) ∨ t s = 46 ∨ t s = 101 ∨ t s = 69) : s < pF t n s := by
  have h1 := pA_bd t s
  have hb := pB_bd t n s hs
  have hc := pC_bd t n s hs
  have hd := pD_bd t n s hs
  have hf := pF_bd t n s hs
  by_cases hA : pA t s = s
  · have h45 : t s ≠ 45 := by
      intro h45
      have : pA t s = s + 1 := by simp [pA, neg, h45]
      omega
    by_cases hdg : 48 ≤ t s ∧ t s ≤ 57
    · have : s + 1 ≤ pB t n s := by
        unfold pB
        rw [hA, re_step hs (dig_iff.2 hdg)]
        exact re_ge _ _ _
      omega
    · have hB : pB t n s = s := by
        unfold pB
        rw [hA]
        refine re_stop ?_
        rintro ⟨_, hd⟩
        exact hdg (dig_iff.1 hd)
      by_cases h46 : t s = 46
      · have hP : hasP t n s = true := by simp [hasP, hB, h46, hs]
        have : pC t n s = s + 1 := by simp [pC, hP, hB]
        omega
      · have hP : hasP t n s = false := by simp [hasP, hB, h46]
        have hD : pD t n s = s := by simp [pD, hP, hB]
        have hE : hasE t n s = true := by
          have : t s = 101 ∨ t s = 69 := by omega
          simp [hasE, hD, hs, this]
        have := (pE_bd t n s hE).1
        have hg := re_ge t n (pE t n s)
        have hF : pF t n s = re t n (pE t n s) := by unfold pF; rw [if_pos hE]
        omega
  · omega
theorem rawN_pos (hs : s < n) : 1 ≤ rawN t n s := by
  unfold rawN
  have := fst_bd (digW t n s ++ digF t n s)
  rw [List.length_append] at this
  exact numLen_pos _ _ _ _ _ (by omega)
theorem numN_pos (hs : s < n) : 1 ≤ numN t n s := by
  have h1 := rawN_pos t n s hs
  unfold numN
  split
  · rename_i hbig
    have h2 := pF_ge t n s hs
    by_cases h : t s = 45 ∨ (48 ≤ t s ∧ t s ≤ 57) ∨ t s = 46 ∨ t s = 101 ∨ t s = 69
    · have := pF_gt t n s hs h
      omega
    · obtain ⟨hA, hB, _, _, hP, hE⟩ := pF_eq t n s hs (by omega)
      exfalso
      have e : rawN t n s = 1 := by
        simp [rawN, digW, digF, hA, hB, hP, expo, hE, sg_zero, numLen, fst]
      omega
  · exact h1
theorem numN_big (hs : s < n) (h : 147457 < numN t n s) : numN t n s = (pF t n s : Int) - s := by
  unfold numN at h ⊢
  split
  · rfl
  · rename_i h'
    rw [if_neg h'] at h
    exact absurd h h'
end

end Go.Proofs.Qxb6600239a
