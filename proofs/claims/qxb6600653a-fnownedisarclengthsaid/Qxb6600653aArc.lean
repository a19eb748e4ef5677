/- FnOwnedIsArcLength: the plain law and the walk -/
import Derived.Test.Qxb6600653aPart
namespace Go.Proofs.Qxb6600653a
open Go.RowKit
set_option linter.unusedVariables false

/-! ### the plain law -/
section
variable (t : Nat → Int) (n i : Nat)
/-- where i is not the first place of its token it owns nothing -/
theorem arc_not_first (hs : Srt t n) (hi : i < n) (h : own t n (t i) ≠ i) : ownedN t n i = 0 := by
  cases i with
  | zero => exact absurd (own_hit hi (Int.le_refl _) (fun j hj => by omega)) h
  | succ i =>
    unfold ownedN
    rw [if_neg (by omega)]
    show t (i + 1) - t i = 0
    have h1 := hs i hi
    by_cases e : t i = t (i + 1)
    · omega
    · exfalso
      refine h (own_hit hi (Int.le_refl _) (fun j hj => ?_))
      have := hs.mono (i := j) (j := i) (by omega) (by omega)
      omega
/-- where it is: every token before is below -/
theorem arc_first (hs : Srt t n) (hi : i + 1 < n) (h : own t n (t (i + 1)) = i + 1) : t i < t (i + 1) := by
  have h1 := hs i hi
  by_cases e : t i = t (i + 1)
  · exfalso
    have key : ∀ k, k ≤ i → t (i + 1) ≤ t k → own t n (t (i + 1)) ≤ k := by
      intro k
      induction k with
      | zero =>
        intro _ hk
        rw [own_hit (by omega) hk (fun j hj => by omega)]
        exact Nat.le_refl _
      | succ k ih =>
        intro hk hk'
        by_cases hp : t (i + 1) ≤ t k
        · have := ih (by omega) hp
          omega
        · rw [own_hit (by omega) hk' (fun j hj => ?_)]
          · exact Nat.le_refl _
          · have := hs.mono (i := j) (j := k) (by omega) (by omega)
            omega
    have := key i (Nat.le_refl _) (by omega)
    omega
  · omega
/-- the first place of the token at k lies at k or before -/
theorem own_le (hs : Srt t n) (k : Nat) (hk : k < n) : own t n (t k) ≤ k := by
  have key : ∀ m, m ≤ k → t k ≤ t m → own t n (t k) ≤ m := by
    intro m
    induction m with
    | zero =>
      intro _ h
      rw [own_hit (by omega) h (fun j hj => by omega)]
      exact Nat.le_refl _
    | succ m ih =>
      intro hm h
      by_cases hp : t k ≤ t m
      · have := ih (by omega) hp
        omega
      · rw [own_hit (by omega) h (fun j hj => ?_)]
        · exact Nat.le_refl _
        · have := hs.mono (i := j) (j := m) (by omega) (by omega)
          omega
  exact key k (Nat.le_refl _) (Int.le_refl _)
/-- the first place of a token above the first is not the first -/
theorem own_ne_zero (k : Nat) (hk : k < n) (h : t 0 < t k) : own t n (t k) ≠ 0 := by
  have key : ∀ d m, m + d = k → (∀ j, j < m → t j < t k) → m ≤ own t n (t k) := by
    intro d
    induction d with
    | zero =>
      intro m hm hl
      rw [own_hit (k := m) (by omega) (by rw [show m = k by omega]; exact Int.le_refl _) hl]
      exact Nat.le_refl _
    | succ d ih =>
      intro m hm hl
      by_cases hp : t k ≤ t m
      · rw [own_hit (k := m) (by omega) hp hl]
        exact Nat.le_refl _
      · have := ih (m + 1) (by omega) (fun j hj => by
          by_cases e : j = m
          · subst e; omega
          · exact hl j (by omega))
        omega
  cases k with
  | zero => omega
  | succ k =>
    have := key k 1 (by omega) (fun j hj => by
      obtain rfl : j = 0 := by omega
      exact h)
    omega
end

/-! ### the walk -/
theorem owner_val (b off n cap : Nat) (t : Nat → Int) (v : Int) (R : Nat) (w : World) (hn : n ≤ 131072) (hc : ∀ j, j < n → w.cell? ⟨b, off + j, none⟩ = some (.int .u32 (t j))) (hR : own t n v = R) :
    Calls Try.prog 10 #[.slice (some ⟨b, off, none⟩) n cap, .int .u32 v] w fun e w' => e = .returned (.int .i64 (R : Int)) ∧ w' = w := by
  subst hR
  exact owner_any b off n cap t v w hn hc

theorem owner_at (b off n cap : Nat) (t : Nat → Int) (v v0 : Int) (R : Nat) (w : World) (hn : n ≤ 131072) (hc : ∀ j, j < n → w.cell? ⟨b, off + j, none⟩ = some (.int .u32 (t j))) (hR : own t n v0 = R) (hv : v = v0) :
    Calls Try.prog 10 #[.slice (some ⟨b, off, none⟩) n cap, .int .u32 v] w fun e w' => e = .returned (.int .i64 (R : Int)) ∧ w' = w := by
  subst hv
  exact owner_val b off n cap t v R w hn hc hR

theorem own_lt (t : Nat → Int) (n : Nat) (v : Int) (h : 0 < n) : own t n v < n := by
  have key : ∀ f k, k + f = n → ownG t v f k < n := by
    intro f
    induction f with
    | zero => intro k hk; exact h
    | succ f ih =>
      intro k hk
      simp only [ownG]
      split
      · omega
      · exact ih (k + 1) (by omega)
  exact key n 0 (by omega)

set_option maxHeartbeats 1000000 in
theorem arc_main (b off n cap i : Nat) (t : Nat → Int) (w : World) (hn : n ≤ 131072) (hi : i < n) (hc : ∀ j, j < n → w.cell? ⟨b, off + j, none⟩ = some (.int .u32 (t j))) (ht : ∀ j, 0 ≤ t j ∧ t j ≤ 4294967295) (hs : Srt t n) :
    Calls Try.prog 3 #[.slice (some ⟨b, off, none⟩) n cap, .int .i64 (i : Int)] w fun e w' => e = .returned (.bool true) ∧ Below w.heap.size w w' := by
  have hz0 : ((n : Int) == 0) = false := by simp; omega
  obtain ⟨O, hO⟩ : ∃ O, ownedN t n i = O := ⟨_, rfl⟩
  obtain ⟨T, hT⟩ : ∃ T, t i = T := ⟨_, rfl⟩
  obtain ⟨R, hR⟩ : ∃ R, own t n (t i) = R := ⟨_, rfl⟩
  have bO := ownedN_bd t n i ht hs hi
  have bT := ht i
  have bR := own_lt t n (t i) (by omega)
  rw [hO] at bO
  rw [hT] at bT
  rw [hR] at bR
  have HO := hide hO
  have HTT := hide hT
  have HR := hide hR
  have HC := hide hc
  have HT := hide ht
  have HS := hide hs
  clear hc ht hs hO hT hR
  go_enter Try.func3, Try.ntmps3
  go_wp2_with (first | (go_at_call 7; refine (zz7 _ _ _ _ _ (by omega)).mono ?_; rintro e w0 ⟨rfl, rfl⟩) | fail)
  refine (sorted_any b off n cap t true _ hn (by omega) HC.out ⟨fun _ => HS.out, fun _ => rfl⟩).mono ?_
  rintro e w1 ⟨rfl, q, hw1⟩
  have hc1 := cells_drewN HC.out hw1
  have hb1 : Below w0.heap.size w0 w1 := by rw [hw1]; exact below_drewN (Below.refl _ _) q
  have BW1 := hide hb1
  clear hw1 hb1 HC
  obtain ⟨W2, hcp, hcells, hbel⟩ := copied_run w1 b off n cap t hc1
  have hmk := fun w => run_make_row' (P := Try.prog) 22 27 (.int .u32 0) 4 Try.underlying22 Try.info27 rfl .i64 .i64 n (by omega) (by omega) w
  have hci := hcells i hi
  rw [Nat.zero_add, HTT.out] at hci
  have CE := hide hcells
  have BW2 := hide hbel
  clear hc1 hcells hbel
  go_wp2_with (go_at_call 9; refine (zzowned w1.heap.size 0 n n i t O _ hn hi CE.out HT.out HS.out HO.out).mono ?_; rintro e w3 ⟨rfl, q3, rfl⟩)
  clear hcp hmk
  have BELOW : Hid (Below w0.heap.size w0 W2) := BW1.out.trans (BW2.out.mono BW1.out.size)
  clear BW1 BW2
  refine (owner_val w1.heap.size 0 n n t T R _ hn (cells_drewN CE.out rfl) (by rw [← HTT.out]; exact HR.out)).mono ?_
  rintro e w4 ⟨rfl, rfl⟩
  by_cases hRi : R = i
  · subst hRi
    have hne : ((R : Int) != (R : Int)) = false := by simp
    cases R with
    | zero =>
      have hOe : O = T + 4294967296 - t (n - 1) := by rw [← HO.out, ← HTT.out]; rfl
      have bm := HT.out (n - 1)
      have hle := HS.out.mono (i := 0) (j := n - 1) (by omega) (by omega)
      have hall : ∀ j, j < n → t j ≤ t (n - 1) := fun j hj => HS.out.mono (by omega) (by omega)
      have hfirst : own t n 0 = 0 := own_hit hi (HT.out 0).1 (fun j hj => by omega)
      have hnz := own_ne_zero t n (n - 1) (by omega)
      obtain ⟨M, hM⟩ : ∃ M, t (n - 1) = M := ⟨_, rfl⟩
      obtain ⟨L, hL⟩ : ∃ L, own t n (t (n - 1)) = L := ⟨_, rfl⟩
      rw [hL, HTT.out, hM] at hnz
      rw [HTT.out, hM] at hle
      rw [hM] at bm hall hOe hL
      have hmiss : own t n (M + 1) = 0 := own_miss (fun j hj => by have := hall j hj; omega)
      have HF := hide hfirst
      have HMI := hide hmiss
      have HL := hide hL
      have HNZ := hide hnz
      subst hOe
      clear hM hall hfirst hmiss hL hnz HO
      by_cases hTM : T = M
      · subst hTM
        have hz1 : (T + 4294967296 - T == 0) = false := by simp; omega
        have hz2 : (T + 4294967296 - T == 4294967296) = true := by simp; omega
        by_cases hmax : T = 4294967295
        · subst hmax
          go_wp2_with fail
          refine (owner_at w1.heap.size 0 n n t _ 0 0 _ hn (cells_drewN CE.out rfl) HF.out (by omega)).mono ?_
          rintro e w4 ⟨rfl, rfl⟩
          go_wp2
          go_ret
          exact ⟨by first | rfl | (simp; done) | (simp; omega), below_drewN BELOW.out _⟩
        · have hmax' : T < 4294967295 := by omega
          go_wp2_with fail
          refine (owner_at w1.heap.size 0 n n t _ (T + 1) 0 _ hn (cells_drewN CE.out rfl) HMI.out (by omega)).mono ?_
          rintro e w4 ⟨rfl, rfl⟩
          go_wp2
          go_ret
          exact ⟨by first | rfl | (simp; done) | (simp; omega), below_drewN BELOW.out _⟩
      · have hTM' : T < M := by omega
        have hz1 : (T + 4294967296 - M == 0) = false := by simp; omega
        have hz2 : (T + 4294967296 - M == 4294967296) = false := by simp; omega
        have hz3 : T + 4294967296 - M ≤ 4294967295 := by omega
        have hz4 : ((L : Int) != 0) = true := by have := HNZ.out hTM'; simp; omega
        by_cases hmax : M = 4294967295
        · subst hmax
          go_wp2_with fail
          refine (owner_at w1.heap.size 0 n n t _ 0 0 _ hn (cells_drewN CE.out rfl) HF.out (by omega)).mono ?_
          rintro e w4 ⟨rfl, rfl⟩
          go_wp2_with fail
          refine (owner_at w1.heap.size 0 n n t _ 4294967295 L _ hn (cells_drewN CE.out rfl) HL.out (by omega)).mono ?_
          rintro e w4 ⟨rfl, rfl⟩
          go_wp2
          go_ret
          exact ⟨by first | rfl | (simp; done) | (simp; omega), below_drewN BELOW.out _⟩
        · have hmax' : M < 4294967295 := by omega
          go_wp2_with fail
          refine (owner_at w1.heap.size 0 n n t _ (M + 1) 0 _ hn (cells_drewN CE.out rfl) HMI.out (by omega)).mono ?_
          rintro e w4 ⟨rfl, rfl⟩
          go_wp2_with fail
          refine (owner_at w1.heap.size 0 n n t _ M L _ hn (cells_drewN CE.out rfl) HL.out (by omega)).mono ?_
          rintro e w4 ⟨rfl, rfl⟩
          go_wp2
          go_ret
          exact ⟨by first | rfl | (simp; done) | (simp; omega), below_drewN BELOW.out _⟩
    | succ m =>
      have hlt := arc_first t n m HS.out hi HR.out
      have hle := own_le t n HS.out m (by omega)
      obtain ⟨L, hL⟩ : ∃ L, own t n (t m) = L := ⟨_, rfl⟩
      have hst : own t n (t m + 1) = m + 1 := own_hit hi (by omega) (fun j hj => by have := HS.out.mono (i := j) (j := m) (by omega) (by omega); omega)
      have hOe : O = T - t m := by rw [← HO.out, ← HTT.out]; unfold ownedN; rw [if_neg (by omega)]; rfl
      have bm := HT.out m
      rw [hL] at hle
      rw [HTT.out] at hlt
      obtain ⟨M, hM⟩ : ∃ M, t m = M := ⟨_, rfl⟩
      rw [hM] at hlt hst hOe bm hL
      have HM := hide hM
      have HL := hide hL
      have HST := hide hst
      subst hOe
      clear hM hL hst HO
      have hz1 : (T - M == 0) = false := by simp; omega
      have hz2 : (T - M == 4294967296) = false := by simp; omega
      have hz3 : T - M ≤ 4294967295 := by omega
      have hz4 : ((L : Int) != (m : Int) + 1) = true := by simp; omega
      go_wp2_with fail
      refine (owner_val w1.heap.size 0 n n t _ (m + 1) _ hn (cells_drewN CE.out rfl) (by rw [show T - (T - M - 1) = M + 1 by omega]; exact HST.out)).mono ?_
      rintro e w4 ⟨rfl, rfl⟩
      go_wp2_with fail
      refine (owner_val w1.heap.size 0 n n t _ L _ hn (cells_drewN CE.out rfl) (by rw [show T - (T - M - 1) - 1 = M by omega]; exact HL.out)).mono ?_
      rintro e w4 ⟨rfl, rfl⟩
      go_wp2
      go_ret
      exact ⟨by first | rfl | (simp; done) | (simp; omega), below_drewN BELOW.out _⟩
  · have hO0 : O = 0 := by rw [← HO.out]; exact arc_not_first t n i HS.out hi (by rw [HR.out]; exact hRi)
    subst hO0
    have hne : ((R : Int) != (i : Int)) = true := by simp; omega
    go_wp2
    go_ret
    exact ⟨rfl, below_drewN BELOW.out _⟩

set_option maxHeartbeats 1000000 in
theorem arc_unsorted (b off n cap i : Nat) (t : Nat → Int) (w : World) (hn : n ≤ 131072) (hi : i < n) (hc : ∀ j, j < n → w.cell? ⟨b, off + j, none⟩ = some (.int .u32 (t j))) (hs : ¬ Srt t n) :
    Calls Try.prog 3 #[.slice (some ⟨b, off, none⟩) n cap, .int .i64 (i : Int)] w fun e w' => e = .returned (.bool true) ∧ Below w.heap.size w w' := by
  have hz0 : ((n : Int) == 0) = false := by simp; omega
  have HC := hide hc
  have HS := hide hs
  clear hc hs
  go_enter Try.func3, Try.ntmps3
  go_wp2_with (first | (go_at_call 7; refine (zz7 _ _ _ _ _ (by omega)).mono ?_; rintro e w0 ⟨rfl, rfl⟩) | fail)
  refine (sorted_any b off n cap t false _ hn (by omega) HC.out ⟨fun h => (Bool.false_ne_true h).elim, fun h => absurd h HS.out⟩).mono ?_
  rintro e w1 ⟨rfl, q, rfl⟩
  go_wp2
  go_ret
  exact ⟨rfl, below_drewN (Below.refl _ _) q⟩

end Go.Proofs.Qxb6600653a
