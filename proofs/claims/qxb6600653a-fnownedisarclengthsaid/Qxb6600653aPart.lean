/- FnOwnedSharesPartitionRing: the plain law and the walk -/
import Derived.Test.Qxb6600653aBase
namespace Go.Proofs.Qxb6600653a
open Go.RowKit
set_option linter.unusedVariables false

/-- the sum of the first k shares -/
def ps (t : Nat → Int) (n k : Nat) : Int := if k = 0 then 0 else t (k - 1) + 4294967296 - t (n - 1)
theorem ps_step (t : Nat → Int) (n k : Nat) : ps t n (k + 1) = ps t n k + ownedN t n k := by
  unfold ps ownedN
  rw [if_neg (by omega)]
  cases k with
  | zero => simp
  | succ k =>
    rw [if_neg (by omega), if_neg (by omega)]
    simp
    omega
theorem ps_all (t : Nat → Int) (n : Nat) (h : 0 < n) : ps t n n = 4294967296 := by
  unfold ps
  rw [if_neg (by omega)]
  omega
theorem ps_bd (t : Nat → Int) (n k : Nat) (ht : ∀ j, 0 ≤ t j ∧ t j ≤ 4294967295) : 0 ≤ ps t n k ∧ ps t n k ≤ 8589934591 := by
  have h1 := ht (k - 1)
  have h2 := ht (n - 1)
  unfold ps
  split <;> omega
theorem ownedN_bd (t : Nat → Int) (n i : Nat) (ht : ∀ j, 0 ≤ t j ∧ t j ≤ 4294967295) (hs : Srt t n) (hi : i < n) : 0 ≤ ownedN t n i ∧ ownedN t n i ≤ 4294967296 := by
  have h1 := ht i
  have h2 := ht (i - 1)
  unfold ownedN
  split
  · have := hs.mono (i := 0) (j := n - 1) (by omega) (by omega)
    have h3 := ht 0
    have h4 := ht (n - 1)
    omega
  · have := hs.mono (i := i - 1) (j := i) (by omega) hi
    omega

/-- the world behind 'c := make(..); copy(c, tokens)' -/
theorem copied_run (w : World) (b off n cap : Nat) (t : Nat → Int) (hc : ∀ j, j < n → w.cell? ⟨b, off + j, none⟩ = some (.int .u32 (t j))) :
    ∃ W, Sem.run Try.prog (Builtin.copy_ #[22, 22] 3 #[.slice (some ⟨w.heap.size, 0, none⟩) n n, .slice (some ⟨b, off, none⟩) n cap]) (w.alloc (.cells (madeCells #[.int .u32 0] n) 27)) = .ok (goInt n) W ∧
      (∀ j, j < n → W.cell? ⟨w.heap.size, 0 + j, none⟩ = some (.int .u32 (t j))) ∧ Below w.heap.size w W := by
  have hcp := run_copy_row (P := Try.prog) (w.alloc (.cells (madeCells #[.int .u32 0] n) 27)) 22 22 3 27 w.heap.size 0 n n ⟨b, off, none⟩ n cap (madeCells #[.int .u32 0] n) 27 (toks t n) Try.underlying22 Try.size27
    (heap_alloc_new w _) (by simp [toks_length]) (by
      intro j v hj
      have hjn : j < n := by
        have := (List.getElem?_eq_some_iff.1 hj).1
        rwa [toks_length] at this
      rw [toks_get t n j hjn] at hj
      rw [Addr.add_lit, World.cell?_alloc_lt (h := block_lt_of_cell (hc j hjn)), hc j hjn]
      exact hj) (by simp [toks_length, size_madeCells]) (toks_one t n)
  simp only [toks_length, List.take_zero, List.nil_append, Nat.zero_add] at hcp
  rw [List.drop_eq_nil_of_le (by simp [size_madeCells]), List.append_nil] at hcp
  refine ⟨_, hcp, ?_, ?_⟩
  · intro j hj
    have hg := setRow_heap (w.alloc (.cells (madeCells #[.int .u32 0] n) 27)) w.heap.size _ (toks t n).toArray 27 (0, 0) (heap_alloc_new w _)
    rw [Nat.zero_add]
    simp only [World.cell?, hg]
    simpa using toks_get t n j hj
  · exact ((Below.refl _ _).alloc (Nat.le_refl _) _).trans ⟨rfl, rfl, rfl, by simp [World.setRow], fun k hk => setRow_other _ _ k _ (by omega)⟩

theorem cells_drewN {w w1 : World} {b off n q : Nat} {t : Nat → Int} (h : ∀ j, j < n → w.cell? ⟨b, off + j, none⟩ = some (.int .u32 (t j))) (hw : w1 = w.drewN q) : ∀ j, j < n → w1.cell? ⟨b, off + j, none⟩ = some (.int .u32 (t j)) := by
  intro j hj
  rw [hw, World.cell?_drewN]
  exact h j hj

set_option maxHeartbeats 1000000 in
theorem part_main (b off n cap : Nat) (t : Nat → Int) (w : World) (hn : n ≤ 131072) (hn0 : 0 < n) (hc : ∀ j, j < n → w.cell? ⟨b, off + j, none⟩ = some (.int .u32 (t j))) (ht : ∀ j, 0 ≤ t j ∧ t j ≤ 4294967295) (hs : Srt t n) :
    Calls Try.prog 4 #[.slice (some ⟨b, off, none⟩) n cap] w fun e w' => e = .returned (.bool true) ∧ Below w.heap.size w w' := by
  have hz0 : ((n : Int) == 0) = false := by simp; omega
  have HC := hide hc
  have HT := hide ht
  have HS := hide hs
  clear hc ht hs
  go_enter Try.func4, Try.ntmps4
  go_wp2_with (first | (go_at_call 11; refine (zz11 _ _ _ _ (by omega)).mono ?_; rintro e w0 ⟨rfl, rfl⟩) | fail)
  refine (sorted_any b off n cap t true _ hn hn0 HC.out ⟨fun _ => HS.out, fun _ => rfl⟩).mono ?_
  rintro e w1 ⟨rfl, q, hw1⟩
  have hc1 := cells_drewN HC.out hw1
  have hb1 : Below w0.heap.size w0 w1 := by rw [hw1]; exact below_drewN (Below.refl _ _) q
  have BW1 := hide hb1
  clear hw1 hb1 HC
  obtain ⟨W2, hcp, hcells, hbel⟩ := copied_run w1 b off n cap t hc1
  have hmk := fun w => run_make_row' (P := Try.prog) 22 27 (.int .u32 0) 4 Try.underlying22 Try.info27 rfl .i64 .i64 n (by omega) (by omega) w
  have CE := hide hcells
  have BW2 := hide hbel
  clear hc1 hcells hbel
  go_wp2_with fail
  go_loopg [4, 5] n (fun g sv kv wr => ∃ (q k : Nat) (X : Int), wr = W2.drewN q ∧ g = n - k ∧ k ≤ n ∧ kv = .int .i64 (k : Int) ∧ sv = .int .u64 X ∧ 0 ≤ X ∧ X ≤ 8589934591 ∧ Hid (X = ps t n k))
  case atStart => exact ⟨0, 0, 0, rfl, rfl, by omega, rfl, rfl, by omega, by omega, rfl⟩
  case round =>
    obtain ⟨q2, k, X, rfl, rfl, hk, rfl, rfl, hX0, hX1, HX⟩ := hrel
    by_cases hkn : k < n
    · obtain ⟨O, hO⟩ : ∃ O, ownedN t n k = O := ⟨_, rfl⟩
      have bO := ownedN_bd t n k HT.out HS.out hkn
      have bP := ps_bd t n (k + 1) HT.out
      have hst : Hid (X + O = ps t n (k + 1)) := by show _ = _; rw [ps_step, ← HX.out, hO]
      rw [← hst.out] at bP
      rw [hO] at bO
      have HO := hide hO
      clear hO HX
      go_wp2_with (go_at_call 9; refine (zzowned w1.heap.size 0 n n k t O _ hn hkn (cells_drewN CE.out rfl) HT.out HS.out HO.out).mono ?_; rintro e w3 ⟨rfl, q3, rfl⟩)
      go_roundg (n - (k + 1))
      case measure => omega
      case rel => exact ⟨_, k + 1, X + O, rfl, rfl, by omega, by go_num, rfl, by omega, by omega, hst⟩
    · obtain rfl : k = n := by omega
      have e : X = 4294967296 := by rw [HX.out]; exact ps_all t k hn0
      subst e
      clear HX
      go_wp2
      go_ret
      exact ⟨rfl, below_drewN (BW1.out.trans (BW2.out.mono BW1.out.size)) _⟩

set_option maxHeartbeats 1000000 in
theorem part_unsorted (b off n cap : Nat) (t : Nat → Int) (w : World) (hn : n ≤ 131072) (hn0 : 0 < n) (hc : ∀ j, j < n → w.cell? ⟨b, off + j, none⟩ = some (.int .u32 (t j))) (hs : ¬ Srt t n) :
    Calls Try.prog 4 #[.slice (some ⟨b, off, none⟩) n cap] w fun e w' => e = .returned (.bool true) ∧ Below w.heap.size w w' := by
  have hz0 : ((n : Int) == 0) = false := by simp; omega
  have HC := hide hc
  have HS := hide hs
  clear hc hs
  go_enter Try.func4, Try.ntmps4
  go_wp2_with (first | (go_at_call 11; refine (zz11 _ _ _ _ (by omega)).mono ?_; rintro e w0 ⟨rfl, rfl⟩) | fail)
  refine (sorted_any b off n cap t false _ hn hn0 HC.out ⟨fun h => (Bool.false_ne_true h).elim, fun h => absurd h HS.out⟩).mono ?_
  rintro e w1 ⟨rfl, q, rfl⟩
  go_wp2
  go_ret
  exact ⟨rfl, below_drewN (Below.refl _ _) q⟩

theorem bounds32 {n : Int} (h : (Lit.int .u32 n).wf = true) : 0 ≤ n ∧ n ≤ 4294967295 := by
  simp [Lit.wf, IntKind.min, IntKind.max, IntKind.signed, IntKind.bits] at h
  omega

/-- what the shell tells of a slice of tokens that came in, where it has an element -/
theorem row_open {w : World} {a : Option Addr} {len cap : Nat} {zs : List Int} (h0 : 0 < len)
    (h : (a = none ∧ len = 0 ∧ cap = 0 ∧ zs = []) ∨ ∃ x, a = some x ∧ len ≤ cap ∧ cap ≤ maxLen ∧ zs.length = cap ∧ (∀ i, i < zs.length → w.cell? (x.add i) = some (.int .u32 (zs.getD i 0))) ∧ ∀ n ∈ zs, (Lit.int .u32 n).wf = true) :
    ∃ b off, a = some ⟨b, off, none⟩ ∧ (∀ i, i < len → w.cell? ⟨b, off + i, none⟩ = some (.int .u32 (zs.getD i 0))) ∧ (∀ i, 0 ≤ zs.getD i 0 ∧ zs.getD i 0 ≤ 4294967295) := by
  rcases h with ⟨rfl, rfl, rfl, rfl⟩ | ⟨x, rfl, h1, h2, h3, h4, h5⟩
  · omega
  · obtain ⟨b, off, spot⟩ := x
    have hsp : spot = none := by simpa [Addr.add] using World.cell?_spot (h4 0 (by omega))
    subst hsp
    refine ⟨b, off, rfl, ?_, ?_⟩
    · intro i hi
      have := h4 i (by omega)
      rwa [Addr.add_lit] at this
    · intro i
      by_cases hi : i < zs.length
      · have : zs.getD i 0 = zs[i] := by simp [List.getD, hi]
        rw [this]
        exact bounds32 (h5 _ (List.getElem_mem hi))
      · have : zs.getD i 0 = 0 := by simp [List.getD, List.getElem?_eq_none (Nat.le_of_not_lt hi)]
        rw [this]
        omega

end Go.Proofs.Qxb6600653a
