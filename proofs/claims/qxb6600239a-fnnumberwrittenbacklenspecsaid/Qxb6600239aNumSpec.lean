/- the law FnNumberWrittenBackLenSpec -/
import Derived.Test.Qxb6600239aRenW
namespace Go.Proofs.Qxb6600239a
open Go.RowKit
set_option linter.unusedVariables false

theorem zz18 (a : Option Addr) (n c : Nat) (v : Int) (w : World) (h : n ≤ 1048576) :
    Calls Try.prog 18 #[.slice a n c, .int .i64 v] w fun e w' => e = .returned (.bool true) ∧ w' = w := by
  go_enter Try.func18, Try.ntmps18
  go_wp2
  go_ret
  exact ⟨rfl, rfl⟩

theorem ren_at (b off n cap s : Nat) (t : Nat → Int) (R1 : Int) (R2 : Nat) (w : World) (hn : n ≤ 1048576) (hs : s < n) (hc : ∀ j, j < n → w.cell? ⟨b, off + j, none⟩ = some (.int .u8 (t j))) (ht : ∀ j, 0 ≤ t j ∧ t j ≤ 255) (h1 : numN t n s = R1) (h2 : pF t n s = R2) :
    Calls Try.prog 20 #[.slice (some ⟨b, off, none⟩) n cap, .int .i64 s] w fun e w' => e = .returned (.tuple #[.int .i64 R1, .int .i64 R2]) ∧ Below w.heap.size w w' := by
  subst h1 h2
  exact ren_any b off n cap s t w hn hs hc ht

set_option maxHeartbeats 1000000 in
theorem numSpec_main (x : Addr) (n cap s : Nat) (t : Nat → Int) (w : World) (hn : n ≤ 1048576) (hs : s < n) (hc : ∀ i, i < n → w.cell? (x.add i) = some (.int .u8 (t i))) (ht : ∀ j, 0 ≤ t j ∧ t j ≤ 255) :
    Calls Try.prog 7 #[.slice (some x) n cap, .int .i64 s] w fun e w' => e = .returned (.bool true) ∧ Below w.heap.size w w' := by
  obtain ⟨R1, hR1⟩ : ∃ R, numN t n s = R := ⟨_, rfl⟩
  obtain ⟨R2, hR2⟩ : ∃ R, pF t n s = R := ⟨_, rfl⟩
  have H1 := hideN hR1
  have H2 := hideN hR2
  have HC := hideN hc
  have HT := hideN ht
  clear hR1 hR2 hc ht
  go_enter Try.func7, Try.ntmps7
  go_wp2_with (first | (go_at_call 18; refine (zz18 _ _ _ _ _ hn).mono ?_; rintro e w0 ⟨rfl, rfl⟩) | fail)
  refine (copy_any x n cap t _ hn HC.out).mono ?_
  rintro e w1 ⟨rfl, c1, bel, l1⟩
  have C1 : Hid (∀ j, j < n → w1.cell? ⟨w0.heap.size, 0 + j, none⟩ = some (.int .u8 (t j))) := by intro j hj; rw [Nat.zero_add]; exact c1 j hj
  have BEL := hideN bel
  clear c1 bel HC
  go_wp2_with fail
  refine (zznum _ 0 n n s t R1 R2 _ hn hs C1.out HT.out H1.out H2.out).mono ?_
  rintro e w2 ⟨rfl, rfl⟩
  go_wp2_with fail
  refine (ren_at _ 0 n n s t R1 R2 _ hn hs C1.out HT.out H1.out H2.out).mono ?_
  rintro e w3 ⟨rfl, b3⟩
  have BEL2 : Hid (Below w0.heap.size w0 w3) := BEL.out.trans (b3.mono BEL.out.size)
  clear b3 C1 BEL
  go_wp2
  go_ret
  exact ⟨by simp, BEL2.out⟩

end Go.Proofs.Qxb6600239a
