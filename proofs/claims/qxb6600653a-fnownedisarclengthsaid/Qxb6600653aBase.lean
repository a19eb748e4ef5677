/- the ring: plain functions, and the contracts of the small functions -/
import Derived.Test.Qxb6600653aChecked
import Derived.WalkKit
import Derived.WalkSmall
import Derived.Laws.CopyRow
import Derived.Deep.OwnRows
import Derived.Deep.LoopGhost
import Derived.Deep.QuietTactic
import Derived.BigQuiet
import Derived.WalkSpells
namespace Go.Proofs.Qxb6600653a
open Go.RowKit
set_option linter.unusedVariables false

theorem hide {p : Prop} (h : p) : Hid p := h
theorem int_eq {k : IntKind} {a b : Int} (h : a = b) : Value.int k a = .int k b := by rw [h]
theorem ret_eq {a b : Value} (h : a = b) : Ending.returned a = .returned b := by rw [h]
theorem bool_eq {a b : Bool} (h : a = b) : Value.bool a = .bool b := by rw [h]

/-! ### plain functions -/
def Srt (t : Nat → Int) (n : Nat) : Prop := ∀ k, k + 1 < n → t k ≤ t (k + 1)
theorem Srt.le {t : Nat → Int} {n : Nat} (h : Srt t n) : ∀ d i, i + d < n → t i ≤ t (i + d)
  | 0, i, _ => Int.le_refl _
  | d + 1, i, hi => by
    have h1 := h.le d i (by omega)
    have h2 := h (i + d) (by omega)
    rw [show i + (d + 1) = i + d + 1 by omega]
    omega
theorem Srt.mono {t : Nat → Int} {n i j : Nat} (h : Srt t n) (hij : i ≤ j) (hj : j < n) : t i ≤ t j := by
  have := h.le (j - i) i (by omega)
  rwa [show i + (j - i) = j by omega] at this

/-- the first place whose token is at or above v; 0 where there is none -/
def ownG (t : Nat → Int) (v : Int) : Nat → Nat → Nat
  | 0, _ => 0
  | f + 1, k => if v ≤ t k then k else ownG t v f (k + 1)
def own (t : Nat → Int) (n : Nat) (v : Int) : Nat := ownG t v n 0
theorem own_go (t : Nat → Int) (v : Int) (n : Nat) : ∀ k, k ≤ n → (∀ j, j < k → t j < v) → own t n v = ownG t v (n - k) k
  | 0, _, _ => by rw [Nat.sub_zero]; rfl
  | k + 1, hk, h => by
    have ih := own_go t v n k (by omega) (fun j hj => h j (by omega))
    have hlt := h k (by omega)
    rw [ih, show n - k = (n - (k + 1)) + 1 by omega]
    simp only [ownG]
    rw [if_neg (by omega)]
theorem own_hit {t : Nat → Int} {n k : Nat} {v : Int} (hk : k < n) (h : v ≤ t k) (hl : ∀ j, j < k → t j < v) : own t n v = k := by
  rw [own_go t v n k (by omega) hl, show n - k = (n - k - 1) + 1 by omega]
  simp only [ownG]
  rw [if_pos h]
theorem own_miss {t : Nat → Int} {n : Nat} {v : Int} (hl : ∀ j, j < n → t j < v) : own t n v = 0 := by
  rw [own_go t v n n (by omega) hl, Nat.sub_self]
  rfl

/-- what owned answers at sorted tokens -/
def ownedN (t : Nat → Int) (n i : Nat) : Int := if i = 0 then t 0 + 4294967296 - t (n - 1) else t i - t (i - 1)

/-! ### cells -/
theorem Try.info27 : (Try.prog.info? 27).map (fun i => (i.zero, i.size, i.bytes)) = some (some (.int .u32 0), 1, 4) := by kernel_rfl
theorem Try.size27 : (Try.prog.info? 27).map (·.size) = some 1 := by kernel_rfl
def toks (t : Nat → Int) (n : Nat) : List Value := (List.range n).map fun i => .int .u32 (t i)
theorem toks_length (t : Nat → Int) (n : Nat) : (toks t n).length = n := by simp [toks]
theorem toks_get (t : Nat → Int) (n j : Nat) (h : j < n) : (toks t n)[j]? = some (.int .u32 (t j)) := by simp [toks, h]
theorem toks_one (t : Nat → Int) (n : Nat) : ∀ v ∈ toks t n, v.oneCell' = true := by
  intro v hv
  simp [toks] at hv
  obtain ⟨j, _, rfl⟩ := hv
  rfl

/-! ### walks -/
theorem zz11 (a : Option Addr) (n c : Nat) (w : World) (h : n ≤ 1048576) :
    Calls Try.prog 11 #[.slice a n c] w fun e w' => e = .returned (.bool true) ∧ w' = w := by
  go_enter Try.func11, Try.ntmps11
  go_wp2
  go_ret
  exact ⟨rfl, rfl⟩
theorem zz7 (a : Option Addr) (n c : Nat) (v : Int) (w : World) (h : n ≤ 1048576) :
    Calls Try.prog 7 #[.slice a n c, .int .i64 v] w fun e w' => e = .returned (.bool true) ∧ w' = w := by
  go_enter Try.func7, Try.ntmps7
  go_wp2
  go_ret
  exact ⟨rfl, rfl⟩

set_option maxHeartbeats 400000 in
theorem owner_any (b off n cap : Nat) (t : Nat → Int) (v : Int) (w : World) (hn : n ≤ 131072) (hc : ∀ j, j < n → w.cell? ⟨b, off + j, none⟩ = some (.int .u32 (t j))) :
    Calls Try.prog 10 #[.slice (some ⟨b, off, none⟩) n cap, .int .u32 v] w fun e w' => e = .returned (.int .i64 (own t n v : Nat)) ∧ w' = w := by
  obtain ⟨R, hR⟩ : ∃ R, R = own t n v := ⟨_, rfl⟩
  rw [← hR]
  have HR := hide hR
  have HC := hide hc
  clear hR hc
  go_enter Try.func10, Try.ntmps10
  go_wp2
  go_loopg [5] n (fun g kv wr => wr = w ∧ ∃ k : Nat, g = n - k ∧ k ≤ n ∧ kv = .int .i64 k ∧ Hid (∀ j, j < k → t j < v))
  case atStart => exact ⟨rfl, 0, rfl, by omega, rfl, fun j hj => by omega⟩
  case round =>
    obtain ⟨rfl, k, rfl, hk, rfl, HL⟩ := hrel
    by_cases hkn : k < n
    · have hc1 := HC.out k hkn
      by_cases hv : v ≤ t k
      · have e : R = k := by rw [HR.out]; exact own_hit hkn hv HL.out
        have HE := hide e
        clear e HC
        go_wp2
        go_ret
        exact ⟨ret_eq (int_eq (by rw [HE.out])), rfl⟩
      · clear HR HC
        go_wp2
        go_roundg (n - (k + 1))
        case measure => omega
        case rel =>
          refine ⟨rfl, k + 1, rfl, by omega, by go_num, fun j hj => ?_⟩
          by_cases e : j = k
          · subst e; omega
          · exact HL.out j (by omega)
    · obtain rfl : k = n := by omega
      have e : R = 0 := by rw [HR.out]; exact own_miss HL.out
      have HE := hide e
      clear e HC HR
      go_wp2
      go_ret
      exact ⟨ret_eq (int_eq (by rw [HE.out]; rfl)), rfl⟩

set_option maxHeartbeats 400000 in
theorem owned_zero (b off n cap : Nat) (t : Nat → Int) (w : World) (hn : n ≤ 131072) (h0 : 0 < n) (hc : ∀ j, j < n → w.cell? ⟨b, off + j, none⟩ = some (.int .u32 (t j))) (ht : ∀ j, 0 ≤ t j ∧ t j ≤ 4294967295) :
    Calls Try.prog 13 #[.slice (some ⟨b, off, none⟩) n cap, .int .i64 0] w fun e w' => e = .returned (.int .u64 (ownedN t n 0)) ∧ ∃ q, w' = w.drewN q := by
  obtain ⟨m, rfl⟩ : ∃ m, n = m + 1 := ⟨n - 1, by omega⟩
  have hc0 := hc 0 h0
  have hc1 := hc m (by omega)
  have t0 := ht 0
  have t1 := ht m
  have hi : (0 : Int) < (m : Int) + 1 := by omega
  rw [Nat.add_zero] at hc0
  have e : ownedN t (m + 1) 0 = t 0 + 4294967296 - t m := rfl
  rw [e]
  obtain ⟨x, hx⟩ : ∃ x, x = t 0 := ⟨_, rfl⟩
  obtain ⟨y, hy⟩ : ∃ y, y = t m := ⟨_, rfl⟩
  rw [← hx] at hc0 t0
  rw [← hy] at hc1 t1
  rw [← hx, ← hy]
  clear hx hy e hc ht
  go_enter Try.func13, Try.ntmps13
  go_wp2
  go_quiet (fail)
  go_wp2
  go_ret
  exact ⟨rfl, _, rfl⟩

set_option maxHeartbeats 400000 in
theorem owned_succ (b off n cap i : Nat) (t : Nat → Int) (w : World) (hn : n ≤ 131072) (h0 : i + 1 < n) (hc : ∀ j, j < n → w.cell? ⟨b, off + j, none⟩ = some (.int .u32 (t j))) (ht : ∀ j, 0 ≤ t j ∧ t j ≤ 4294967295) (hs : Srt t n) :
    Calls Try.prog 13 #[.slice (some ⟨b, off, none⟩) n cap, .int .i64 ((i : Int) + 1)] w fun e w' => e = .returned (.int .u64 (ownedN t n (i + 1))) ∧ ∃ q, w' = w.drewN q := by
  have hc0 := hc i (by omega)
  have hc1 := hc (i + 1) (by omega)
  have t0 := ht i
  have t1 := ht (i + 1)
  have hle := hs i h0
  have hi : (0 : Int) ≤ (i : Int) + 1 := by omega
  have hi2 : (i : Int) + 1 < (n : Int) := by omega
  have hi3 : (i : Int) < (n : Int) := by omega
  have e : ownedN t n (i + 1) = t (i + 1) - t i := by unfold ownedN; rw [if_neg (by omega)]; rfl
  rw [e]
  obtain ⟨x, hx⟩ : ∃ x, x = t i := ⟨_, rfl⟩
  obtain ⟨y, hy⟩ : ∃ y, y = t (i + 1) := ⟨_, rfl⟩
  rw [← hx] at hc0 t0 hle
  rw [← hy] at hc1 t1 hle
  rw [← hx, ← hy]
  clear hx hy e hc ht
  have hz : ((i : Int) + 1 == 0) = false := by simp; omega
  go_enter Try.func13, Try.ntmps13
  go_wp2
  go_quiet (fail)
  go_wp2
  go_ret
  exact ⟨rfl, _, rfl⟩

/-- owned at any place, through ZZowned -/
theorem owned_any (b off n cap i : Nat) (t : Nat → Int) (w : World) (hn : n ≤ 131072) (h0 : i < n) (hc : ∀ j, j < n → w.cell? ⟨b, off + j, none⟩ = some (.int .u32 (t j))) (ht : ∀ j, 0 ≤ t j ∧ t j ≤ 4294967295) (hs : Srt t n) :
    Calls Try.prog 13 #[.slice (some ⟨b, off, none⟩) n cap, .int .i64 (i : Int)] w fun e w' => e = .returned (.int .u64 (ownedN t n i)) ∧ ∃ q, w' = w.drewN q := by
  cases i with
  | zero => exact owned_zero b off n cap t w hn h0 hc ht
  | succ i => exact owned_succ b off n cap i t w hn h0 hc ht hs
theorem zzowned (b off n cap i : Nat) (t : Nat → Int) (O : Int) (w : World) (hn : n ≤ 131072) (h0 : i < n) (hc : ∀ j, j < n → w.cell? ⟨b, off + j, none⟩ = some (.int .u32 (t j))) (ht : ∀ j, 0 ≤ t j ∧ t j ≤ 4294967295) (hs : Srt t n) (hO : ownedN t n i = O) :
    Calls Try.prog 9 #[.slice (some ⟨b, off, none⟩) n cap, .int .i64 (i : Int)] w fun e w' => e = .returned (.int .u64 O) ∧ ∃ q, w' = w.drewN q := by
  have hA := owned_any b off n cap i t w hn h0 hc ht hs
  rw [hO] at hA
  have HA := hide hA
  clear hA hc ht hs hO
  go_enter Try.func9, Try.ntmps9
  go_wp2_with (go_at_call 13; refine (HA.out).mono ?_; rintro e w' ⟨rfl, q, rfl⟩)
  go_ret
  exact ⟨rfl, _, rfl⟩

set_option maxHeartbeats 400000 in
/-- sortedTokens -/
theorem sorted_any (b off n cap : Nat) (t : Nat → Int) (S : Bool) (w : World) (hn : n ≤ 131072) (hn0 : 0 < n) (hc : ∀ j, j < n → w.cell? ⟨b, off + j, none⟩ = some (.int .u32 (t j))) (hS : S = true ↔ Srt t n) :
    Calls Try.prog 8 #[.slice (some ⟨b, off, none⟩) n cap] w fun e w' => e = .returned (.bool S) ∧ ∃ q, w' = w.drewN q := by
  have HS := hide hS
  have HC := hide hc
  clear hS hc
  go_enter Try.func8, Try.ntmps8
  go_wp2
  go_loopg [3] n (fun g kv wr => ∃ q m : Nat, wr = w.drewN q ∧ g = n - m ∧ m < n ∧ kv = .int .i64 ((m : Int) + 1) ∧ Hid (∀ j, j < m → t j ≤ t (j + 1)))
  case atStart => exact ⟨0, 0, rfl, rfl, hn0, rfl, fun j hj => by omega⟩
  case round =>
    obtain ⟨q, m, rfl, rfl, hm, rfl, HL⟩ := hrel
    by_cases hkn : m + 1 < n
    · have hc0 := HC.out m (by omega)
      have hc1 := HC.out (m + 1) hkn
      have hi2 : (m : Int) + 1 < (n : Int) := by omega
      have hi3 : (m : Int) < (n : Int) := by omega
      obtain ⟨x, hx⟩ : ∃ x, x = t m := ⟨_, rfl⟩
      obtain ⟨y, hy⟩ : ∃ y, y = t (m + 1) := ⟨_, rfl⟩
      rw [← hx] at hc0
      rw [← hy] at hc1
      by_cases hgt : y < x
      · have hF : S = false := by
          cases S with
          | false => rfl
          | true => exact absurd (HS.out.1 rfl m hkn) (by omega)
        subst hF
        clear HS HL HC hx hy
        go_wp2
        go_quiet (fail)
        go_wp2
        go_ret
        exact ⟨rfl, by simp only [World.drewN_drewN]; exact ⟨_, rfl⟩⟩
      · have HL' : Hid (∀ j, j < m + 1 → t j ≤ t (j + 1)) := by
          intro j hj
          by_cases e : j = m
          · subst e; omega
          · exact HL.out j (by omega)
        clear HS HL HC hx hy
        go_wp2
        go_quiet (fail)
        go_wp2
        go_roundg (n - (m + 1))
        case measure => omega
        case rel => exact ⟨_, m + 1, rfl, rfl, hkn, by go_num, HL'⟩
    · have hT : S = true := HS.out.2 fun j hj => HL.out j (by omega)
      subst hT
      clear HS HL HC
      go_wp2
      go_ret
      exact ⟨rfl, _, rfl⟩

end Go.Proofs.Qxb6600653a
