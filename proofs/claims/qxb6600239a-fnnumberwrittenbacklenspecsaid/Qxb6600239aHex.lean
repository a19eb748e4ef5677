import Derived.Test.Qxb6600239aBase
import Derived.Deep.LoopGhost
import Derived.Deep.Light
namespace Go.Proofs.Qxb6600239a
open Go.RowKit

/-- one hexadecimal digit -/
def hexv (c : Int) : Option Int :=
  if 48 ≤ c ∧ c ≤ 57 then some (c - 48) else if 97 ≤ c ∧ c ≤ 102 then some (c - 87) else if 65 ≤ c ∧ c ≤ 70 then some (c - 55) else none
/-- the first k hexadecimal digits from place i on -/
def hexN (t : Nat → Int) (i : Nat) : Nat → Option Int
  | 0 => some 0
  | k + 1 => (hexN t i k).bind fun r => (hexv (t (i + k))).map fun d => r * 16 + d
/-- what hexRune answers -/
def hexR (t : Nat → Int) (n i : Nat) : Option Int := if n < i + 4 then none else hexN t i 4

theorem ret_tuple2 {a b c d : Value} (h : a = c) (k : b = d) : Ending.returned (.tuple #[a, b]) = .returned (.tuple #[c, d]) := by rw [h, k]

theorem hexv_bd {c d : Int} (h : hexv c = some d) : 0 ≤ d ∧ d ≤ 15 := by
  unfold hexv at h
  split at h
  · simp at h; omega
  · split at h
    · simp at h; omega
    · split at h
      · simp at h; omega
      · cases h

theorem hexN_bd (t : Nat → Int) (i : Nat) : ∀ k r, hexN t i k = some r → 0 ≤ r ∧ r < 16 ^ k
  | 0, r, h => by simp [hexN] at h; omega
  | k + 1, r, h => by
    simp [hexN, Option.bind_eq_some_iff] at h
    obtain ⟨r0, h0, d, hd, rfl⟩ := h
    have b0 := hexN_bd t i k r0 h0
    have b1 := hexv_bd hd
    have : (16 : Int) ^ (k + 1) = 16 ^ k * 16 := by rw [Int.pow_succ]
    omega

theorem hexN_none (t : Nat → Int) (i : Nat) (k : Nat) (h : hexN t i k = none) : ∀ m, hexN t i (k + m) = none
  | 0 => h
  | m + 1 => by
    have := hexN_none t i k h m
    show (hexN t i (k + m)).bind _ = none
    rw [this]; rfl

theorem hexN_lt (t : Nat → Int) (i k : Nat) (r : Int) (hk : k < 4) (h : hexN t i k = some r) : 0 ≤ r ∧ r ≤ 4095 := by
  have b0 := hexN_bd t i k r h
  have : k = 0 ∨ k = 1 ∨ k = 2 ∨ k = 3 := by omega
  rcases this with rfl | rfl | rfl | rfl <;> simp at b0 <;> omega

theorem hexN_step {t : Nat → Int} {i k : Nat} {r c d : Int} (hr : Hid (hexN t i k = some r)) (hc : Hid (c = t (i + k))) (h : hexv c = some d) : Hid (hexN t i (k + 1) = some (r * 16 + d)) := by
  show hexN t i (k + 1) = _
  simp only [hexN, hr.out, ← hc.out, h, Option.bind_some, Option.map_some]
theorem hexN_stop {t : Nat → Int} {i k : Nat} {c : Int} (hk : k < 4) (hc : Hid (c = t (i + k))) (h : hexv c = none) : hexN t i 4 = none := by
  have e : hexN t i (k + 1) = none := by
    simp only [hexN, ← hc.out, h, Option.map_none]
    cases hexN t i k <;> rfl
  have := hexN_none t i (k + 1) e (3 - k)
  rwa [show k + 1 + (3 - k) = 4 by omega] at this
theorem or16 (r d : Int) (h1 : 0 ≤ r) (h2 : r ≤ 4095) (h3 : 0 ≤ d) (h4 : d < 16) : bits .or .i32 (r * 16) d = r * 16 + d :=
  bits_join .i32 31 (by decide) wraps_i32 4 _ _ (by omega) (by omega) (by omega) h3 h4 (by omega)
theorem int_eq {k : IntKind} {a b : Int} (h : a = b) : Value.int k a = .int k b := by rw [h]

set_option maxHeartbeats 400000 in
theorem hexRune_any (b off n cap i : Nat) (t : Nat → Int) (w : World) (hn : n ≤ 1048580) (hcap : n ≤ cap) (hcm : cap ≤ maxLen) (hi : i ≤ n) (hc : ∀ j, j < n → w.cell? ⟨b, off + j, none⟩ = some (.int .u8 (t j))) (ht : ∀ j, 0 ≤ t j ∧ t j ≤ 255) :
    Calls Try.prog 24 #[.slice (some ⟨b, off, none⟩) n cap, .int .i64 i] w fun e w' => e = .returned (.tuple #[.int .i32 ((hexR t n i).getD 0), .bool (hexR t n i).isSome]) ∧ w' = w := by
  unfold maxLen at hcm
  by_cases hlt : n < i + 4
  · have e : hexR t n i = none := by simp [hexR, hlt]
    rw [e]
    go_enter Try.func24, Try.ntmps24
    go_wp2
    go_ret2
    exact ⟨rfl, rfl⟩
  · obtain ⟨H, hH⟩ : ∃ H, H = hexN t i 4 := ⟨_, rfl⟩
    have e : hexR t n i = H := by simp [hexR, hlt, hH]
    rw [e]
    have HH : Hid (H = hexN t i 4) := hH
    clear e hH
    go_enter Try.func24, Try.ntmps24
    go_wp2
    rw [show i + 4 - i = 4 from by omega]
    go_loopg [6, 20] 4 (fun g rv iv wr => wr = w ∧ ∃ (k : Nat) (r : Int), g + k = 4 ∧ iv = .int .i64 k ∧ rv = .int .i32 r ∧ Hid (hexN t i k = some r))
    case atStart => exact ⟨rfl, 0, 0, rfl, rfl, rfl, rfl⟩
    case round =>
      obtain ⟨rfl, k, r, hk, rfl, rfl, HR⟩ := hrel
      by_cases hk4 : k < 4
      · have hc1 : wr.cell? ⟨b, off + i + k, none⟩ = some (.int .u8 (t (i + k))) := by rw [Nat.add_assoc]; exact hc (i + k) (by omega)
        have ht1 := ht (i + k)
        obtain ⟨hr1, hr2⟩ := hexN_lt t i k r hk4 HR.out
        obtain ⟨c, hcd⟩ : ∃ c, c = t (i + k) := ⟨_, rfl⟩
        rw [← hcd] at hc1 ht1
        have HC : Hid (c = t (i + k)) := hcd
        have HK : Hid (gk + k = 4) := hk
        clear hcd hc ht hk
        have hcases : (48 ≤ c ∧ c ≤ 57) ∨ (97 ≤ c ∧ c ≤ 102) ∨ (65 ≤ c ∧ c ≤ 70) ∨ c < 48 ∨ (57 < c ∧ c < 65) ∨ (70 < c ∧ c < 97) ∨ 102 < c := by omega
        rcases hcases with ⟨h1, h2⟩ | ⟨h1, h2⟩ | ⟨h1, h2⟩ | h1 | ⟨h1, h2⟩ | ⟨h1, h2⟩ | h1
        · have hv : Hid (hexv c = some (c - 48)) := by show _ = _; simp [hexv, h1, h2]
          go_wp2
          go_roundg (gk - 1)
          case measure => have := HK.out; omega
          case rel => exact ⟨rfl, k + 1, _, by have := HK.out; omega, by go_num, int_eq (or16 r _ hr1 hr2 (by omega) (by omega)), hexN_step HR HC hv.out⟩
        · have hv : Hid (hexv c = some (c - 97 + 10)) := by
            show _ = _
            unfold hexv
            rw [if_neg (by omega), if_pos ⟨h1, h2⟩]
            congr 1; omega
          go_wp2
          go_roundg (gk - 1)
          case measure => have := HK.out; omega
          case rel => exact ⟨rfl, k + 1, _, by have := HK.out; omega, by go_num, int_eq (or16 r _ hr1 hr2 (by omega) (by omega)), hexN_step HR HC hv.out⟩
        · have hv : Hid (hexv c = some (c - 65 + 10)) := by
            show _ = _
            unfold hexv
            rw [if_neg (by omega), if_neg (by omega), if_pos ⟨h1, h2⟩]
            congr 1; omega
          go_wp2
          go_roundg (gk - 1)
          case measure => have := HK.out; omega
          case rel => exact ⟨rfl, k + 1, _, by have := HK.out; omega, by go_num, int_eq (or16 r _ hr1 hr2 (by omega) (by omega)), hexN_step HR HC hv.out⟩
        all_goals
          have hv : Hid (H = none) := by
            show _ = _
            rw [HH.out]
            exact hexN_stop hk4 HC (by unfold hexv; rw [if_neg (by omega), if_neg (by omega), if_neg (by omega)])
          go_wp2
          go_ret2
          exact ⟨ret_tuple2 (by rw [hv.out]; rfl) (by rw [hv.out]; rfl), rfl⟩
      · obtain rfl : k = 4 := by omega
        have hv : Hid (H = some r) := by show _ = _; rw [HH.out]; exact HR.out
        go_wp2
        go_ret2
        exact ⟨ret_tuple2 (by rw [hv.out]; rfl) (by rw [hv.out]; rfl), rfl⟩

end Go.Proofs.Qxb6600239a
