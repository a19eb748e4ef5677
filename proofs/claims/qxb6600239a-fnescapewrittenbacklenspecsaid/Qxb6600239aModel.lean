/- escModel and what it calls: each answers as the plain functions of Esc and Hex do -/
import Derived.Test.Qxb6600239aEsc
namespace Go.Proofs.Qxb6600239a
open Go.RowKit
set_option linter.unusedVariables false

/-! ### hexDigitValue -/
def loF (j : Nat) : Int := if j < 10 then 48 + j else 87 + j
def upF (j : Nat) : Int := if j < 10 then 48 + j else 55 + j
theorem lo_fin : ∀ n : Fin 16, ((({ data := #[48, 49, 50, 51, 52, 53, 54, 55, 56, 57, 97, 98, 99, 100, 101, 102] } : ByteArray)[n.val]'n.isLt).toNat : Int) = loF n.val := by decide
theorem up_fin : ∀ n : Fin 16, ((({ data := #[48, 49, 50, 51, 52, 53, 54, 55, 56, 57, 65, 66, 67, 68, 69, 70] } : ByteArray)[n.val]'n.isLt).toNat : Int) = upF n.val := by decide
theorem hexv_lo (k : Nat) (h : k < 16) : hexv (loF k) = some (k : Int) := by
  unfold hexv loF
  split
  · rw [if_pos (by omega)]; congr 1; omega
  · rw [if_neg (by omega), if_pos (by omega)]; congr 1; omega
theorem hexv_up (k : Nat) (h : k < 16) : hexv (upF k) = some (k : Int) := by
  unfold hexv upF
  split
  · rw [if_pos (by omega)]; congr 1; omega
  · rw [if_neg (by omega), if_neg (by omega), if_pos (by omega)]; congr 1; omega
theorem hexv_none {c : Int} (h : ∀ j, j < 16 → loF j ≠ c ∧ upF j ≠ c) : hexv c = none := by
  unfold hexv
  split
  · rename_i hc
    have := (h (c - 48).toNat (by omega)).1
    unfold loF at this
    rw [if_pos (by omega)] at this
    omega
  · split
    · rename_i hc
      have := (h (c - 87).toNat (by omega)).1
      unfold loF at this
      rw [if_neg (by omega)] at this
      omega
    · split
      · rename_i hc
        have := (h (c - 55).toNat (by omega)).2
        unfold upF at this
        rw [if_neg (by omega)] at this
        omega
      · rfl

set_option maxHeartbeats 1000000 in
theorem hexDigit_any (c : Int) (w : World) :
    Calls Try.prog 32 #[.int .u8 c] w fun e w' => e = .returned (.tuple #[.int .i32 ((hexv c).getD 0), .bool (hexv c).isSome]) ∧ w' = w := by
  obtain ⟨H, hH⟩ : ∃ H, H = hexv c := ⟨_, rfl⟩
  rw [← hH]
  have HH := hideE hH
  clear hH
  go_enter Try.func32, Try.ntmps32
  go_wp2
  go_loopg [4] 16 (fun g kv wr => wr = w ∧ ∃ k : Nat, g + k = 16 ∧ kv = .int .i64 (k : Int) ∧ Hid (∀ j, j < k → loF j ≠ c ∧ upF j ≠ c))
  case atStart => exact ⟨rfl, 0, rfl, rfl, fun j hj => by omega⟩
  case round =>
    obtain ⟨rfl, k, hg, rfl, HL⟩ := hrel
    by_cases hk : k < 16
    · have hx := lo_fin ⟨k, hk⟩
      have hy := up_fin ⟨k, hk⟩
      simp only at hx hy
      obtain ⟨x, hxe⟩ : ∃ x, loF k = x := ⟨_, rfl⟩
      obtain ⟨y, hye⟩ : ∃ y, upF k = y := ⟨_, rfl⟩
      rw [hxe] at hx
      rw [hye] at hy
      have HXE := hideE hxe
      have HYE := hideE hye
      have hki : (k : Int) < 16 := by omega
      clear hxe hye
      by_cases h1 : (x == c) = true
      · have hE : Hid (H = some (k : Int)) := by
          show _ = _
          have : x = c := by simpa using h1
          rw [HH.out, ← this, ← HXE.out]; exact hexv_lo k hk
        go_wp2
        go_ret2
        exact ⟨ret_tuple2 (by rw [hE.out]; rfl) (by rw [hE.out]; rfl), rfl⟩
      · have h1' : (x == c) = false := by simpa using h1
        by_cases h2 : (y == c) = true
        · have hE : Hid (H = some (k : Int)) := by
            show _ = _
            have : y = c := by simpa using h2
            rw [HH.out, ← this, ← HYE.out]; exact hexv_up k hk
          clear h1
          go_wp2
          go_ret2
          exact ⟨ret_tuple2 (by rw [hE.out]; rfl) (by rw [hE.out]; rfl), rfl⟩
        · have h2' : (y == c) = false := by simpa using h2
          have HL' : Hid (∀ j, j < k + 1 → loF j ≠ c ∧ upF j ≠ c) := by
            intro j hj
            by_cases e : j = k
            · subst e
              rw [HXE.out, HYE.out]
              exact ⟨by simpa using h1', by simpa using h2'⟩
            · exact HL.out j (by omega)
          clear h1 h2
          go_wp2
          go_roundg (gk - 1)
          case measure => omega
          case rel => exact ⟨rfl, k + 1, by omega, by go_num, HL'⟩
    · obtain rfl : k = 16 := by omega
      have hE : Hid (H = none) := by show _ = _; rw [HH.out]; exact hexv_none HL.out
      go_wp2
      go_ret2
      exact ⟨ret_tuple2 (by rw [hE.out]; rfl) (by rw [hE.out]; rfl), rfl⟩

theorem hexDigit_yes (c d : Int) (w : World) (h : hexv c = some d) : Calls Try.prog 32 #[.int .u8 c] w fun e w' => e = .returned (.tuple #[.int .i32 d, .bool true]) ∧ w' = w := by
  have := hexDigit_any c w
  rw [h] at this
  exact this
theorem hexDigit_no (c : Int) (w : World) (h : hexv c = none) : Calls Try.prog 32 #[.int .u8 c] w fun e w' => e = .returned (.tuple #[.int .i32 0, .bool false]) ∧ w' = w := by
  have := hexDigit_any c w
  rw [h] at this
  exact this

/-! ### modelHex4 -/
set_option maxHeartbeats 1000000 in
theorem model4_any (b off n cap i : Nat) (t : Nat → Int) (w : World) (hn : n ≤ 1048576) (hi : i ≤ n) (hc : ∀ j, j < n → w.cell? ⟨b, off + j, none⟩ = some (.int .u8 (t j))) (ht : ∀ j, 0 ≤ t j ∧ t j ≤ 255) :
    Calls Try.prog 28 #[.slice (some ⟨b, off, none⟩) n cap, .int .i64 i] w fun e w' => e = .returned (.tuple #[.int .i32 ((hexR t n i).getD 0), .bool (hexR t n i).isSome]) ∧ w' = w := by
  by_cases hlt : n < i + 4
  · have e : hexR t n i = none := by simp [hexR, hlt]
    rw [e]
    clear hc ht e
    go_enter Try.func28, Try.ntmps28
    go_wp2
    go_ret2
    exact ⟨rfl, rfl⟩
  · obtain ⟨H, hH⟩ : ∃ H, H = hexN t i 4 := ⟨_, rfl⟩
    have e : hexR t n i = H := by simp [hexR, hlt, hH]
    rw [e]
    have HH : Hid (H = hexN t i 4) := hH
    have HC := hideE hc
    have HT := hideE ht
    clear e hH hc ht
    go_enter Try.func28, Try.ntmps28
    go_wp2
    go_loopg [6, 7] 4 (fun g rv iv wr => wr = w ∧ ∃ (k : Nat) (r : Int), g + k = 4 ∧ iv = .int .i64 k ∧ rv = .int .i32 r ∧ Hid (hexN t i k = some r))
    case atStart => exact ⟨rfl, 0, 0, rfl, rfl, rfl, rfl⟩
    case round =>
      obtain ⟨rfl, k, r, hk, rfl, rfl, HR⟩ := hrel
      by_cases hk4 : k < 4
      · have hc1 := HC.out (i + k) (by omega)
        have ht1 := HT.out (i + k)
        obtain ⟨hr1, hr2⟩ := hexN_lt t i k r hk4 HR.out
        obtain ⟨c, hcd⟩ : ∃ c, c = t (i + k) := ⟨_, rfl⟩
        rw [← hcd] at hc1 ht1
        have HCD : Hid (c = t (i + k)) := hcd
        clear hcd HC HT
        cases hv : hexv c with
        | some d =>
          have bd := hexv_bd hv
          have HV := hideE hv
          clear hv
          go_wp2_with (go_at_call 32; refine (hexDigit_yes c d _ HV.out).mono ?_; rintro e w2 ⟨rfl, rfl⟩)
          go_roundg (gk - 1)
          case measure => omega
          case rel => exact ⟨rfl, k + 1, _, by omega, by go_num, rfl, hexN_step HR HCD HV.out⟩
        | none =>
          have HV := hideE hv
          have hE : Hid (H = none) := by
            show _ = _
            rw [HH.out]
            exact hexN_stop hk4 HCD hv
          clear hv
          go_wp2_with (go_at_call 32; refine (hexDigit_no c _ HV.out).mono ?_; rintro e w2 ⟨rfl, rfl⟩)
          go_ret2
          exact ⟨ret_tuple2 (by rw [hE.out]; rfl) (by rw [hE.out]; rfl), rfl⟩
      · obtain rfl : k = 4 := by omega
        have hv : Hid (H = some r) := by show _ = _; rw [HH.out]; exact HR.out
        go_wp2
        go_ret2
        exact ⟨ret_tuple2 (by rw [hv.out]; rfl) (by rw [hv.out]; rfl), rfl⟩
theorem model4_bad (b off n cap i : Nat) (t : Nat → Int) (w : World) (hn : n ≤ 1048576) (hi : i ≤ n) (hc : ∀ j, j < n → w.cell? ⟨b, off + j, none⟩ = some (.int .u8 (t j))) (ht : ∀ j, 0 ≤ t j ∧ t j ≤ 255) (I : Int) (hI : I = (i : Int)) (h : hexR t n i = none) :
    Calls Try.prog 28 #[.slice (some ⟨b, off, none⟩) n cap, .int .i64 I] w fun e w' => e = .returned (.tuple #[.int .i32 0, .bool false]) ∧ w' = w := by
  have := model4_any b off n cap i t w hn hi hc ht
  rw [h] at this
  subst hI
  exact this
theorem model4_good (b off n cap i : Nat) (t : Nat → Int) (w : World) (hn : n ≤ 1048576) (hi : i ≤ n) (hc : ∀ j, j < n → w.cell? ⟨b, off + j, none⟩ = some (.int .u8 (t j))) (ht : ∀ j, 0 ≤ t j ∧ t j ≤ 255) (I r : Int) (hI : I = (i : Int)) (h : hexR t n i = some r) :
    Calls Try.prog 28 #[.slice (some ⟨b, off, none⟩) n cap, .int .i64 I] w fun e w' => e = .returned (.tuple #[.int .i32 r, .bool true]) ∧ w' = w := by
  have := model4_any b off n cap i t w hn hi hc ht
  rw [h] at this
  subst hI
  exact this

/-! ### utf8LenByBits -/
def ulen (r : Int) : Int := if r < 128 then 1 else if r < 2048 then 2 else if r < 65536 then 3 else 4
/-- x is r without its last k bits -/
def Half (r x : Int) (k : Nat) : Prop := x * 2 ^ k ≤ r ∧ r < (x + 1) * 2 ^ k ∧ (k = 0 ∨ (2 : Int) ^ (k - 1) ≤ r)
theorem half_step {r x : Int} {k : Nat} (h : Half r x k) (hx : 0 < x) : Half r (x / 2) (k + 1) := by
  obtain ⟨h1, h2, h3⟩ := h
  have hp : (0 : Int) < 2 ^ k := Int.pow_pos (by omega)
  have e : (2 : Int) ^ (k + 1) = 2 ^ k * 2 := by rw [Int.pow_succ]
  refine ⟨?_, ?_, .inr ?_⟩
  · rw [e]
    have : (x / 2) * 2 ≤ x := by omega
    have := Int.mul_le_mul_of_nonneg_right this (Int.le_of_lt hp)
    have e2 : x / 2 * (2 ^ k * 2) = x / 2 * 2 * 2 ^ k := by rw [Int.mul_comm (2 ^ k) 2, Int.mul_assoc]
    omega
  · rw [e]
    have : x + 1 ≤ (x / 2 + 1) * 2 := by omega
    have := Int.mul_le_mul_of_nonneg_right this (Int.le_of_lt hp)
    have e2 : (x / 2 + 1) * (2 ^ k * 2) = (x / 2 + 1) * 2 * 2 ^ k := by rw [Int.mul_comm (2 ^ k) 2, Int.mul_assoc]
    omega
  · have : (1 : Int) * 2 ^ k ≤ x * 2 ^ k := Int.mul_le_mul_of_nonneg_right (by omega) (Int.le_of_lt hp)
    rw [Nat.add_sub_cancel]
    omega
theorem pow_mono {a b : Nat} (h : a ≤ b) : (2 : Int) ^ a ≤ 2 ^ b := by
  obtain ⟨d, rfl⟩ := Nat.exists_eq_add_of_le h
  rw [Int.pow_add]
  have h1 : (0 : Int) < 2 ^ a := Int.pow_pos (by omega)
  have h2 : (1 : Int) ≤ 2 ^ d := Int.pow_pos (by omega)
  have := Int.mul_le_mul_of_nonneg_left h2 (Int.le_of_lt h1)
  omega
theorem half_lt {r x : Int} {k : Nat} (h : Half r x k) (hx : 0 < x) (hr : r < 2147483648) : k ≤ 31 := by
  obtain ⟨h1, h2, h3⟩ := h
  have hp : (0 : Int) < 2 ^ k := Int.pow_pos (by omega)
  have : (1 : Int) * 2 ^ k ≤ x * 2 ^ k := Int.mul_le_mul_of_nonneg_right (by omega) (Int.le_of_lt hp)
  by_cases hk : k ≤ 31
  · exact hk
  · have := pow_mono (a := 32) (b := k) (by omega)
    omega
/-- at the end the count of bits tells the range -/
theorem half_end {r : Int} {k m : Nat} (h : Half r 0 k) : k ≤ m ↔ r < 2 ^ m := by
  obtain ⟨h1, h2, h3⟩ := h
  constructor
  · intro hk
    have := pow_mono hk
    omega
  · intro hr
    by_cases hk : k ≤ m
    · exact hk
    · rcases h3 with h3 | h3
      · omega
      · have := pow_mono (a := m) (b := k - 1) (by omega)
        omega

set_option maxHeartbeats 1000000 in
theorem utf8_any (r : Int) (w : World) (h0 : 0 ≤ r) (h1 : r < 2147483648) :
    Calls Try.prog 31 #[.int .i32 r] w fun e w' => e = .returned (.int .i64 (ulen r)) ∧ w' = w := by
  obtain ⟨R, hR⟩ : ∃ R, R = ulen r := ⟨_, rfl⟩
  rw [← hR]
  have HR := hideE hR
  clear hR
  go_enter Try.func31, Try.ntmps31
  go_wp2
  go_loopg [3, 4] r.toNat (fun g bv xv wr => wr = w ∧ ∃ (k : Nat) (x : Int), g = x.toNat ∧ 0 ≤ x ∧ x < 2147483648 ∧ k ≤ 32 ∧ bv = .int .i64 (k : Int) ∧ xv = .int .i32 x ∧ Hid (Half r x k))
  case atStart => exact ⟨rfl, 0, r, rfl, h0, h1, by omega, rfl, rfl, by show _ ≤ _; simp, by show _ < _; simp; omega, .inl rfl⟩
  case round =>
    obtain ⟨rfl, k, x, rfl, hx0, hx1, hk, rfl, rfl, HF⟩ := hrel
    by_cases hx : 0 < x
    · have hk' := half_lt HF.out hx h1
      go_wp2
      go_roundg (x / 2).toNat
      case measure => omega
      case rel => exact ⟨rfl, k + 1, x / 2, rfl, by omega, by omega, by omega, by go_num, rfl, half_step HF.out hx⟩
    · obtain rfl : x = 0 := by omega
      have e7 := half_end (m := 7) HF.out
      have e11 := half_end (m := 11) HF.out
      have e16 := half_end (m := 16) HF.out
      simp only [show (2 : Int) ^ 7 = 128 from rfl, show (2 : Int) ^ 11 = 2048 from rfl, show (2 : Int) ^ 16 = 65536 from rfl] at e7 e11 e16
      have hRe : Hid (R = if r < 128 then 1 else if r < 2048 then 2 else if r < 65536 then 3 else 4) := HR
      clear HR HF
      by_cases c7 : k ≤ 7
      · have k1 : Hid (R = 1) := by show _ = _; rw [hRe.out, if_pos (e7.1 c7)]
        clear hRe e7 e11 e16
        go_wp2
        go_ret
        exact ⟨by rw [k1.out]; rfl, rfl⟩
      · by_cases c11 : k ≤ 11
        · have k1 : Hid (R = 2) := by show _ = _; rw [hRe.out, if_neg (fun h => c7 (e7.2 h)), if_pos (e11.1 c11)]
          clear hRe e7 e11 e16
          go_wp2
          go_ret
          exact ⟨by rw [k1.out]; rfl, rfl⟩
        · by_cases c16 : k ≤ 16
          · have k1 : Hid (R = 3) := by show _ = _; rw [hRe.out, if_neg (fun h => c7 (e7.2 h)), if_neg (fun h => c11 (e11.2 h)), if_pos (e16.1 c16)]
            clear hRe e7 e11 e16
            go_wp2
            go_ret
            exact ⟨by rw [k1.out]; rfl, rfl⟩
          · have k1 : Hid (R = 4) := by show _ = _; rw [hRe.out, if_neg (fun h => c7 (e7.2 h)), if_neg (fun h => c11 (e11.2 h)), if_neg (fun h => c16 (e16.2 h))]
            clear hRe e7 e11 e16
            go_wp2
            go_ret
            exact ⟨by rw [k1.out]; rfl, rfl⟩

/-! ### jsonbWrittenLen -/
def jw (r : Int) : Int := if isShort r = true then 2 else if r < 32 then 6 else ulen r
theorem jw_eq (r : Int) (h : r ≤ 65535) : jw r = wlen r := by
  unfold jw wlen ulen
  split
  · rfl
  · split
    · rfl
    · split
      · rfl
      · split
        · rfl
        · rw [if_pos (by omega)]
theorem jw_big (r : Int) (h : 65536 ≤ r) : jw r = 4 := by
  unfold jw ulen
  have : isShort r = false := by simp [isShort]; omega
  rw [if_neg (by rw [this]; simp), if_neg (by omega), if_neg (by omega), if_neg (by omega), if_neg (by omega)]

set_option maxHeartbeats 1000000 in
theorem jsonb_any (r : Int) (w : World) (h0 : 0 ≤ r) (h1 : r < 2147483648) :
    Calls Try.prog 27 #[.int .i32 r] w fun e w' => e = .returned (.int .i64 (jw r)) ∧ w' = w := by
  by_cases hsh : isShort r = true
  · have e : jw r = 2 := by unfold jw; rw [if_pos hsh]
    rw [e]
    have hcs : r = 8 ∨ r = 12 ∨ r = 10 ∨ r = 13 ∨ r = 9 ∨ r = 34 ∨ r = 92 := by
      simp [isShort] at hsh
      omega
    clear e hsh
    rcases hcs with rfl | rfl | rfl | rfl | rfl | rfl | rfl
    all_goals
      go_enter Try.func27, Try.ntmps27
      go_wp2
      go_ret
      exact ⟨rfl, rfl⟩
  · have hcs : (r == 8) = false ∧ (r == 12) = false ∧ (r == 10) = false ∧ (r == 13) = false ∧ (r == 9) = false ∧ (r == 34) = false ∧ (r == 92) = false := by
      simp [isShort] at hsh
      simp
      omega
    obtain ⟨q1, q2, q3, q4, q5, q6, q7⟩ := hcs
    by_cases f1 : r < 32
    · have e : jw r = 6 := by unfold jw; rw [if_neg hsh, if_pos f1]
      rw [e]
      clear e hsh
      go_enter Try.func27, Try.ntmps27
      go_wp2
      go_ret
      exact ⟨rfl, rfl⟩
    · have e : jw r = ulen r := by unfold jw; rw [if_neg hsh, if_neg f1]
      rw [e]
      clear e hsh
      go_enter Try.func27, Try.ntmps27
      go_wp2_with (go_at_call 31; refine (utf8_any r _ h0 h1).mono ?_; rintro e w2 ⟨rfl, rfl⟩)
      go_ret
      exact ⟨rfl, rfl⟩
theorem jsonb_at (r v : Int) (w : World) (h0 : 0 ≤ r) (h1 : r < 2147483648) (h : jw r = v) :
    Calls Try.prog 27 #[.int .i32 r] w fun e w' => e = .returned (.int .i64 v) ∧ w' = w := by
  subst h
  exact jsonb_any r w h0 h1

end Go.Proofs.Qxb6600239a
