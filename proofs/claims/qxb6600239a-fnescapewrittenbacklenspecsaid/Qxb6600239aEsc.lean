/- escapeWrittenBackLen: the plain function, and the walk -/
import Derived.Test.Qxb6600239aHex
import Derived.Deep.DeepCutAuto
import Derived.Deep.CutBlock
namespace Go.Proofs.Qxb6600239a
open Go.RowKit
set_option linter.unusedVariables false

def isShort (r : Int) : Bool := r == 8 || r == 12 || r == 10 || r == 13 || r == 9 || r == 34 || r == 92
/-- the length of what is written of one character below 0x10000 -/
def wlen (r : Int) : Int := if isShort r = true then 2 else if r < 32 then 6 else if r < 128 then 1 else if r < 2048 then 2 else 3
/-- a high surrogate with an escape behind it -/
def pre (t : Nat → Int) (n s : Nat) (r : Int) : Bool := decide (55296 ≤ r) && decide (r < 56320) && decide (s + 12 ≤ n) && (t (s + 6) == 92) && (t (s + 7) == 117)
/-- .. and a low surrogate in it -/
def low (t : Nat → Int) (n s : Nat) : Bool := (hexR t n (s + 8)).isSome && decide (56320 ≤ (hexR t n (s + 8)).getD 0) && decide ((hexR t n (s + 8)).getD 0 < 57344)
/-- what escapeWrittenBackLen answers -/
def escR (t : Nat → Int) (n s : Nat) : Int × Nat :=
  if n ≤ s + 1 then (0, n)
  else if t (s + 1) = 117 then
    match hexR t n (s + 2) with
    | none => (0, n)
    | some r => if (pre t n s r && low t n s) = true then (4, s + 12) else (wlen r, s + 6)
  else if t (s + 1) = 47 then (1, s + 2) else (2, s + 2)

theorem hexR_bd {t : Nat → Int} {n i : Nat} {r : Int} (h : hexR t n i = some r) : 0 ≤ r ∧ r ≤ 65535 ∧ i + 4 ≤ n := by
  unfold hexR at h
  split at h
  · cases h
  · have := hexN_bd t i 4 r h
    simp at this
    omega

theorem hideE {p : Prop} (h : p) : Hid p := h

set_option maxRecDepth 100000 in
set_option maxHeartbeats 1000000 in
theorem esc_plain (b off n cap s : Nat) (t : Nat → Int) (w : World) (hn : n ≤ 1048576) (hs : s < n) (hcap : n ≤ cap) (hcm : cap ≤ maxLen) (hc : ∀ j, j < n → w.cell? ⟨b, off + j, none⟩ = some (.int .u8 (t j))) (ht : ∀ j, 0 ≤ t j ∧ t j ≤ 255) (hu : n ≤ s + 1 ∨ t (s + 1) ≠ 117) :
    Calls Try.prog 25 #[.slice (some ⟨b, off, none⟩) n cap, .int .i64 s] w fun e w' => e = .returned (.tuple #[.int .i64 (escR t n s).1, .int .i64 (escR t n s).2]) ∧ w' = w := by
  by_cases h1 : n ≤ s + 1
  · have e : escR t n s = (0, n) := by simp [escR, h1]
    rw [e]
    clear hc ht e hu
    go_enter Try.func25, Try.ntmps25
    go_wp2
    go_ret2
    exact ⟨rfl, rfl⟩
  · have h117 : t (s + 1) ≠ 117 := by omega
    have hc1 := hc (s + 1) (by omega)
    have ht1 := ht (s + 1)
    have e : escR t n s = if t (s + 1) = 47 then (1, s + 2) else (2, s + 2) := by simp [escR, h1, h117]
    rw [e]
    obtain ⟨c, hcd⟩ : ∃ c, c = t (s + 1) := ⟨_, rfl⟩
    rw [← hcd] at hc1 ht1 h117 ⊢
    have h2 : (c == 117) = false := by simpa using h117
    clear hcd e hc ht hu h117
    by_cases h47 : c = 47
    · subst h47
      go_enter Try.func25, Try.ntmps25
      go_wp2
      go_ret2
      exact ⟨by simp, rfl⟩
    · rw [if_neg h47]
      have h3 : (c == 47) = false := by simpa using h47
      clear h47
      go_enter Try.func25, Try.ntmps25
      go_wp2
      go_ret2
      exact ⟨by simp, rfl⟩

theorem hexR_bad (b off n cap i : Nat) (t : Nat → Int) (w : World) (hn : n ≤ 1048576) (hcap : n ≤ cap) (hcm : cap ≤ maxLen) (hi : i ≤ n) (hc : ∀ j, j < n → w.cell? ⟨b, off + j, none⟩ = some (.int .u8 (t j))) (ht : ∀ j, 0 ≤ t j ∧ t j ≤ 255) (I : Int) (hI : I = (i : Int)) (h : hexR t n i = none) :
    Calls Try.prog 24 #[.slice (some ⟨b, off, none⟩) n cap, .int .i64 I] w fun e w' => e = .returned (.tuple #[.int .i32 0, .bool false]) ∧ w' = w := by
  have := hexRune_any b off n cap i t w (by omega) hcap hcm hi hc ht
  rw [h] at this
  subst hI
  exact this
theorem hexR_good (b off n cap i : Nat) (t : Nat → Int) (w : World) (hn : n ≤ 1048576) (hcap : n ≤ cap) (hcm : cap ≤ maxLen) (hi : i ≤ n) (hc : ∀ j, j < n → w.cell? ⟨b, off + j, none⟩ = some (.int .u8 (t j))) (ht : ∀ j, 0 ≤ t j ∧ t j ≤ 255) (I r : Int) (hI : I = (i : Int)) (h : hexR t n i = some r) :
    Calls Try.prog 24 #[.slice (some ⟨b, off, none⟩) n cap, .int .i64 I] w fun e w' => e = .returned (.tuple #[.int .i32 r, .bool true]) ∧ w' = w := by
  have := hexRune_any b off n cap i t w (by omega) hcap hcm hi hc ht
  rw [h] at this
  subst hI
  exact this

set_option maxRecDepth 100000 in
set_option maxHeartbeats 1000000 in
theorem esc_bad (b off n cap s : Nat) (t : Nat → Int) (w : World) (hn : n ≤ 1048576) (hs : s < n) (hcap : n ≤ cap) (hcm : cap ≤ maxLen) (hc : ∀ j, j < n → w.cell? ⟨b, off + j, none⟩ = some (.int .u8 (t j))) (ht : ∀ j, 0 ≤ t j ∧ t j ≤ 255) (h1 : ¬ n ≤ s + 1) (hu : t (s + 1) = 117) (hx : hexR t n (s + 2) = none) :
    Calls Try.prog 25 #[.slice (some ⟨b, off, none⟩) n cap, .int .i64 s] w fun e w' => e = .returned (.tuple #[.int .i64 (escR t n s).1, .int .i64 (escR t n s).2]) ∧ w' = w := by
  have e : escR t n s = (0, n) := by simp [escR, h1, hu, hx]
  rw [e]
  have hc1 := hc (s + 1) (by omega)
  rw [hu] at hc1
  have HC := hideE hc
  have HT := hideE ht
  have HX := hideE hx
  clear hc ht e hu hx
  go_enter Try.func25, Try.ntmps25
  go_wp2_with (go_at_call 24; refine (hexR_bad b off n cap (s + 2) t _ hn hcap hcm (by omega) HC.out HT.out _ (by omega) HX.out).mono ?_; rintro e w' ⟨rfl, rfl⟩)
  go_ret2
  exact ⟨rfl, rfl⟩

set_option maxRecDepth 100000 in
set_option maxHeartbeats 2000000 in
theorem esc_good (b off n cap s : Nat) (t : Nat → Int) (r : Int) (w : World) (hn : n ≤ 1048576) (hs : s < n) (hcap : n ≤ cap) (hcm : cap ≤ maxLen) (hc : ∀ j, j < n → w.cell? ⟨b, off + j, none⟩ = some (.int .u8 (t j))) (ht : ∀ j, 0 ≤ t j ∧ t j ≤ 255) (h1 : ¬ n ≤ s + 1) (hu : t (s + 1) = 117) (hx : hexR t n (s + 2) = some r) :
    Calls Try.prog 25 #[.slice (some ⟨b, off, none⟩) n cap, .int .i64 s] w fun e w' => e = .returned (.tuple #[.int .i64 (escR t n s).1, .int .i64 (escR t n s).2]) ∧ w' = w := by
  have e : escR t n s = if (pre t n s r && low t n s) = true then (4, s + 12) else (wlen r, s + 6) := by simp [escR, h1, hu, hx]
  rw [e]
  have br := hexR_bd hx
  have hc1 := hc (s + 1) (by omega)
  rw [hu] at hc1
  obtain ⟨P, hP⟩ : ∃ P, P = pre t n s r := ⟨_, rfl⟩
  obtain ⟨L, hL⟩ : ∃ L, L = low t n s := ⟨_, rfl⟩
  rw [← hP, ← hL]
  have HP := hideE hP
  have HL := hideE hL
  have HC := hideE hc
  have HT := hideE ht
  have HX := hideE hx
  have bn : s + 6 ≤ n := by omega
  obtain ⟨br1, br2, _⟩ := br
  obtain ⟨R1, hR1⟩ : ∃ R : Int, R = if (P && L) = true then 4 else wlen r := ⟨_, rfl⟩
  obtain ⟨R2, hR2⟩ : ∃ R : Nat, R = if (P && L) = true then s + 12 else s + 6 := ⟨_, rfl⟩
  have e2 : (if (P && L) = true then ((4 : Int), s + 12) else (wlen r, s + 6)) = (R1, R2) := by rw [hR1, hR2]; split <;> rfl
  rw [e2]
  have HR1 := hideE hR1
  have HR2 := hideE hR2
  clear hc ht e hu hx hP hL hR1 hR2 e2
  go_enter Try.func25, Try.ntmps25
  go_upto_region 13 with (go_at_call 24; refine (hexR_good b off n cap (s + 2) t _ hn hcap hcm (by omega) HC.out HT.out _ r (by omega) HX.out).mono ?_; rintro e w0 ⟨rfl, rfl⟩)
  go_cut [73] from 12 to 73 (fun v w' => w' = w0 ∧ v = .bool P)
  case first =>
    clear HR1 HR2 HL HX hc1
    have HPe : Hid (P = (decide (55296 ≤ r) && decide (r < 56320) && decide (s + 12 ≤ n) && (t (s + 6) == 92) && (t (s + 7) == 117))) := HP
    clear HP
    by_cases g1 : r < 55296
    · have k : Hid (P = false) := by show _ = _; rw [HPe.out, decide_eq_false (by omega)]; rfl
      clear HPe HC HT
      go_wp2
      go_meet
      case rel => exact ⟨rfl, by rw [k.out]⟩
    · by_cases g2 : 56320 ≤ r
      · have k : Hid (P = false) := by show _ = _; rw [HPe.out, decide_eq_false (p := r < 56320) (by omega)]; simp
        clear HPe HC HT
        go_wp2
        go_meet
        case rel => exact ⟨rfl, by rw [k.out]⟩
      · by_cases g3 : n < s + 12
        · have k : Hid (P = false) := by show _ = _; rw [HPe.out, decide_eq_false (p := s + 12 ≤ n) (by omega)]; simp
          clear HPe HC HT
          go_wp2
          go_meet
          case rel => exact ⟨rfl, by rw [k.out]⟩
        · have hc6 := HC.out (s + 6) (by omega)
          have hc7 := HC.out (s + 7) (by omega)
          have ht6 := HT.out (s + 6)
          have ht7 := HT.out (s + 7)
          by_cases g4 : (t (s + 6) == 92) = true
          · have k : Hid (P = (t (s + 7) == 117)) := by show _ = _; rw [HPe.out, g4, decide_eq_true (by omega), decide_eq_true (p := r < 56320) (by omega), decide_eq_true (p := s + 12 ≤ n) (by omega)]; rfl
            clear HPe HC HT
            go_wp2
            go_meet
            case rel => exact ⟨rfl, by rw [k.out]⟩
          · have g5 : (t (s + 6) == 92) = false := by simpa using g4
            have k : Hid (P = false) := by show _ = _; rw [HPe.out, g5]; simp
            clear HPe HC HT g4
            go_wp2
            go_meet
            case rel => exact ⟨rfl, by rw [k.out]⟩
  case rest =>
    obtain ⟨rfl, rfl⟩ := hcut
    go_upto_if 73 with fail
    by_cases hPL : (P && L) = true
    · have k1 : Hid (R1 = 4) := by show _ = _; rw [HR1.out, if_pos hPL]
      have k2 : Hid (R2 = s + 12) := by show _ = _; rw [HR2.out, if_pos hPL]
      simp only [Bool.and_eq_true] at hPL
      obtain ⟨rfl, rfl⟩ := hPL
      have hp := HP.out
      simp [pre] at hp
      have hl := HL.out
      unfold low at hl
      obtain ⟨lo, hlo⟩ : ∃ lo, hexR t n (s + 8) = some lo := by
        cases hq : hexR t n (s + 8) with
        | none => rw [hq] at hl; simp at hl
        | some lo => exact ⟨lo, rfl⟩
      rw [hlo] at hl
      simp at hl
      obtain ⟨hl1, hl2⟩ := hl
      have hn12 : s + 12 ≤ n := hp.1.1.2
      have HLO := hideE hlo
      clear HP HL HR1 HR2 hp hlo HX
      go_wp2_with (go_at_call 24; refine (hexR_good b off n cap (s + 8) t _ hn hcap hcm (by omega) HC.out HT.out _ lo (by omega) HLO.out).mono ?_; rintro e w2 ⟨rfl, rfl⟩)
      go_ret2
      exact ⟨ret_tuple2 (int_eq k1.out.symm) (by rw [k2.out]; go_num), rfl⟩
    · have k1 : Hid (R1 = wlen r) := by show _ = _; rw [HR1.out, if_neg hPL]
      have k2 : Hid (R2 = s + 6) := by show _ = _; rw [HR2.out, if_neg hPL]
      clear HR1 HR2
      go_cut [] from 74 to 90 (fun w' => w' = wc)
      case first =>
        cases P
        · clear HP HL HX HC HT k1 k2 hPL
          go_wp2
          go_meet
          case rel => exact rfl
        · have hL' : L = false := by simpa using hPL
          subst hL'
          have hp := HP.out
          simp [pre] at hp
          have hn12 : s + 12 ≤ n := hp.1.1.2
          have hl := HL.out
          unfold low at hl
          clear HP HL HX hp k1 k2 hPL
          cases hq : hexR t n (s + 8) with
          | none =>
            have HQ := hideE hq
            clear hq hl
            go_wp2_with (go_at_call 24; refine (hexR_bad b off n cap (s + 8) t _ hn hcap hcm (by omega) HC.out HT.out _ (by omega) HQ.out).mono ?_; rintro e w2 ⟨rfl, rfl⟩)
            go_meet
            case rel => exact rfl
          | some lo =>
            rw [hq] at hl
            simp at hl
            have HQ := hideE hq
            clear hq
            by_cases g : lo < 56320
            · clear hl
              go_wp2_with (go_at_call 24; refine (hexR_good b off n cap (s + 8) t _ hn hcap hcm (by omega) HC.out HT.out _ lo (by omega) HQ.out).mono ?_; rintro e w2 ⟨rfl, rfl⟩)
              go_meet
              case rel => exact rfl
            · have g2 : 57344 ≤ lo := hl (by omega)
              clear hl
              go_wp2_with (go_at_call 24; refine (hexR_good b off n cap (s + 8) t _ hn hcap hcm (by omega) HC.out HT.out _ lo (by omega) HQ.out).mono ?_; rintro e w2 ⟨rfl, rfl⟩)
              go_meet
              case rel => exact rfl
      case rest =>
        obtain rfl := hcut
        clear HP HL HX HC HT hPL
        by_cases hsh : isShort r = true
        · have k3 : Hid (R1 = 2) := by show _ = _; rw [k1.out, wlen, if_pos hsh]
          have hcs : r = 8 ∨ r = 12 ∨ r = 10 ∨ r = 13 ∨ r = 9 ∨ r = 34 ∨ r = 92 := by
            simp [isShort] at hsh
            omega
          clear k1 hsh
          rcases hcs with rfl | rfl | rfl | rfl | rfl | rfl | rfl
          all_goals
            go_wp2
            go_ret2
            exact ⟨ret_tuple2 (int_eq k3.out.symm) (by rw [k2.out]; go_num), rfl⟩
        · have hcs : (r == 8) = false ∧ (r == 12) = false ∧ (r == 10) = false ∧ (r == 13) = false ∧ (r == 9) = false ∧ (r == 34) = false ∧ (r == 92) = false := by
            simp [isShort] at hsh
            simp
            omega
          obtain ⟨q1, q2, q3, q4, q5, q6, q7⟩ := hcs
          by_cases f1 : r < 32
          · have k3 : Hid (R1 = 6) := by show _ = _; rw [k1.out, wlen, if_neg hsh, if_pos f1]
            clear k1 hsh
            go_wp2
            go_ret2
            exact ⟨ret_tuple2 (int_eq k3.out.symm) (by rw [k2.out]; go_num), rfl⟩
          · by_cases f2 : r < 128
            · have k3 : Hid (R1 = 1) := by show _ = _; rw [k1.out, wlen, if_neg hsh, if_neg f1, if_pos f2]
              clear k1 hsh
              go_wp2
              go_ret2
              exact ⟨ret_tuple2 (int_eq k3.out.symm) (by rw [k2.out]; go_num), rfl⟩
            · by_cases f3 : r < 2048
              · have k3 : Hid (R1 = 2) := by show _ = _; rw [k1.out, wlen, if_neg hsh, if_neg f1, if_neg f2, if_pos f3]
                clear k1 hsh
                go_wp2
                go_ret2
                exact ⟨ret_tuple2 (int_eq k3.out.symm) (by rw [k2.out]; go_num), rfl⟩
              · have k3 : Hid (R1 = 3) := by show _ = _; rw [k1.out, wlen, if_neg hsh, if_neg f1, if_neg f2, if_neg f3]
                clear k1 hsh
                go_wp2
                go_ret2
                exact ⟨ret_tuple2 (int_eq k3.out.symm) (by rw [k2.out]; go_num), rfl⟩

/-- escapeWrittenBackLen, whole -/
theorem esc_any (b off n cap s : Nat) (t : Nat → Int) (w : World) (hn : n ≤ 1048576) (hs : s < n) (hcap : n ≤ cap) (hcm : cap ≤ maxLen) (hc : ∀ j, j < n → w.cell? ⟨b, off + j, none⟩ = some (.int .u8 (t j))) (ht : ∀ j, 0 ≤ t j ∧ t j ≤ 255) :
    Calls Try.prog 25 #[.slice (some ⟨b, off, none⟩) n cap, .int .i64 s] w fun e w' => e = .returned (.tuple #[.int .i64 (escR t n s).1, .int .i64 (escR t n s).2]) ∧ w' = w := by
  by_cases h1 : n ≤ s + 1
  · exact esc_plain b off n cap s t w hn hs hcap hcm hc ht (.inl h1)
  · by_cases hu : t (s + 1) = 117
    · cases hx : hexR t n (s + 2) with
      | none => exact esc_bad b off n cap s t w hn hs hcap hcm hc ht h1 hu hx
      | some r => exact esc_good b off n cap s t r w hn hs hcap hcm hc ht h1 hu hx
    · exact esc_plain b off n cap s t w hn hs hcap hcm hc ht (.inr hu)

end Go.Proofs.Qxb6600239a
