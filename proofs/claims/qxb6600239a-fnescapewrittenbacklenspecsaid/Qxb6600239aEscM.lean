/- escModel answers escR; the law FnEscapeWrittenBackLenSpec -/
import Derived.Test.Qxb6600239aModel
import Derived.Test.Qxb6600239aEscLoc
namespace Go.Proofs.Qxb6600239a
open Go.RowKit
set_option linter.unusedVariables false

/-! ### shortEscapeRune -/
theorem short_two (c : Int) (w : World) (h : c = 98 ∨ c = 102 ∨ c = 110 ∨ c = 114 ∨ c = 116 ∨ c = 34 ∨ c = 92) :
    Calls Try.prog 26 #[.int .u8 c] w fun e w' => ∃ r : Int, e = .returned (.tuple #[.int .i32 r, .bool true]) ∧ w' = w ∧ (0 ≤ r ∧ r < 128 ∧ jw r = 2) := by
  have key : ∀ r : Int, (0 ≤ r ∧ r < 128 ∧ jw r = 2) → Calls Try.prog 26 #[.int .u8 c] w (fun e w' => e = .returned (.tuple #[.int .i32 r, .bool true]) ∧ w' = w) → Calls Try.prog 26 #[.int .u8 c] w fun e w' => ∃ r : Int, e = .returned (.tuple #[.int .i32 r, .bool true]) ∧ w' = w ∧ (0 ≤ r ∧ r < 128 ∧ jw r = 2) :=
    fun r hr hc => hc.mono fun e w' he => ⟨r, he.1, he.2, hr⟩
  rcases h with rfl | rfl | rfl | rfl | rfl | rfl | rfl
  · refine key 8 (by decide) ?_
    go_enter Try.func26, Try.ntmps26
    go_wp2
    go_ret2
    exact ⟨rfl, rfl⟩
  · refine key 12 (by decide) ?_
    go_enter Try.func26, Try.ntmps26
    go_wp2
    go_ret2
    exact ⟨rfl, rfl⟩
  · refine key 10 (by decide) ?_
    go_enter Try.func26, Try.ntmps26
    go_wp2
    go_ret2
    exact ⟨rfl, rfl⟩
  · refine key 13 (by decide) ?_
    go_enter Try.func26, Try.ntmps26
    go_wp2
    go_ret2
    exact ⟨rfl, rfl⟩
  · refine key 9 (by decide) ?_
    go_enter Try.func26, Try.ntmps26
    go_wp2
    go_ret2
    exact ⟨rfl, rfl⟩
  · refine key 34 (by decide) ?_
    go_enter Try.func26, Try.ntmps26
    go_wp2
    go_ret2
    exact ⟨rfl, rfl⟩
  · refine key 92 (by decide) ?_
    go_enter Try.func26, Try.ntmps26
    go_wp2
    go_ret2
    exact ⟨rfl, rfl⟩
theorem short_slash (w : World) : Calls Try.prog 26 #[.int .u8 47] w fun e w' => e = .returned (.tuple #[.int .i32 47, .bool true]) ∧ w' = w := by
  go_enter Try.func26, Try.ntmps26
  go_wp2
  go_ret2
  exact ⟨rfl, rfl⟩
theorem short_no (c : Int) (w : World) (h : ¬ (c = 98 ∨ c = 102 ∨ c = 110 ∨ c = 114 ∨ c = 116 ∨ c = 34 ∨ c = 92)) (h' : c ≠ 47) :
    Calls Try.prog 26 #[.int .u8 c] w fun e w' => e = .returned (.tuple #[.int .i32 0, .bool false]) ∧ w' = w := by
  have q : (c == 98) = false ∧ (c == 102) = false ∧ (c == 110) = false ∧ (c == 114) = false ∧ (c == 116) = false ∧ (c == 34) = false ∧ (c == 92) = false ∧ (c == 47) = false := by
    simp
    omega
  obtain ⟨q1, q2, q3, q4, q5, q6, q7, q8⟩ := q
  clear h h'
  go_enter Try.func26, Try.ntmps26
  go_wp2
  go_ret2
  exact ⟨rfl, rfl⟩

/-! ### escModel -/
set_option maxRecDepth 100000 in
set_option maxHeartbeats 1000000 in
theorem em_plain (b off n cap s : Nat) (t : Nat → Int) (w : World) (hn : n ≤ 1048576) (hs : s < n) (hc : ∀ j, j < n → w.cell? ⟨b, off + j, none⟩ = some (.int .u8 (t j))) (ht : ∀ j, 0 ≤ t j ∧ t j ≤ 255) (hu : n ≤ s + 1 ∨ t (s + 1) ≠ 117) :
    Calls Try.prog 15 #[.slice (some ⟨b, off, none⟩) n cap, .int .i64 s] w fun e w' => e = .returned (.tuple #[.int .i64 (escR t n s).1, .int .i64 (escR t n s).2]) ∧ w' = w := by
  by_cases h1 : n ≤ s + 1
  · have e : escR t n s = (0, n) := by simp [escR, h1]
    rw [e]
    clear hc ht e hu
    go_enter Try.func15, Try.ntmps15
    go_wp2
    go_ret2
    exact ⟨rfl, rfl⟩
  · have h117 : t (s + 1) ≠ 117 := by omega
    have hc1 := hc (s + 1) (by omega)
    have ht1 := ht (s + 1)
    have e : escR t n s = if t (s + 1) = 47 then (1, s + 2) else (2, s + 2) := by simp [escR, h1, h117]
    rw [e]
    obtain ⟨c, hcd⟩ : ∃ c, c = t (s + 1) := ⟨_, rfl⟩
    rw [← hcd] at hc1 ht1 h117 ⊢
    have h2 : (c != 117) = true := by simpa using h117
    clear hcd e hc ht hu h117
    by_cases h47 : c = 47
    · subst h47
      go_enter Try.func15, Try.ntmps15
      go_wp2_with (first | (go_at_call 26; refine (short_slash _).mono ?_; rintro e w2 ⟨rfl, rfl⟩) | (go_at_call 27; refine (jsonb_at 47 1 _ (by omega) (by omega) (by decide)).mono ?_; rintro e w2 ⟨rfl, rfl⟩))
      go_ret2
      exact ⟨by simp, rfl⟩
    · rw [if_neg h47]
      by_cases hk : c = 98 ∨ c = 102 ∨ c = 110 ∨ c = 114 ∨ c = 116 ∨ c = 34 ∨ c = 92
      · have HK := hideE hk
        clear hk h47
        go_enter Try.func15, Try.ntmps15
        go_wp2_with fail
        refine (short_two c _ HK.out).mono ?_
        rintro e w2 ⟨r, rfl, rfl, hr0, hr1, hr2⟩
        have HR2 := hideE hr2
        clear hr2
        go_wp2_with (go_at_call 27; refine (jsonb_at r 2 _ hr0 (by omega) HR2.out).mono ?_; rintro e w2 ⟨rfl, rfl⟩)
        go_ret2
        exact ⟨by simp, rfl⟩
      · have HK := hideE hk
        have H47 := hideE h47
        clear hk h47
        go_enter Try.func15, Try.ntmps15
        go_wp2_with (go_at_call 26; refine (short_no c _ HK.out H47.out).mono ?_; rintro e w2 ⟨rfl, rfl⟩)
        go_ret2
        exact ⟨by simp, rfl⟩

set_option maxRecDepth 100000 in
set_option maxHeartbeats 1000000 in
theorem em_bad (b off n cap s : Nat) (t : Nat → Int) (w : World) (hn : n ≤ 1048576) (hs : s < n) (hc : ∀ j, j < n → w.cell? ⟨b, off + j, none⟩ = some (.int .u8 (t j))) (ht : ∀ j, 0 ≤ t j ∧ t j ≤ 255) (h1 : ¬ n ≤ s + 1) (hu : t (s + 1) = 117) (hx : hexR t n (s + 2) = none) :
    Calls Try.prog 15 #[.slice (some ⟨b, off, none⟩) n cap, .int .i64 s] w fun e w' => e = .returned (.tuple #[.int .i64 (escR t n s).1, .int .i64 (escR t n s).2]) ∧ w' = w := by
  have e : escR t n s = (0, n) := by simp [escR, h1, hu, hx]
  rw [e]
  have hc1 := hc (s + 1) (by omega)
  rw [hu] at hc1
  have HC := hideE hc
  have HT := hideE ht
  have HX := hideE hx
  clear hc ht e hu hx
  go_enter Try.func15, Try.ntmps15
  go_wp2_with (go_at_call 28; refine (model4_bad b off n cap (s + 2) t _ hn (by omega) HC.out HT.out _ (by omega) HX.out).mono ?_; rintro e w' ⟨rfl, rfl⟩)
  go_ret2
  exact ⟨rfl, rfl⟩

set_option maxRecDepth 100000 in
set_option maxHeartbeats 2000000 in
theorem em_good (b off n cap s : Nat) (t : Nat → Int) (r : Int) (w : World) (hn : n ≤ 1048576) (hs : s < n) (hc : ∀ j, j < n → w.cell? ⟨b, off + j, none⟩ = some (.int .u8 (t j))) (ht : ∀ j, 0 ≤ t j ∧ t j ≤ 255) (h1 : ¬ n ≤ s + 1) (hu : t (s + 1) = 117) (hx : hexR t n (s + 2) = some r) :
    Calls Try.prog 15 #[.slice (some ⟨b, off, none⟩) n cap, .int .i64 s] w fun e w' => e = .returned (.tuple #[.int .i64 (escR t n s).1, .int .i64 (escR t n s).2]) ∧ w' = w := by
  have e : escR t n s = if (pre t n s r && low t n s) = true then (4, s + 12) else (wlen r, s + 6) := by simp [escR, h1, hu, hx]
  rw [e]
  have br := hexR_bd hx
  have hc1 := hc (s + 1) (by omega)
  rw [hu] at hc1
  obtain ⟨P, hP⟩ : ∃ P, P = pre t n s r := ⟨_, rfl⟩
  obtain ⟨L, hL⟩ : ∃ L, L = low t n s := ⟨_, rfl⟩
  rw [← hP, ← hL]
  have HP := hideE hP
  have HL := hideE hL
  have HC := hideE hc
  have HT := hideE ht
  have HX := hideE hx
  have bn : s + 6 ≤ n := by omega
  obtain ⟨br1, br2, _⟩ := br
  obtain ⟨R1, hR1⟩ : ∃ R : Int, R = if (P && L) = true then 4 else wlen r := ⟨_, rfl⟩
  obtain ⟨R2, hR2⟩ : ∃ R : Nat, R = if (P && L) = true then s + 12 else s + 6 := ⟨_, rfl⟩
  have e2 : (if (P && L) = true then ((4 : Int), s + 12) else (wlen r, s + 6)) = (R1, R2) := by rw [hR1, hR2]; split <;> rfl
  rw [e2]
  have HR1 := hideE hR1
  have HR2 := hideE hR2
  clear hc ht e hu hx hP hL hR1 hR2 e2
  go_enter Try.func15, Try.ntmps15
  go_upto_region 12 with (go_at_call 28; refine (model4_good b off n cap (s + 2) t _ hn (by omega) HC.out HT.out _ r (by omega) HX.out).mono ?_; rintro e w0 ⟨rfl, rfl⟩)
  go_cut [79] from 13 to 79 (fun v w' => w' = w0 ∧ v = .bool P)
  case first =>
    clear HR1 HR2 HL HX hc1
    have HPe : Hid (P = (decide (55296 ≤ r) && decide (r < 56320) && decide (s + 12 ≤ n) && (t (s + 6) == 92) && (t (s + 7) == 117))) := HP
    clear HP
    by_cases g1 : r < 55296
    · have k : Hid (P = false) := by show _ = _; rw [HPe.out, decide_eq_false (by omega)]; rfl
      clear HPe HC HT
      go_wp2
      go_meet
      case rel => exact ⟨rfl, by rw [k.out]⟩
    · by_cases g2 : 56320 ≤ r
      · have k : Hid (P = false) := by show _ = _; rw [HPe.out, decide_eq_false (p := r < 56320) (by omega)]; simp
        clear HPe HC HT
        go_wp2
        go_meet
        case rel => exact ⟨rfl, by rw [k.out]⟩
      · by_cases g3 : n < s + 12
        · have k : Hid (P = false) := by show _ = _; rw [HPe.out, decide_eq_false (p := s + 12 ≤ n) (by omega)]; simp
          clear HPe HC HT
          go_wp2
          go_meet
          case rel => exact ⟨rfl, by rw [k.out]⟩
        · have hc6 := HC.out (s + 6) (by omega)
          have hc7 := HC.out (s + 7) (by omega)
          have ht6 := HT.out (s + 6)
          have ht7 := HT.out (s + 7)
          by_cases g4 : (t (s + 6) == 92) = true
          · have k : Hid (P = (t (s + 7) == 117)) := by show _ = _; rw [HPe.out, g4, decide_eq_true (by omega), decide_eq_true (p := r < 56320) (by omega), decide_eq_true (p := s + 12 ≤ n) (by omega)]; rfl
            clear HPe HC HT
            go_wp2
            go_meet
            case rel => exact ⟨rfl, by rw [k.out]⟩
          · have g5 : (t (s + 6) == 92) = false := by simpa using g4
            have k : Hid (P = false) := by show _ = _; rw [HPe.out, g5]; simp
            clear HPe HC HT g4
            go_wp2
            go_meet
            case rel => exact ⟨rfl, by rw [k.out]⟩
  case rest =>
    obtain ⟨rfl, rfl⟩ := hcut
    go_upto_if 79 with fail
    by_cases hPL : (P && L) = true
    · have k1 : Hid (R1 = 4) := by show _ = _; rw [HR1.out, if_pos hPL]
      have k2 : Hid (R2 = s + 12) := by show _ = _; rw [HR2.out, if_pos hPL]
      simp only [Bool.and_eq_true] at hPL
      obtain ⟨rfl, rfl⟩ := hPL
      have hp := HP.out
      simp [pre] at hp
      have hl := HL.out
      unfold low at hl
      obtain ⟨lo, hlo⟩ : ∃ lo, hexR t n (s + 8) = some lo := by
        cases hq : hexR t n (s + 8) with
        | none => rw [hq] at hl; simp at hl
        | some lo => exact ⟨lo, rfl⟩
      rw [hlo] at hl
      simp at hl
      obtain ⟨hl1, hl2⟩ := hl
      have hn12 : s + 12 ≤ n := hp.1.1.2
      have hr1 : 55296 ≤ r := hp.1.1.1.1
      have hr2 : r < 56320 := hp.1.1.1.2
      have HLO := hideE hlo
      clear HP HL HR1 HR2 hp hlo HX
      go_wp2_with (first | (go_at_call 28; refine (model4_good b off n cap (s + 8) t _ hn (by omega) HC.out HT.out _ lo (by omega) HLO.out).mono ?_; rintro e w2 ⟨rfl, rfl⟩) | (go_at_call 27; refine (jsonb_at _ 4 _ (by omega) (by omega) (jw_big _ (by omega))).mono ?_; rintro e w2 ⟨rfl, rfl⟩))
      go_ret2
      exact ⟨ret_tuple2 (int_eq k1.out.symm) (by rw [k2.out]; go_num), rfl⟩
    · have k1 : Hid (R1 = wlen r) := by show _ = _; rw [HR1.out, if_neg hPL]
      have k2 : Hid (R2 = s + 6) := by show _ = _; rw [HR2.out, if_neg hPL]
      clear HR1 HR2
      go_cut [] from 80 to 105 (fun w' => w' = wc)
      case first =>
        cases P
        · clear HP HL HX HC HT k1 k2 hPL
          go_wp2
          go_meet
          case rel => exact rfl
        · have hL' : L = false := by simpa using hPL
          subst hL'
          have hp := HP.out
          simp [pre] at hp
          have hn12 : s + 12 ≤ n := hp.1.1.2
          have hl := HL.out
          unfold low at hl
          clear HP HL HX hp k1 k2 hPL
          cases hq : hexR t n (s + 8) with
          | none =>
            have HQ := hideE hq
            clear hq hl
            go_wp2_with (go_at_call 28; refine (model4_bad b off n cap (s + 8) t _ hn (by omega) HC.out HT.out _ (by omega) HQ.out).mono ?_; rintro e w2 ⟨rfl, rfl⟩)
            go_meet
            case rel => exact rfl
          | some lo =>
            rw [hq] at hl
            simp at hl
            have HQ := hideE hq
            clear hq
            by_cases g : lo < 56320
            · clear hl
              go_wp2_with (go_at_call 28; refine (model4_good b off n cap (s + 8) t _ hn (by omega) HC.out HT.out _ lo (by omega) HQ.out).mono ?_; rintro e w2 ⟨rfl, rfl⟩)
              go_meet
              case rel => exact rfl
            · have g2 : 57344 ≤ lo := hl (by omega)
              clear hl
              go_wp2_with (go_at_call 28; refine (model4_good b off n cap (s + 8) t _ hn (by omega) HC.out HT.out _ lo (by omega) HQ.out).mono ?_; rintro e w2 ⟨rfl, rfl⟩)
              go_meet
              case rel => exact rfl
      case rest =>
        obtain rfl := hcut
        clear HP HL HX HC HT hPL
        go_wp2_with (go_at_call 27; refine (jsonb_at r R1 _ br1 (by omega) (by rw [k1.out]; exact jw_eq r br2)).mono ?_; rintro e w2 ⟨rfl, rfl⟩)
        go_ret2
        exact ⟨ret_tuple2 rfl (by rw [k2.out]; go_num), rfl⟩

theorem em_any (b off n cap s : Nat) (t : Nat → Int) (R1 : Int) (R2 : Nat) (w : World) (hn : n ≤ 1048576) (hs : s < n) (hc : ∀ j, j < n → w.cell? ⟨b, off + j, none⟩ = some (.int .u8 (t j))) (ht : ∀ j, 0 ≤ t j ∧ t j ≤ 255) (h : escR t n s = (R1, R2)) :
    Calls Try.prog 15 #[.slice (some ⟨b, off, none⟩) n cap, .int .i64 s] w fun e w' => e = .returned (.tuple #[.int .i64 R1, .int .i64 R2]) ∧ w' = w := by
  have key : Calls Try.prog 15 #[.slice (some ⟨b, off, none⟩) n cap, .int .i64 s] w fun e w' => e = .returned (.tuple #[.int .i64 (escR t n s).1, .int .i64 (escR t n s).2]) ∧ w' = w := by
    by_cases h1 : n ≤ s + 1
    · exact em_plain b off n cap s t w hn hs hc ht (.inl h1)
    · by_cases hu : t (s + 1) = 117
      · cases hx : hexR t n (s + 2) with
        | none => exact em_bad b off n cap s t w hn hs hc ht h1 hu hx
        | some r => exact em_good b off n cap s t r w hn hs hc ht h1 hu hx
      · exact em_plain b off n cap s t w hn hs hc ht (.inr hu)
  rw [h] at key
  exact key

/-! ### the law -/
theorem zz13 (a : Option Addr) (n c : Nat) (v : Int) (w : World) (h : n ≤ 1048576) :
    Calls Try.prog 13 #[.slice a n c, .int .i64 v] w fun e w' => e = .returned (.bool true) ∧ w' = w := by
  go_enter Try.func13, Try.ntmps13
  go_wp2
  go_ret
  exact ⟨rfl, rfl⟩

set_option maxHeartbeats 1000000 in
theorem escSpec_main (x : Addr) (n cap s : Nat) (t : Nat → Int) (w : World) (hn : n ≤ 1048576) (hs : s < n) (hc : ∀ i, i < n → w.cell? (x.add i) = some (.int .u8 (t i))) (ht : ∀ j, 0 ≤ t j ∧ t j ≤ 255) :
    Calls Try.prog 4 #[.slice (some x) n cap, .int .i64 s] w fun e w' => e = .returned (.bool true) ∧ Below w.heap.size w w' := by
  obtain ⟨R1, hR1⟩ : ∃ R, (escR t n s).1 = R := ⟨_, rfl⟩
  obtain ⟨R2, hR2⟩ : ∃ R, (escR t n s).2 = R := ⟨_, rfl⟩
  have hE : escR t n s = (R1, R2) := by rw [← hR1, ← hR2]
  have HE := hideE hE
  have HC := hideE hc
  have HT := hideE ht
  have hml : n ≤ maxLen := by unfold maxLen; omega
  have HML := hideE hml
  clear hR1 hR2 hc ht hE hml
  go_enter Try.func4, Try.ntmps4
  go_wp2_with (first | (go_at_call 13; refine (zz13 _ _ _ _ _ hn).mono ?_; rintro e w0 ⟨rfl, rfl⟩) | fail)
  refine (copy_any x n cap t _ hn HC.out).mono ?_
  rintro e w1 ⟨rfl, c1, bel, l1⟩
  have C1 : Hid (∀ j, j < n → w1.cell? ⟨w0.heap.size, 0 + j, none⟩ = some (.int .u8 (t j))) := by intro j hj; rw [Nat.zero_add]; exact c1 j hj
  have BEL := hideE bel
  clear c1 bel HC
  go_wp2_with fail
  refine (zzesc _ 0 n n s t R1 R2 _ hn hs (Nat.le_refl _) HML.out C1.out HT.out HE.out).mono ?_
  rintro e w' ⟨rfl, rfl⟩
  go_wp2_with fail
  refine (em_any _ 0 n n s t R1 R2 _ hn hs C1.out HT.out HE.out).mono ?_
  rintro e w' ⟨rfl, rfl⟩
  go_wp2
  go_ret
  exact ⟨by simp, BEL.out⟩

end Go.Proofs.Qxb6600239a
