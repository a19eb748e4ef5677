import Derived.Test.Qxb6600239aHex
import Derived.Test.Qxb6600239aNum
import Derived.Deep.DeepCutAuto
import Derived.Deep.CutBlock
namespace Go.Proofs.Qxb6600239a
open Go.RowKit

theorem hideN {p : Prop} (h : p) : Hid p := h

/-- one round of a loop over digits: where it goes on -/
theorem re_on {t : Nat → Int} {n k B : Nat} {c : Int} (hk : k < n) (hc : Hid (c = t k)) (h1 : 48 ≤ c) (h2 : c ≤ 57) (h : Hid (re t n k = B)) : Hid (re t n (k + 1) = B) := by
  show _ = _
  rw [← re_step hk (by rw [← hc.out]; exact dig_iff.2 ⟨h1, h2⟩)]
  exact h.out
theorem re_off {t : Nat → Int} {n k B : Nat} {c : Int} (hc : Hid (c = t k)) (h1 : c < 48 ∨ 57 < c) (h : Hid (re t n k = B)) : k = B := by
  have := h.out
  rw [re_stop (by rintro ⟨_, hd⟩; rw [← hc.out, dig_iff] at hd; omega)] at this
  exact this
theorem re_end {t : Nat → Int} {n k B : Nat} (hk : ¬ k < n) (h : Hid (re t n k = B)) : k = B := by
  have := h.out
  rw [re_stop (by rintro ⟨h, _⟩; exact hk h)] at this
  exact this

theorem int_of_nat {k : IntKind} {a b : Nat} (h : a = b) : Value.int k (a : Int) = .int k (b : Int) := by rw [h]

/-- the place of the first digit that is not zero, one digit on -/
theorem fst_keep {t : Nat → Int} {P : List Int} {a j k : Nat} {c f : Int} (hk : Hid (k = a + j)) (hc : Hid (c = t k)) (hf : Hid (f = fst (P ++ sg t a j))) (h : 0 ≤ f ∨ c = 48) : Hid (f = fst (P ++ sg t a (j + 1))) := by
  show _ = _
  rw [sg_succ, ← List.append_assoc, fst_snoc, ← hf.out, ← hk.out, ← hc.out, if_neg (by omega)]
theorem fst_new {t : Nat → Int} {P : List Int} {a j k p : Nat} {c f : Int} (hk : Hid (k = a + j)) (hc : Hid (c = t k)) (hf : Hid (f = fst (P ++ sg t a j))) (hp : P.length = p) (h : f < 0) (h' : 48 < c) : Hid ((p : Int) + j = fst (P ++ sg t a (j + 1))) := by
  show _ = _
  rw [sg_succ, ← List.append_assoc, fst_snoc, ← hf.out, ← hk.out, ← hc.out, if_pos (by omega), List.length_append, sg_length, hp]
  omega
theorem kj_succ {k a j : Nat} (h : Hid (k = a + j)) : Hid (k + 1 = a + (j + 1)) := by
  show _ = _
  rw [h.out]; omega

theorem ev_on {t : Nat → Int} {a j k : Nat} {c e e' : Int} (hk : Hid (k = a + j)) (hc : Hid (c = t k)) (he : Hid (e = ev (sg t a j))) (h : e' = min (e * 10 + (c - 48)) 1099511627776) : Hid (e' = ev (sg t a (j + 1))) := by
  show _ = _
  rw [sg_succ, ev_snoc, ← he.out, ← hk.out, ← hc.out, h]
  rfl

set_option maxRecDepth 100000 in
set_option maxHeartbeats 4000000 in
theorem num_any (b off n cap s : Nat) (t : Nat → Int) (w : World) (hn : n ≤ 1048576) (hs : s < n) (hc : ∀ j, j < n → w.cell? ⟨b, off + j, none⟩ = some (.int .u8 (t j))) (ht : ∀ j, 0 ≤ t j ∧ t j ≤ 255) :
    Calls Try.prog 29 #[.slice (some ⟨b, off, none⟩) n cap, .int .i64 s] w fun e w' => e = .returned (.tuple #[.int .i64 (numN t n s), .int .i64 (pF t n s)]) ∧ w' = w := by
  obtain ⟨R1, hR1⟩ : ∃ R, R = numN t n s := ⟨_, rfl⟩
  obtain ⟨R2, hR2⟩ : ∃ R, R = pF t n s := ⟨_, rfl⟩
  rw [← hR1, ← hR2]
  have HR1 : Hid (R1 = numN t n s) := hR1
  have HR2 : Hid (R2 = pF t n s) := hR2
  clear hR1 hR2
  have hc0 := hc s hs
  have ht0 := ht s
  have HC := hideN hc
  have HT := hideN ht
  obtain ⟨c0, hc0d⟩ : ∃ c, c = t s := ⟨_, rfl⟩
  rw [← hc0d] at hc0 ht0
  obtain ⟨N, hN⟩ : ∃ N, (c0 == 45) = N := ⟨_, rfl⟩
  have HN : Hid (N = neg t s) := by show _ = _; rw [← hN, hc0d]; rfl
  obtain ⟨A, hA⟩ : ∃ A, A = pA t s := ⟨_, rfl⟩
  obtain ⟨B, hB⟩ : ∃ B, B = pB t n s := ⟨_, rfl⟩
  obtain ⟨D, hD⟩ : ∃ D, D = pD t n s := ⟨_, rfl⟩
  obtain ⟨HP, hHP⟩ : ∃ HP, HP = hasP t n s := ⟨_, rfl⟩
  obtain ⟨HE, hHE⟩ : ∃ HE, HE = hasE t n s := ⟨_, rfl⟩
  obtain ⟨F1, hF1⟩ : ∃ F, F = fst (digW t n s) := ⟨_, rfl⟩
  obtain ⟨F2, hF2⟩ : ∃ F, F = fst (digW t n s ++ digF t n s) := ⟨_, rfl⟩
  obtain ⟨m1, hm1⟩ : ∃ m, m = (digW t n s).length := ⟨_, rfl⟩
  obtain ⟨m2, hm2⟩ : ∃ m, m = (digF t n s).length := ⟨_, rfl⟩
  obtain ⟨X, hX⟩ : ∃ X, X = expo t n s := ⟨_, rfl⟩
  have bA := pA_bd t s
  have bB := pB_bd t n s hs
  have bC := pC_bd t n s hs
  have bD := pD_bd t n s hs
  rw [← hA] at bA bB
  rw [← hB] at bB bC
  have bD' : B ≤ D ∧ D ≤ n := by rw [hD]; omega
  clear bD bC
  have hA' := hideN hA
  have hB' := hideN hB
  have hD' := hideN hD
  have hHP' := hideN hHP
  have hHE' := hideN hHE
  have hF1' := hideN hF1
  have hF2' := hideN hF2
  have hm1' := hideN hm1
  have hm2' := hideN hm2
  have hX' := hideN hX
  have hc0d' := hideN hc0d
  clear hA hB hD hHP hHE hF1 hF2 hm1 hm2 hX hc0d hc ht
  go_enter Try.func29, Try.ntmps29
  go_upto_if 23 with fail
  go_cut [6] from 17 to 25 (fun i wc => wc = w ∧ i = .int .i64 (A : Int))
  case first =>
    have hAe : Hid (A = if N = true then s + 1 else s) := by show _ = _; rw [hA'.out, HN.out]; rfl
    clear HR1 HR2 HC HT hA' hB' hD' hHP' hHE' hF1' hF2' hm1' hm2' hX' hc0d' HN
    cases N
    · go_wp2
      go_meet
      case rel => exact ⟨rfl, int_of_nat (by rw [hAe.out]; rfl)⟩
    · go_wp2
      go_meet
      case rel => exact ⟨rfl, by rw [hAe.out]; rfl⟩
  case rest =>
    obtain ⟨rfl, rfl⟩ := hcut
    go_upto_block 0 with fail
    go_cut [6, 8, 9] from 26 to 57 (fun i f m w' => w' = wc ∧ i = .int .i64 (B : Int) ∧ f = .int .i64 F1 ∧ m = .int .i64 (m1 : Int))
    case first =>
      have hBe : Hid (re t n A = B) := by show _ = _; rw [hA'.out, hB'.out]; rfl
      have hme : Hid (m1 = B - A) := by show _ = _; rw [hm1'.out, hA'.out, hB'.out, digW, sg_length]
      have hFe : Hid (F1 = fst ([] ++ sg t A (B - A))) := by show _ = _; rw [hF1'.out, hA'.out, hB'.out]; rfl
      clear HR1 HR2 hA' hB' hD' hHP' hHE' hF1' hF2' hm1' hm2' hX' hc0d' HN hc0 ht0 hN bD'
      go_wp2_with fail
      go_loopg [6, 8, 9] (n - A) (fun g i f m wr => wr = wc ∧ ∃ (k j : Nat) (f0 : Int), g = n - k ∧ k ≤ n ∧ j ≤ k ∧ -1 ≤ f0 ∧ i = .int .i64 (k : Int) ∧ f = .int .i64 f0 ∧ m = .int .i64 (j : Int) ∧ Hid (k = A + j) ∧ Hid (f0 = fst ([] ++ sg t A j)) ∧ Hid (re t n k = B))
      case atStart => exact ⟨rfl, A, 0, -1, rfl, by omega, by omega, by omega, rfl, rfl, rfl, rfl, rfl, hBe⟩
      case round =>
        obtain ⟨rfl, k, j, f0, rfl, hk, hj, hf0, rfl, rfl, rfl, HK, HF, HB⟩ := hrel
        by_cases hkn : k < n
        · have hc1 := HC.out k hkn
          have ht1 := HT.out k
          obtain ⟨c, hcd⟩ : ∃ c, c = t k := ⟨_, rfl⟩
          rw [← hcd] at hc1 ht1
          have HCD := hideN hcd
          clear hcd
          have hcases : c < 48 ∨ 57 < c ∨ (48 ≤ c ∧ c ≤ 57) := by omega
          rcases hcases with h1 | h1 | ⟨h1, h2⟩
          · go_wp2
            go_meet
            case rel =>
              have e := re_off HCD (.inl h1) HB
              exact ⟨rfl, int_of_nat e, by rw [hFe.out, ← e, HK.out, Nat.add_sub_cancel_left]; exact int_eq HF.out, int_of_nat (by rw [hme.out, ← e, HK.out]; omega)⟩
          · go_wp2
            go_meet
            case rel =>
              have e := re_off HCD (.inr h1) HB
              exact ⟨rfl, int_of_nat e, by rw [hFe.out, ← e, HK.out, Nat.add_sub_cancel_left]; exact int_eq HF.out, int_of_nat (by rw [hme.out, ← e, HK.out]; omega)⟩
          · by_cases hf : f0 < 0
            · by_cases hz : c ≤ 48
              · go_wp2
                go_roundg (n - (k + 1))
                case measure => omega
                case rel => exact ⟨rfl, k + 1, j + 1, f0, rfl, by omega, by omega, hf0, by go_num, rfl, by go_num, kj_succ HK, fst_keep HK HCD HF (.inr (by omega)), re_on hkn HCD h1 h2 HB⟩
              · have hz' : 48 < c := by omega
                go_wp2
                go_roundg (n - (k + 1))
                case measure => omega
                case rel => exact ⟨rfl, k + 1, j + 1, (j : Int), rfl, by omega, by omega, by omega, by go_num, rfl, by go_num, kj_succ HK, by have := fst_new (p := 0) HK HCD HF rfl hf hz'; simpa using this, re_on hkn HCD h1 h2 HB⟩
            · go_wp2
              go_roundg (n - (k + 1))
              case measure => omega
              case rel => exact ⟨rfl, k + 1, j + 1, f0, rfl, by omega, by omega, hf0, by go_num, rfl, by go_num, kj_succ HK, fst_keep HK HCD HF (.inl (by omega)), re_on hkn HCD h1 h2 HB⟩
        · go_wp2
          go_meet
          case rel =>
            have e := re_end hkn HB
            exact ⟨rfl, int_of_nat e, by rw [hFe.out, ← e, HK.out, Nat.add_sub_cancel_left]; exact int_eq HF.out, int_of_nat (by rw [hme.out, ← e, HK.out]; omega)⟩
    case rest =>
      obtain ⟨rfl, rfl, rfl, rfl⟩ := hcut
      go_upto_region 12 with fail
      go_cut [68] from 58 to 68 (fun v w' => w' = wc ∧ v = .bool HP)
      case first =>
        have hPe : Hid (HP = (decide (B < n) && (t B == 46))) := by show _ = _; rw [hHP'.out, hB'.out]; rfl
        clear HR1 HR2 hA' hB' hD' hHP' hHE' hF1' hF2' hm1' hm2' hX' hc0d' HN hc0 ht0 hN bD'
        by_cases hBn : B < n
        · have hc1 := HC.out B hBn
          have ht1 := HT.out B
          have hPe' : Hid (HP = (t B == 46)) := by show _ = _; rw [hPe.out]; simp [hBn]
          go_wp2
          go_meet
          case rel => exact ⟨rfl, by rw [hPe'.out]⟩
        · have hPe' : Hid (HP = false) := by show _ = _; rw [hPe.out]; simp [hBn]
          go_wp2
          go_meet
          case rel => exact ⟨rfl, by rw [hPe'.out]⟩
      case rest =>
        obtain ⟨rfl, rfl⟩ := hcut
        go_upto_if 68 with fail
        have bF1 := fst_bd (digW t n s)
        rw [← hF1'.out, ← hm1'.out] at bF1
        have bm1 : m1 ≤ n := by rw [hm1'.out, digW, sg_length, ← hB'.out]; omega
        go_cut [6, 8, 10] from 69 to 104 (fun i f m w' => w' = wc ∧ i = .int .i64 (D : Int) ∧ f = .int .i64 F2 ∧ m = .int .i64 (m2 : Int))
        case first =>
          cases HP
          · have e1 : Hid (D = B) := by show _ = _; rw [hD'.out, hB'.out, pD, ← hHP'.out]; rfl
            have e2 : Hid (F2 = F1) := by show _ = _; rw [hF2'.out, hF1'.out, digF, ← hHP'.out]; simp
            have e3 : Hid (m2 = 0) := by show _ = _; rw [hm2'.out, digF, ← hHP'.out]; rfl
            clear HR1 HR2 hA' hB' hD' hHP' hHE' hF1' hF2' hm1' hm2' hX' hc0d' HN hc0 ht0 hN HC HT
            go_wp2
            go_meet
            case rel => exact ⟨rfl, int_of_nat e1.out.symm, int_eq e2.out.symm, by rw [e3.out]; rfl⟩
          · have hBn : B < n := by rw [hB'.out]; exact hasP_lt t n s hHP'.out.symm
            have hCe : Hid (pC t n s = B + 1) := by show _ = _; rw [pC, ← hHP'.out, ← hB'.out]; rfl
            have hDe : Hid (re t n (B + 1) = D) := by show _ = _; rw [hD'.out, pD, ← hHP'.out, hCe.out]; rfl
            have hme : Hid (m2 = D - (B + 1)) := by show _ = _; rw [hm2'.out, digF, ← hHP'.out, hCe.out, ← hD'.out]; exact sg_length _ _ _
            obtain ⟨P, hP⟩ : ∃ P, P = digW t n s := ⟨_, rfl⟩
            have hPl : Hid (P.length = m1) := by show _ = _; rw [hP, hm1'.out]
            have hFs : Hid (F1 = fst P) := by show _ = _; rw [hP, hF1'.out]
            have hFe : Hid (F2 = fst (P ++ sg t (B + 1) (D - (B + 1)))) := by show _ = _; rw [hF2'.out, hP, digF, ← hHP'.out, hCe.out, ← hD'.out]; rfl
            clear hP HR1 HR2 hA' hB' hD' hHP' hHE' hF1' hF2' hm1' hm2' hX' hc0d' HN hc0 ht0 hN bD' hCe
            go_wp2_with fail
            go_loopg [6, 8, 10] (n - (B + 1)) (fun g i f m wr => wr = wc ∧ ∃ (k j : Nat) (f0 : Int), g = n - k ∧ k ≤ n ∧ j ≤ k ∧ -1 ≤ f0 ∧ i = .int .i64 (k : Int) ∧ f = .int .i64 f0 ∧ m = .int .i64 (j : Int) ∧ Hid (k = B + 1 + j) ∧ Hid (f0 = fst (P ++ sg t (B + 1) j)) ∧ Hid (re t n k = D))
            case atStart => exact ⟨rfl, B + 1, 0, F1, rfl, by omega, by omega, by omega, by go_num, rfl, rfl, rfl, by rw [sg_zero, List.append_nil]; exact hFs, hDe⟩
            case round =>
              obtain ⟨rfl, k, j, f0, rfl, hk, hj, hf0, rfl, rfl, rfl, HK, HF, HB⟩ := hrel
              by_cases hkn : k < n
              · have hc1 := HC.out k hkn
                have ht1 := HT.out k
                obtain ⟨c, hcd⟩ : ∃ c, c = t k := ⟨_, rfl⟩
                rw [← hcd] at hc1 ht1
                have HCD := hideN hcd
                clear hcd
                have hcases : c < 48 ∨ 57 < c ∨ (48 ≤ c ∧ c ≤ 57) := by omega
                rcases hcases with h1 | h1 | ⟨h1, h2⟩
                · go_wp2
                  go_meet
                  case rel =>
                    have e := re_off HCD (.inl h1) HB
                    exact ⟨rfl, int_of_nat e, by rw [hFe.out, ← e, HK.out, Nat.add_sub_cancel_left]; exact int_eq HF.out, int_of_nat (by rw [hme.out, ← e, HK.out]; omega)⟩
                · go_wp2
                  go_meet
                  case rel =>
                    have e := re_off HCD (.inr h1) HB
                    exact ⟨rfl, int_of_nat e, by rw [hFe.out, ← e, HK.out, Nat.add_sub_cancel_left]; exact int_eq HF.out, int_of_nat (by rw [hme.out, ← e, HK.out]; omega)⟩
                · by_cases hf : f0 < 0
                  · by_cases hz : c ≤ 48
                    · go_wp2
                      go_roundg (n - (k + 1))
                      case measure => omega
                      case rel => exact ⟨rfl, k + 1, j + 1, f0, rfl, by omega, by omega, hf0, by go_num, rfl, by go_num, kj_succ HK, fst_keep HK HCD HF (.inr (by omega)), re_on hkn HCD h1 h2 HB⟩
                    · have hz' : 48 < c := by omega
                      go_wp2
                      go_roundg (n - (k + 1))
                      case measure => omega
                      case rel => exact ⟨rfl, k + 1, j + 1, _, rfl, by omega, by omega, by omega, by go_num, rfl, by go_num, kj_succ HK, fst_new (p := m1) HK HCD HF hPl.out hf hz', re_on hkn HCD h1 h2 HB⟩
                  · go_wp2
                    go_roundg (n - (k + 1))
                    case measure => omega
                    case rel => exact ⟨rfl, k + 1, j + 1, f0, rfl, by omega, by omega, hf0, by go_num, rfl, by go_num, kj_succ HK, fst_keep HK HCD HF (.inl (by omega)), re_on hkn HCD h1 h2 HB⟩
              · go_wp2
                go_meet
                case rel =>
                  have e := re_end hkn HB
                  exact ⟨rfl, int_of_nat e, by rw [hFe.out, ← e, HK.out, Nat.add_sub_cancel_left]; exact int_eq HF.out, int_of_nat (by rw [hme.out, ← e, HK.out]; omega)⟩
        case rest =>
          obtain ⟨rfl, rfl, rfl, rfl⟩ := hcut
          go_upto_region 20 with fail
          go_cut [122] from 105 to 122 (fun v w' => w' = wc ∧ v = .bool HE)
          case first =>
            have hEe : Hid (HE = (decide (D < n) && (t D == 101 || t D == 69))) := by show _ = _; rw [hHE'.out, hD'.out]; rfl
            clear HR1 HR2 hA' hB' hD' hHP' hHE' hF1' hF2' hm1' hm2' hX' hc0d' HN hc0 ht0 hN
            by_cases hDn : D < n
            · have hc1 := HC.out D hDn
              have ht1 := HT.out D
              by_cases he : (t D == 101) = true
              · have hEe' : Hid (HE = true) := by show _ = _; rw [hEe.out, he]; simp [hDn]
                clear hEe
                go_wp2
                go_meet
                case rel => exact ⟨rfl, by rw [hEe'.out]⟩
              · have he' : (t D == 101) = false := by simpa using he
                have hEe' : Hid (HE = (t D == 69)) := by show _ = _; rw [hEe.out, he']; simp [hDn]
                clear hEe he
                go_wp2
                go_meet
                case rel => exact ⟨rfl, by rw [hEe'.out]⟩
            · have hEe' : Hid (HE = false) := by show _ = _; rw [hEe.out]; simp [hDn]
              go_wp2
              go_meet
              case rel => exact ⟨rfl, by rw [hEe'.out]⟩
          case rest =>
            obtain ⟨rfl, rfl⟩ := hcut
            go_upto_if 122 with fail
            have bF := pF_bd t n s hs
            have bX := expo_bd t n s
            rw [← hX'.out] at bX
            rw [← HR2.out, ← hD'.out] at bF
            have bm2 : m2 ≤ n := by
              rw [hm2'.out, digF]
              split
              · rw [sg_length, ← hD'.out]; omega
              · simp
            have bF2 := fst_bd (digW t n s ++ digF t n s)
            rw [List.length_append, ← hF2'.out, ← hm1'.out, ← hm2'.out] at bF2
            have hRN : Hid (R1 = if 147457 < numLen N m1 m2 F2 X then (R2 : Int) - s else numLen N m1 m2 F2 X) := by
              show _ = _
              rw [HR1.out, HN.out, hm1'.out, hm2'.out, hF2'.out, hX'.out, HR2.out]; rfl
            go_cut [6, 11] from 123 to 182 (fun i x w' => w' = wc ∧ i = .int .i64 (R2 : Int) ∧ x = .int .i64 X)
            case first =>
              clear hRN HR1 hA' hB' hHP' hF1' hF2' hm1' hm2' hc0d' HN hc0 ht0 hN
              cases HE
              · have e1 : Hid (R2 = D) := by show _ = _; rw [HR2.out, pF, ← hHE'.out, hD'.out]; rfl
                have e2 : Hid (X = 0) := by show _ = _; rw [hX'.out, expo, ← hHE'.out]; rfl
                clear HR2 hD' hHE' hX' HC HT
                go_wp2
                go_meet
                case rel => exact ⟨rfl, int_of_nat e1.out.symm, int_eq e2.out.symm⟩
              · have hDn : D < n := by rw [hD'.out]; exact hasE_lt t n s hHE'.out.symm
                obtain ⟨HS, hHS⟩ : ∃ H, H = hasS t n s := ⟨_, rfl⟩
                obtain ⟨NE, hNE⟩ : ∃ H, H = (hasS t n s && t (pD t n s + 1) == 45) := ⟨_, rfl⟩
                obtain ⟨E, hE⟩ : ∃ E, E = pE t n s := ⟨_, rfl⟩
                obtain ⟨V, hV⟩ : ∃ V, V = ev (digE t n s) := ⟨_, rfl⟩
                have bE := pE_bd t n s hHE'.out.symm
                rw [← hE, ← hD'.out] at bE
                have bV := ev_bd _ (digE_ge t n s hHE'.out.symm) 0 (by omega) (by omega)
                change 0 ≤ ev _ ∧ ev _ ≤ _ at bV
                rw [← hV] at bV
                have hSe : Hid (HS = (decide (D + 1 < n) && (t (D + 1) == 43 || t (D + 1) == 45))) := by show _ = _; rw [hHS, hD'.out]; rfl
                have hEe : Hid (E = if HS = true then D + 2 else D + 1) := by show _ = _; rw [hE, hD'.out, hHS]; rfl
                have hNe : Hid (NE = (HS && t (D + 1) == 45)) := by show _ = _; rw [hNE, hD'.out, hHS]
                obtain ⟨SG, hSG⟩ : ∃ SG : Int, SG = if NE = true then -1 else 1 := ⟨_, rfl⟩
                have hSGe := hideN hSG
                clear hSG
                have hXe : Hid (X = V * (if NE = true then -1 else 1)) := by show _ = _; rw [hX'.out, expo, ← hHE'.out, hV, sgnE, ← hNE]; rfl
                have hRe : Hid (re t n E = R2) := by show _ = _; rw [HR2.out, pF, ← hHE'.out, hE]; rfl
                have hVe : Hid (V = ev (sg t E (R2 - E))) := by show _ = _; rw [hV, digE, HR2.out, hE]
                clear hHS hNE hE hV HR2 hD' hHE' hX'
                go_upto_region 23 with fail
                go_cut [142] from 123 to 142 (fun v w' => w' = wc ∧ v = .bool HS)
                case first =>
                  clear hEe hNe hXe hRe hVe
                  by_cases hDn1 : D + 1 < n
                  · have hc1 := HC.out (D + 1) hDn1
                    have ht1 := HT.out (D + 1)
                    by_cases he : (t (D + 1) == 43) = true
                    · have hEe' : Hid (HS = true) := by show _ = _; rw [hSe.out, he]; simp [hDn1]
                      clear hSe
                      go_wp2
                      go_meet
                      case rel => exact ⟨rfl, by rw [hEe'.out]⟩
                    · have he' : (t (D + 1) == 43) = false := by simpa using he
                      have hEe' : Hid (HS = (t (D + 1) == 45)) := by show _ = _; rw [hSe.out, he']; simp [hDn1]
                      clear hSe he
                      go_wp2
                      go_meet
                      case rel => exact ⟨rfl, by rw [hEe'.out]⟩
                  · have hEe' : Hid (HS = false) := by show _ = _; rw [hSe.out]; simp [hDn1]
                    clear hSe
                    go_wp2
                    go_meet
                    case rel => exact ⟨rfl, by rw [hEe'.out]⟩
                case rest =>
                  obtain ⟨rfl, rfl⟩ := hcut
                  go_upto_if 142 with fail
                  go_cut [6, 12] from 143 to 149 (fun i x w' => w' = wc ∧ i = .int .i64 (E : Int) ∧ x = .int .i64 SG)
                  case first =>
                    cases HS
                    · have e1 : Hid (E = D + 1) := by show _ = _; rw [hEe.out]; rfl
                      have e2 : Hid (NE = false) := by show _ = _; rw [hNe.out]; rfl
                      clear hSe hEe hNe hXe hRe hVe
                      go_wp2
                      go_meet
                      case rel => exact ⟨rfl, by rw [e1.out]; go_num, by rw [hSGe.out, e2.out]; rfl⟩
                    · have e1 : Hid (E = D + 2) := by show _ = _; rw [hEe.out]; rfl
                      have hDn1 : D + 1 < n := by have := hSe.out; simp at this; exact this.1
                      have hc1 := HC.out (D + 1) hDn1
                      have ht1 := HT.out (D + 1)
                      by_cases he : (t (D + 1) == 45) = true
                      · have e2 : Hid (NE = true) := by show _ = _; rw [hNe.out, he]; rfl
                        clear hSe hEe hNe hXe hRe hVe
                        go_wp2
                        go_meet
                        case rel => exact ⟨rfl, by rw [e1.out]; go_num, by rw [hSGe.out, e2.out]; rfl⟩
                      · have he' : (t (D + 1) == 45) = false := by simpa using he
                        have e2 : Hid (NE = false) := by show _ = _; rw [hNe.out, he']; rfl
                        clear hSe hEe hNe hXe hRe hVe he
                        go_wp2
                        go_meet
                        case rel => exact ⟨rfl, by rw [e1.out]; go_num, by rw [hSGe.out, e2.out]; rfl⟩
                  case rest =>
                    obtain ⟨rfl, rfl, rfl⟩ := hcut
                    go_upto_block 4 with fail
                    go_cut [6, 11] from 150 to 179 (fun i x w' => w' = wc ∧ i = .int .i64 (R2 : Int) ∧ x = .int .i64 V)
                    case first =>
                      clear hSe hEe hNe hXe
                      go_wp2_with fail
                      go_loopg [6, 11] (n - E) (fun g i x wr => wr = wc ∧ ∃ (k j : Nat) (e0 : Int), g = n - k ∧ k ≤ n ∧ j ≤ k ∧ 0 ≤ e0 ∧ e0 ≤ 1099511627776 ∧ i = .int .i64 (k : Int) ∧ x = .int .i64 e0 ∧ Hid (k = E + j) ∧ Hid (e0 = ev (sg t E j)) ∧ Hid (re t n k = R2))
                      case atStart => exact ⟨rfl, E, 0, 0, rfl, by omega, by omega, by omega, by omega, rfl, rfl, rfl, rfl, hRe⟩
                      case round =>
                        obtain ⟨rfl, k, j, e0, rfl, hk, hj, he0, he1, rfl, rfl, HK, HV, HB⟩ := hrel
                        by_cases hkn : k < n
                        · have hc1 := HC.out k hkn
                          have ht1 := HT.out k
                          obtain ⟨c, hcd⟩ : ∃ c, c = t k := ⟨_, rfl⟩
                          rw [← hcd] at hc1 ht1
                          have HCD := hideN hcd
                          clear hcd
                          have hcases : c < 48 ∨ 57 < c ∨ (48 ≤ c ∧ c ≤ 57) := by omega
                          rcases hcases with h1 | h1 | ⟨h1, h2⟩
                          · go_wp2
                            go_meet
                            case rel =>
                              have e := re_off HCD (.inl h1) HB
                              exact ⟨rfl, int_of_nat e, by rw [hVe.out, ← e, HK.out, Nat.add_sub_cancel_left]; exact int_eq HV.out⟩
                          · go_wp2
                            go_meet
                            case rel =>
                              have e := re_off HCD (.inr h1) HB
                              exact ⟨rfl, int_of_nat e, by rw [hVe.out, ← e, HK.out, Nat.add_sub_cancel_left]; exact int_eq HV.out⟩
                          · by_cases hmin : 1099511627776 < e0 * 10 + (c - 48)
                            · go_wp2
                              go_roundg (n - (k + 1))
                              case measure => omega
                              case rel => exact ⟨rfl, k + 1, j + 1, _, rfl, by omega, by omega, by omega, by omega, by go_num, rfl, kj_succ HK, ev_on HK HCD HV (by omega), re_on hkn HCD h1 h2 HB⟩
                            · go_wp2
                              go_roundg (n - (k + 1))
                              case measure => omega
                              case rel => exact ⟨rfl, k + 1, j + 1, _, rfl, by omega, by omega, by omega, by omega, by go_num, rfl, kj_succ HK, ev_on HK HCD HV (by omega), re_on hkn HCD h1 h2 HB⟩
                        · go_wp2
                          go_meet
                          case rel =>
                            have e := re_end hkn HB
                            exact ⟨rfl, int_of_nat e, by rw [hVe.out, ← e, HK.out, Nat.add_sub_cancel_left]; exact int_eq HV.out⟩
                    case rest =>
                      obtain ⟨rfl, rfl, rfl⟩ := hcut
                      clear hSe hEe hNe hRe hVe HC HT
                      cases NE
                      · have e2 : Hid (X = V) := by show _ = _; rw [hXe.out]; simp
                        have e3 : SG = 1 := by rw [hSGe.out]; rfl
                        subst e3
                        clear hSGe
                        clear hXe
                        go_wp2
                        go_meet
                        case rel => exact ⟨rfl, rfl, by rw [e2.out]⟩
                      · have e2 : Hid (X = -V) := by show _ = _; rw [hXe.out]; simp
                        have e3 : SG = -1 := by rw [hSGe.out]; rfl
                        subst e3
                        clear hSGe
                        clear hXe
                        go_wp2
                        go_meet
                        case rel => exact ⟨rfl, rfl, by rw [e2.out]⟩
            case rest =>
              obtain ⟨rfl, rfl, rfl⟩ := hcut
              clear HR1 HR2 hA' hB' hHP' hF1' hF2' hm1' hm2' hc0d' HN hc0 ht0 hN hD' hHE' hX' HC HT
              obtain ⟨SC, hSC⟩ : ∃ SC : Int, SC = max ((m2 : Int) - X) 0 := ⟨_, rfl⟩
              have bSC : 0 ≤ SC ∧ SC ≤ 1099512676352 := by omega
              obtain ⟨N0, hN0⟩ : ∃ N0 : Int, N0 = if 0 ≤ F2 then (if 0 < (m1 : Int) - 1 - F2 + X then (m1 : Int) - 1 - F2 + X + 1 else 1) + (if N = true then 1 else 0) else 1 := ⟨_, rfl⟩
              have bN0 : 1 ≤ N0 ∧ N0 ≤ 1099512676353 := by
                rw [hN0]
                split
                · split <;> split <;> omega
                · omega
              obtain ⟨N1, hN1⟩ : ∃ N1 : Int, N1 = N0 + if 0 < SC then 1 + SC else 0 := ⟨_, rfl⟩
              have hRN' : Hid (R1 = if 147457 < N1 then (R2 : Int) - s else N1) := by
                show _ = _
                rw [hRN.out, hN1, hN0, hSC]; rfl
              have HSC := hideN hSC
              have HN0 := hideN hN0
              have HN1 := hideN hN1
              clear hSC hN0 hN1 hRN
              go_upto_region 32 with fail
              go_cut [14] from 183 to 189 (fun v w' => w' = wc ∧ v = .int .i64 SC)
              case first =>
                by_cases hneg : (m2 : Int) - X < 0
                · have e : Hid (SC = 0) := by show _ = _; rw [HSC.out]; omega
                  go_wp2
                  go_meet
                  case rel => exact ⟨rfl, int_eq e.out.symm⟩
                · have e : Hid (SC = (m2 : Int) - X) := by show _ = _; rw [HSC.out]; omega
                  go_wp2
                  go_meet
                  case rel => exact ⟨rfl, int_eq e.out.symm⟩
              case rest =>
                obtain ⟨rfl, rfl⟩ := hcut
                go_upto_if 191 with fail
                go_cut [15] from 190 to 204 (fun v w' => w' = wc ∧ v = .int .i64 N0)
                case first =>
                  clear HN1 hRN' HSC
                  by_cases hf : 0 ≤ F2
                  · by_cases hp : 0 < (m1 : Int) - 1 - F2 + X
                    · cases N
                      · have e : Hid (N0 = (m1 : Int) - 1 - F2 + X + 1) := by show _ = _; rw [HN0.out]; simp [hf, hp]
                        clear HN0
                        go_wp2
                        go_meet
                        case rel => exact ⟨rfl, int_eq e.out.symm⟩
                      · have e : Hid (N0 = (m1 : Int) - 1 - F2 + X + 1 + 1) := by show _ = _; rw [HN0.out]; simp [hf, hp]
                        clear HN0
                        go_wp2
                        go_meet
                        case rel => exact ⟨rfl, int_eq e.out.symm⟩
                    · cases N
                      · have e : Hid (N0 = 1) := by show _ = _; rw [HN0.out]; simp [hf, hp]
                        clear HN0
                        go_wp2
                        go_meet
                        case rel => exact ⟨rfl, int_eq e.out.symm⟩
                      · have e : Hid (N0 = 2) := by show _ = _; rw [HN0.out]; simp [hf, hp]
                        clear HN0
                        go_wp2
                        go_meet
                        case rel => exact ⟨rfl, int_eq e.out.symm⟩
                  · have e : Hid (N0 = 1) := by show _ = _; rw [HN0.out]; simp [hf]
                    clear HN0
                    go_wp2
                    go_meet
                    case rel => exact ⟨rfl, int_eq e.out.symm⟩
                case rest =>
                  obtain ⟨rfl, rfl⟩ := hcut
                  clear HN0 HSC
                  by_cases hs0 : 0 < SC
                  · have e : Hid (N1 = N0 + (1 + SC)) := by show _ = _; rw [HN1.out]; simp [hs0]
                    by_cases hmax : 147457 < N0 + (1 + SC)
                    · have e2 : Hid (R1 = (R2 : Int) - s) := by show _ = _; rw [hRN'.out, e.out, if_pos hmax]
                      clear HN1 hRN'
                      go_wp2
                      go_ret2
                      exact ⟨ret_tuple2 (int_eq e2.out.symm) rfl, rfl⟩
                    · have e2 : Hid (R1 = N0 + (1 + SC)) := by show _ = _; rw [hRN'.out, e.out, if_neg hmax]
                      clear HN1 hRN'
                      go_wp2
                      go_ret2
                      exact ⟨ret_tuple2 (int_eq e2.out.symm) rfl, rfl⟩
                  · have e : Hid (N1 = N0) := by show _ = _; rw [HN1.out]; simp [hs0]
                    by_cases hmax : 147457 < N0
                    · have e2 : Hid (R1 = (R2 : Int) - s) := by show _ = _; rw [hRN'.out, e.out, if_pos hmax]
                      clear HN1 hRN'
                      go_wp2
                      go_ret2
                      exact ⟨ret_tuple2 (int_eq e2.out.symm) rfl, rfl⟩
                    · have e2 : Hid (R1 = N0) := by show _ = _; rw [hRN'.out, e.out, if_neg hmax]
                      clear HN1 hRN'
                      go_wp2
                      go_ret2
                      exact ⟨ret_tuple2 (int_eq e2.out.symm) rfl, rfl⟩
end Go.Proofs.Qxb6600239a
