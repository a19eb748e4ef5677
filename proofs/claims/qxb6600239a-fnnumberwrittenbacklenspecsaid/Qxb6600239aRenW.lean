/- renderedNumberLen: the walk -/
import Derived.Test.Qxb6600239aRenA
namespace Go.Proofs.Qxb6600239a
open Go.RowKit
set_option linter.unusedVariables false

set_option maxRecDepth 100000 in
set_option maxHeartbeats 8000000 in
theorem ren_any (b off n cap s : Nat) (t : Nat → Int) (w : World) (hn : n ≤ 1048576) (hs : s < n) (hc : ∀ j, j < n → w.cell? ⟨b, off + j, none⟩ = some (.int .u8 (t j))) (ht : ∀ j, 0 ≤ t j ∧ t j ≤ 255) :
    Calls Try.prog 20 #[.slice (some ⟨b, off, none⟩) n cap, .int .i64 s] w fun e w' => e = .returned (.tuple #[.int .i64 (numN t n s), .int .i64 (pF t n s)]) ∧ Below w.heap.size w w' := by
  obtain ⟨i0, hi, hz0, hz1, hz2⟩ := info_parts Try.info5
  obtain ⟨R1, hR1⟩ : ∃ R, R = numN t n s := ⟨_, rfl⟩
  obtain ⟨R2, hR2⟩ : ∃ R, R = pF t n s := ⟨_, rfl⟩
  rw [← hR1, ← hR2]
  have HR1 : Hid (R1 = numN t n s) := hR1
  have HR2 : Hid (R2 = pF t n s) := hR2
  clear hR1 hR2
  have hc0 := hc s hs
  have ht0 := ht s
  have HC := hideN hc
  have HT := hideN ht
  obtain ⟨c0, hc0d⟩ : ∃ c, c = t s := ⟨_, rfl⟩
  rw [← hc0d] at hc0 ht0
  obtain ⟨N, hN⟩ : ∃ N, (c0 == 45) = N := ⟨_, rfl⟩
  have HN : Hid (N = neg t s) := by show _ = _; rw [← hN, hc0d]; rfl
  obtain ⟨CP, hCP⟩ : ∃ CP, CP = n - s := ⟨_, rfl⟩
  have hCP1 : CP + s ≤ n := by omega
  have hCP2 : n ≤ CP + s := by omega
  obtain ⟨A, hA⟩ : ∃ A, A = pA t s := ⟨_, rfl⟩
  obtain ⟨B, hB⟩ : ∃ B, B = pB t n s := ⟨_, rfl⟩
  obtain ⟨D, hD⟩ : ∃ D, D = pD t n s := ⟨_, rfl⟩
  obtain ⟨HP, hHP⟩ : ∃ HP, HP = hasP t n s := ⟨_, rfl⟩
  obtain ⟨HE, hHE⟩ : ∃ HE, HE = hasE t n s := ⟨_, rfl⟩
  obtain ⟨DW1, hDW1⟩ : ∃ l, l = digW t n s := ⟨_, rfl⟩
  obtain ⟨DF1, hDF1⟩ : ∃ l, l = digF t n s := ⟨_, rfl⟩
  obtain ⟨X, hX⟩ : ∃ X, X = expM t n s := ⟨_, rfl⟩
  have bA := pA_bd t s
  have bB := pB_bd t n s hs
  have bC := pC_bd t n s hs
  have bD := pD_bd t n s hs
  rw [← hA] at bA bB
  rw [← hB] at bB bC
  have bD' : B ≤ D ∧ D ≤ n := by rw [hD]; omega
  clear bD bC
  have hA' := hideN hA
  have hB' := hideN hB
  have hD' := hideN hD
  have hHP' := hideN hHP
  have hHE' := hideN hHE
  have hDW1' := hideN hDW1
  have hDF1' := hideN hDF1
  have hX' := hideN hX
  have hc0d' := hideN hc0d
  clear hA hB hD hHP hHE hDW1 hDF1 hX hc0d hc ht hCP
  go_enter Try.func20, Try.ntmps20
  go_upto_if 28 with fail
  go_cut [6, 7] from 23 to 30 (fun i ng w' => w = w' ∧ i = .int .i64 (A : Int) ∧ ng = .bool N)
  case first =>
    have hAe : Hid (A = if N = true then s + 1 else s) := by show _ = _; rw [hA'.out, HN.out]; rfl
    clear HR1 HR2 HC HT hA' hB' hD' hHP' hHE' hDW1' hDF1' hX' hc0d' HN
    cases N
    · go_wp2
      go_meet
      case rel => exact ⟨rfl, int_of_nat (by rw [hAe.out]; rfl), rfl⟩
    · go_wp2
      go_meet
      case rel => exact ⟨rfl, by rw [hAe.out]; rfl, rfl⟩
  case rest =>
    obtain ⟨rfl, rfl, rfl⟩ := hcut
    have hsub : (n : Int) - (s : Int) = (CP : Int) := by omega
    go_upto_block 0 with (at_make; refine wpList_make_own _ rfl _ _ 22 rfl w.heap.size 5 i0 (.int .u8 0) 1 Try.underlying22 hi hz0 hz1 .i64 .i64 _ CP rfl rfl (by omega) (by rw [hz2]; omega) (by unfold maxLen; omega) (Nat.le_refl _) ?_; intro w1 own1 g1)
    have S1 : Hid (DW w w1 CP []) := DW_start own1 g1
    clear own1 g1 hsub
    obtain ⟨m1, hm1⟩ : ∃ m, m = DW1.length := ⟨_, rfl⟩
    have hm1' := hideN hm1
    clear hm1
    go_cut [6, 8, 9] from 31 to 57 (fun i d m w' => i = .int .i64 (B : Int) ∧ d = .slice (some ⟨w.heap.size, 0, none⟩) m1 CP ∧ m = .int .i64 (m1 : Int) ∧ Hid (DW w w' CP DW1))
    case first =>
      have hBe : Hid (re t n A = B) := by show _ = _; rw [hA'.out, hB'.out]; rfl
      have hDe : Hid (DW1 = [] ++ sg t A (B - A)) := by show _ = _; rw [hDW1'.out, hA'.out, hB'.out]; rfl
      have hme : Hid (m1 = B - A) := by show _ = _; rw [hm1'.out, hDe.out]; simp [sg_length]
      clear HR1 HR2 hA' hB' hD' hHP' hHE' hDW1' hDF1' hm1' hX' hc0d' HN hc0 ht0 hN bD'
      go_wp2_with fail
      go_loopg [6, 8, 9] (n - A) (fun g i d m wr => ∃ (k j : Nat), g = n - k ∧ k ≤ n ∧ j + s ≤ k ∧ i = .int .i64 (k : Int) ∧ d = .slice (some ⟨w.heap.size, 0, none⟩) j CP ∧ m = .int .i64 (j : Int) ∧ Hid (k = A + j) ∧ Hid (DW w wr CP ([] ++ sg t A j)) ∧ Hid (re t n k = B))
      case atStart => exact ⟨A, 0, rfl, by omega, by omega, rfl, rfl, rfl, rfl, S1, hBe⟩
      case round =>
        clear S1
        obtain ⟨k, j, rfl, hk, hj, rfl, rfl, rfl, HK, HD, HB⟩ := hrel
        by_cases hkn : k < n
        · have hc1 := DW_cell HD.out (HC.out k hkn)
          have ht1 := HT.out k
          obtain ⟨c, hcd⟩ : ∃ c, c = t k := ⟨_, rfl⟩
          rw [← hcd] at hc1 ht1
          have HCD := hideN hcd
          clear hcd
          have hcases : (c < 48 ∨ 57 < c) ∨ (48 ≤ c ∧ c ≤ 57) := by omega
          rcases hcases with h1 | ⟨h1, h2⟩
          · go_wp2_with (go_at_call 23; refine (isDec_no c _ h1).mono ?_; rintro e w2 ⟨rfl, rfl⟩)
            go_meet
            case rel =>
              have e := re_off HCD h1 HB
              have ej : j = m1 := by rw [hme.out, ← e, HK.out]; omega
              exact ⟨int_of_nat e, by rw [ej], int_of_nat ej, by rw [hDe.out, ← hme.out, ← ej]; exact HD⟩
          · have hc2 : (wr.alloc (.cells #[.int .u8 c] 5)).cell? ⟨b, off + k, none⟩ = some (.int .u8 c) := by rw [World.cell?_alloc_lt (h := block_lt_of_cell hc1)]; exact hc1
            go_wp2_with (first | (go_at_call 23; refine (isDec_yes c _ h1 h2).mono ?_; rintro e w2 ⟨rfl, rfl⟩) | (at_builtin; refine wpList_append_fits _ rfl (.tmp 47) (.tmp 52) 22 rfl w.heap.size 5 i0 1 Try.underlying22 hi hz1 w.heap.size j CP _ rfl ((DW_own HD (by simp [sg_length])).alloc _) ⟨_, 0, none⟩ 1 1 [.int .u8 c] rfl rfl (cell_one_new _ _ _) (by simp [Value.oneCell']) (by omega) ?_; intro w6 own6 g6))
            go_roundg (n - (k + 1))
            case measure => omega
            case rel => exact ⟨k + 1, j + 1, rfl, by omega, by omega, by go_num, rfl, by go_num, kj_succ HK, DW_sg HD (by simp [sg_length]) HK HCD own6 g6, re_on hkn HCD h1 h2 HB⟩
        · go_wp2
          go_meet
          case rel =>
            have e := re_end hkn HB
            have ej : j = m1 := by rw [hme.out, ← e, HK.out]; omega
            exact ⟨int_of_nat e, by rw [ej], int_of_nat ej, by rw [hDe.out, ← hme.out, ← ej]; exact HD⟩
    case rest =>
      clear S1
      obtain ⟨rfl, rfl, rfl, S2⟩ := hcut
      go_upto_region 13 with fail
      go_cut [68] from 58 to 68 (fun v w' => w' = wc ∧ v = .bool HP)
      case first =>
        have hPe : Hid (HP = (decide (B < n) && (t B == 46))) := by show _ = _; rw [hHP'.out, hB'.out]; rfl
        clear HR1 HR2 hA' hB' hD' hHP' hHE' hDW1' hDF1' hm1' hX' hc0d' HN hc0 ht0 hN bD'
        by_cases hBn : B < n
        · have hc1 := DW_cell S2.out (HC.out B hBn)
          have ht1 := HT.out B
          have hPe' : Hid (HP = (t B == 46)) := by show _ = _; rw [hPe.out]; simp [hBn]
          go_wp2
          go_meet
          case rel => exact ⟨rfl, by rw [hPe'.out]⟩
        · have hPe' : Hid (HP = false) := by show _ = _; rw [hPe.out]; simp [hBn]
          go_wp2
          go_meet
          case rel => exact ⟨rfl, by rw [hPe'.out]⟩
      case rest =>
        obtain ⟨rfl, rfl⟩ := hcut
        obtain ⟨m2, hm2⟩ : ∃ m, m = DF1.length := ⟨_, rfl⟩
        obtain ⟨dl, hdl⟩ : ∃ d, d = m1 + m2 := ⟨_, rfl⟩
        have hm2' := hideN hm2
        have hdl' := hideN hdl
        have bm1 : m1 + s ≤ B := by
          rw [hm1'.out, hDW1'.out, digW, sg_length, ← hB'.out, ← hA'.out]; omega
        clear hm2 hdl
        go_upto_if 68 with fail
        go_cut [6, 8, 10] from 69 to 92 (fun i d m w' => i = .int .i64 (D : Int) ∧ d = .slice (some ⟨w.heap.size, 0, none⟩) dl CP ∧ m = .int .i64 (m2 : Int) ∧ Hid (DW w w' CP (DW1 ++ DF1)))
        case first =>
          cases HP
          · have e1 : Hid (D = B) := by show _ = _; rw [hD'.out, hB'.out, pD, ← hHP'.out]; rfl
            have e0 : Hid (DF1 = []) := by show _ = _; rw [hDF1'.out, digF, ← hHP'.out]; rfl
            have e3 : Hid (m2 = 0) := by show _ = _; rw [hm2'.out, e0.out]; rfl
            have e4 : Hid (dl = m1) := by show _ = _; rw [hdl'.out, e3.out]; rfl
            clear HR1 HR2 hA' hB' hD' hHP' hHE' hDW1' hDF1' hm1' hm2' hdl' hX' hc0d' HN hc0 ht0 hN HC HT
            go_wp2
            go_meet
            case rel => exact ⟨int_of_nat e1.out.symm, by rw [e4.out], by rw [e3.out]; rfl, by rw [e0.out, List.append_nil]; exact S2⟩
          · have hBn : B < n := by rw [hB'.out]; exact hasP_lt t n s hHP'.out.symm
            have hCe : Hid (pC t n s = B + 1) := by show _ = _; rw [pC, ← hHP'.out, ← hB'.out]; rfl
            have hDe : Hid (re t n (B + 1) = D) := by show _ = _; rw [hD'.out, pD, ← hHP'.out, hCe.out]; rfl
            have hFe : Hid (DF1 = sg t (B + 1) (D - (B + 1))) := by show _ = _; rw [hDF1'.out, digF, ← hHP'.out, hCe.out, ← hD'.out]; rfl
            have hme : Hid (m2 = D - (B + 1)) := by show _ = _; rw [hm2'.out, hFe.out]; exact sg_length _ _ _
            have hPl : Hid (DW1.length = m1) := hm1'.out.symm
            clear HR1 HR2 hA' hB' hD' hHP' hHE' hDW1' hDF1' hm1' hm2' hX' hc0d' HN hc0 ht0 hN bD' hCe
            go_wp2_with fail
            go_loopg [6, 8, 10] (n - (B + 1)) (fun g i d m wr => ∃ (k j l : Nat), g = n - k ∧ k ≤ n ∧ l + s + 1 ≤ k ∧ j ≤ l ∧ i = .int .i64 (k : Int) ∧ d = .slice (some ⟨w.heap.size, 0, none⟩) l CP ∧ m = .int .i64 (j : Int) ∧ Hid (k = B + 1 + j) ∧ Hid (l = m1 + j) ∧ Hid (DW w wr CP (DW1 ++ sg t (B + 1) j)) ∧ Hid (re t n k = D))
            case atStart => exact ⟨B + 1, 0, m1, rfl, by omega, by omega, by omega, by go_num, rfl, rfl, rfl, rfl, by rw [sg_zero, List.append_nil]; exact S2, hDe⟩
            case round =>
              clear S2
              obtain ⟨k, j, l, rfl, hk, hlk, hjl, rfl, rfl, rfl, HK, HL, HD, HB⟩ := hrel
              by_cases hkn : k < n
              · have hc1 := DW_cell HD.out (HC.out k hkn)
                have ht1 := HT.out k
                obtain ⟨c, hcd⟩ : ∃ c, c = t k := ⟨_, rfl⟩
                rw [← hcd] at hc1 ht1
                have HCD := hideN hcd
                clear hcd
                have hcases : (c < 48 ∨ 57 < c) ∨ (48 ≤ c ∧ c ≤ 57) := by omega
                rcases hcases with h1 | ⟨h1, h2⟩
                · go_wp2_with (go_at_call 23; refine (isDec_no c _ h1).mono ?_; rintro e w2 ⟨rfl, rfl⟩)
                  go_meet
                  case rel =>
                    have e := re_off HCD h1 HB
                    have ej : j = m2 := by rw [hme.out, ← e, HK.out]; omega
                    have el : l = dl := by rw [hdl'.out, HL.out, ej]
                    exact ⟨int_of_nat e, by rw [el], int_of_nat ej, by rw [hFe.out, ← hme.out, ← ej]; exact HD⟩
                · have hl' : (DW1 ++ sg t (B + 1) j).length = l := by rw [List.length_append, sg_length, hPl.out, HL.out]
                  have HLE := hideN hl'
                  clear hl'
                  go_wp2_with (first | (go_at_call 23; refine (isDec_yes c _ h1 h2).mono ?_; rintro e w2 ⟨rfl, rfl⟩) | (at_builtin; refine wpList_append_fits _ rfl (.tmp 82) (.tmp 87) 22 rfl w.heap.size 5 i0 1 Try.underlying22 hi hz1 w.heap.size l CP _ rfl ((DW_own HD HLE.out).alloc _) ⟨_, 0, none⟩ 1 1 [.int .u8 c] rfl rfl (cell_one_new _ _ _) (by simp [Value.oneCell']) (by omega) ?_; intro w6 own6 g6))
                  go_roundg (n - (k + 1))
                  case measure => omega
                  case rel => exact ⟨k + 1, j + 1, l + 1, rfl, by omega, by omega, by omega, by go_num, rfl, by go_num, kj_succ HK, l_succ HL, DW_sg HD HLE.out HK HCD own6 g6, re_on hkn HCD h1 h2 HB⟩
              · go_wp2
                go_meet
                case rel =>
                  have e := re_end hkn HB
                  have ej : j = m2 := by rw [hme.out, ← e, HK.out]; omega
                  have el : l = dl := by rw [hdl'.out, HL.out, ej]
                  exact ⟨int_of_nat e, by rw [el], int_of_nat ej, by rw [hFe.out, ← hme.out, ← ej]; exact HD⟩
        case rest =>
          clear S2
          obtain ⟨rfl, rfl, rfl, S3⟩ := hcut
          go_upto_region 20 with fail
          go_cut [110] from 93 to 110 (fun v w' => w' = wc ∧ v = .bool HE)
          case first =>
            have hEe : Hid (HE = (decide (D < n) && (t D == 101 || t D == 69))) := by show _ = _; rw [hHE'.out, hD'.out]; rfl
            clear HR1 HR2 hA' hB' hD' hHP' hHE' hDW1' hDF1' hm1' hm2' hdl' hX' hc0d' HN hc0 ht0 hN
            by_cases hDn : D < n
            · have hc1 := DW_cell S3.out (HC.out D hDn)
              have ht1 := HT.out D
              by_cases he : (t D == 101) = true
              · have hEe' : Hid (HE = true) := by show _ = _; rw [hEe.out, he]; simp [hDn]
                clear hEe
                go_wp2
                go_meet
                case rel => exact ⟨rfl, by rw [hEe'.out]⟩
              · have he' : (t D == 101) = false := by simpa using he
                have hEe' : Hid (HE = (t D == 69)) := by show _ = _; rw [hEe.out, he']; simp [hDn]
                clear hEe he
                go_wp2
                go_meet
                case rel => exact ⟨rfl, by rw [hEe'.out]⟩
            · have hEe' : Hid (HE = false) := by show _ = _; rw [hEe.out]; simp [hDn]
              go_wp2
              go_meet
              case rel => exact ⟨rfl, by rw [hEe'.out]⟩
          case rest =>
            obtain ⟨rfl, rfl⟩ := hcut
            have bF := pF_bd t n s hs
            rw [← HR2.out, ← hD'.out] at bF
            have bX : -1073741824 ≤ X ∧ X ≤ 1073741824 := by
              rw [hX'.out]
              unfold expM
              split
              · rename_i hE
                have := evM_bd (digE_bd t n s hE)
                split <;> omega
              · omega
            have bdl : dl ≤ n := by
              have := lens_le t n s hs
              rw [hdl'.out, hm1'.out, hm2'.out, hDW1'.out, hDF1'.out]
              exact this
            have bdl2 : m1 ≤ dl := by rw [hdl'.out]; omega
            have bdl3 : m2 ≤ dl := by rw [hdl'.out]; omega
            have hRN : Hid (R1 = if 147457 < numLen N m1 m2 (fst (DW1 ++ DF1)) X then (R2 : Int) - s else numLen N m1 m2 (fst (DW1 ++ DF1)) X) := by
              show _ = _
              rw [HR1.out, numN_eq t n s hs hn, HN.out, hm1'.out, hm2'.out, hDW1'.out, hDF1'.out, hX'.out, HR2.out]; rfl
            go_upto_if 110 with fail
            go_cut [6, 11] from 111 to 166 (fun i x w' => w' = wc ∧ i = .int .i64 (R2 : Int) ∧ x = .int .i64 X)
            case first =>
              clear hRN HR1 hA' hB' hHP' hDW1' hDF1' hm1' hm2' hdl' hc0d' HN hc0 ht0 hN
              cases HE
              · have e1 : Hid (R2 = D) := by show _ = _; rw [HR2.out, pF, ← hHE'.out, hD'.out]; rfl
                have e2 : Hid (X = 0) := by show _ = _; rw [hX'.out, expM, ← hHE'.out]; rfl
                clear HR2 hD' hHE' hX' HC HT
                go_wp2
                go_meet
                case rel => exact ⟨rfl, int_of_nat e1.out.symm, int_eq e2.out.symm⟩
              · have hDn : D < n := by rw [hD'.out]; exact hasE_lt t n s hHE'.out.symm
                obtain ⟨HS, hHS⟩ : ∃ H, H = hasS t n s := ⟨_, rfl⟩
                obtain ⟨NE, hNE⟩ : ∃ H, H = (hasS t n s && t (pD t n s + 1) == 45) := ⟨_, rfl⟩
                obtain ⟨E, hE⟩ : ∃ E, E = pE t n s := ⟨_, rfl⟩
                obtain ⟨V, hV⟩ : ∃ V, V = evM (digE t n s) := ⟨_, rfl⟩
                have bE := pE_bd t n s hHE'.out.symm
                rw [← hE, ← hD'.out] at bE
                have bV := evM_bd (digE_bd t n s hHE'.out.symm)
                rw [← hV] at bV
                have hSe : Hid (HS = (decide (D + 1 < n) && (t (D + 1) == 43 || t (D + 1) == 45))) := by show _ = _; rw [hHS, hD'.out]; rfl
                have hEe : Hid (E = if HS = true then D + 2 else D + 1) := by show _ = _; rw [hE, hD'.out, hHS]; rfl
                have hNe : Hid (NE = (HS && t (D + 1) == 45)) := by show _ = _; rw [hNE, hD'.out, hHS]
                have hXe : Hid (X = if NE = true then - min V 1073741824 else min V 1073741824) := by show _ = _; rw [hX'.out, expM, ← hHE'.out, hV, ← hNE]; rfl
                have hRe : Hid (re t n E = R2) := by show _ = _; rw [HR2.out, pF, ← hHE'.out, hE]; rfl
                have hVe : Hid (V = evM (sg t E (R2 - E))) := by show _ = _; rw [hV, digE, HR2.out, hE]
                clear hHS hNE hE hV HR2 hD' hHE' hX'
                go_upto_region 23 with fail
                go_cut [130] from 111 to 130 (fun v w' => w' = wc ∧ v = .bool HS)
                case first =>
                  clear hEe hNe hXe hRe hVe
                  by_cases hDn1 : D + 1 < n
                  · have hc1 := DW_cell S3.out (HC.out (D + 1) hDn1)
                    have ht1 := HT.out (D + 1)
                    by_cases he : (t (D + 1) == 43) = true
                    · have hEe' : Hid (HS = true) := by show _ = _; rw [hSe.out, he]; simp [hDn1]
                      clear hSe
                      go_wp2
                      go_meet
                      case rel => exact ⟨rfl, by rw [hEe'.out]⟩
                    · have he' : (t (D + 1) == 43) = false := by simpa using he
                      have hEe' : Hid (HS = (t (D + 1) == 45)) := by show _ = _; rw [hSe.out, he']; simp [hDn1]
                      clear hSe he
                      go_wp2
                      go_meet
                      case rel => exact ⟨rfl, by rw [hEe'.out]⟩
                  · have hEe' : Hid (HS = false) := by show _ = _; rw [hSe.out]; simp [hDn1]
                    clear hSe
                    go_wp2
                    go_meet
                    case rel => exact ⟨rfl, by rw [hEe'.out]⟩
                case rest =>
                  obtain ⟨rfl, rfl⟩ := hcut
                  go_upto_if 130 with fail
                  go_cut [6, 12] from 131 to 137 (fun i x w' => w' = wc ∧ i = .int .i64 (E : Int) ∧ x = .bool NE)
                  case first =>
                    cases HS
                    · have e1 : Hid (E = D + 1) := by show _ = _; rw [hEe.out]; rfl
                      have e2 : Hid (NE = false) := by show _ = _; rw [hNe.out]; rfl
                      clear hSe hEe hNe hXe hRe hVe
                      go_wp2
                      go_meet
                      case rel => exact ⟨rfl, by rw [e1.out]; go_num, by rw [e2.out]⟩
                    · have e1 : Hid (E = D + 2) := by show _ = _; rw [hEe.out]; rfl
                      have hDn1 : D + 1 < n := by have := hSe.out; simp at this; exact this.1
                      have hc1 := DW_cell S3.out (HC.out (D + 1) hDn1)
                      have ht1 := HT.out (D + 1)
                      have e2 : Hid (NE = (t (D + 1) == 45)) := by show _ = _; rw [hNe.out]; rfl
                      clear hSe hEe hNe hXe hRe hVe
                      go_wp2
                      go_meet
                      case rel => exact ⟨rfl, by rw [e1.out]; go_num, by rw [e2.out]⟩
                  case rest =>
                    obtain ⟨rfl, rfl, rfl⟩ := hcut
                    go_upto_block 4 with fail
                    go_cut [6, 11] from 138 to 161 (fun i x w' => w' = wc ∧ i = .int .i64 (R2 : Int) ∧ x = .int .i64 V)
                    case first =>
                      clear hSe hEe hNe hXe
                      go_wp2_with fail
                      go_loopg [6, 11] (n - E) (fun g i x wr => wr = wc ∧ ∃ (k j : Nat) (e0 : Int), g = n - k ∧ k ≤ n ∧ j ≤ k ∧ 0 ≤ e0 ∧ e0 ≤ 10737418249 ∧ i = .int .i64 (k : Int) ∧ x = .int .i64 e0 ∧ Hid (k = E + j) ∧ Hid (e0 = evM (sg t E j)) ∧ Hid (re t n k = R2))
                      case atStart => exact ⟨rfl, E, 0, 0, rfl, by omega, by omega, by omega, by omega, rfl, rfl, rfl, rfl, hRe⟩
                      case round =>
                        obtain ⟨rfl, k, j, e0, rfl, hk, hj, he0, he1, rfl, rfl, HK, HV, HB⟩ := hrel
                        by_cases hkn : k < n
                        · have hc1 := DW_cell S3.out (HC.out k hkn)
                          have ht1 := HT.out k
                          obtain ⟨c, hcd⟩ : ∃ c, c = t k := ⟨_, rfl⟩
                          rw [← hcd] at hc1 ht1
                          have HCD := hideN hcd
                          clear hcd
                          have hcases : (c < 48 ∨ 57 < c) ∨ (48 ≤ c ∧ c ≤ 57) := by omega
                          rcases hcases with h1 | ⟨h1, h2⟩
                          · go_wp2_with (go_at_call 23; refine (isDec_no c _ h1).mono ?_; rintro e w2 ⟨rfl, rfl⟩)
                            go_meet
                            case rel =>
                              have e := re_off HCD h1 HB
                              exact ⟨rfl, int_of_nat e, by rw [hVe.out, ← e, HK.out, Nat.add_sub_cancel_left]; exact int_eq HV.out⟩
                          · by_cases hlt : e0 < 1073741824
                            · go_wp2_with (go_at_call 23; refine (isDec_yes c _ h1 h2).mono ?_; rintro e w2 ⟨rfl, rfl⟩)
                              go_roundg (n - (k + 1))
                              case measure => omega
                              case rel => exact ⟨rfl, k + 1, j + 1, _, rfl, by omega, by omega, by omega, by omega, by go_num, rfl, kj_succ HK, evM_on HK HCD HV (by rw [if_pos hlt]), re_on hkn HCD h1 h2 HB⟩
                            · go_wp2_with (go_at_call 23; refine (isDec_yes c _ h1 h2).mono ?_; rintro e w2 ⟨rfl, rfl⟩)
                              go_roundg (n - (k + 1))
                              case measure => omega
                              case rel => exact ⟨rfl, k + 1, j + 1, e0, rfl, by omega, by omega, by omega, by omega, by go_num, rfl, kj_succ HK, evM_on HK HCD HV (by rw [if_neg (by omega)]), re_on hkn HCD h1 h2 HB⟩
                        · go_wp2
                          go_meet
                          case rel =>
                            have e := re_end hkn HB
                            exact ⟨rfl, int_of_nat e, by rw [hVe.out, ← e, HK.out, Nat.add_sub_cancel_left]; exact int_eq HV.out⟩
                    case rest =>
                      obtain ⟨rfl, rfl, rfl⟩ := hcut
                      clear hSe hEe hNe hRe hVe HC HT
                      by_cases hbig : 1073741824 < V
                      · cases NE
                        · have e2 : Hid (X = 1073741824) := by show _ = _; rw [hXe.out]; simp; omega
                          clear hXe
                          go_wp2
                          go_meet
                          case rel => exact ⟨rfl, rfl, by rw [e2.out]⟩
                        · have e2 : Hid (X = -1073741824) := by show _ = _; rw [hXe.out]; simp; omega
                          clear hXe
                          go_wp2
                          go_meet
                          case rel => exact ⟨rfl, rfl, by rw [e2.out]⟩
                      · cases NE
                        · have e2 : Hid (X = V) := by show _ = _; rw [hXe.out]; simp; omega
                          clear hXe
                          go_wp2
                          go_meet
                          case rel => exact ⟨rfl, rfl, by rw [e2.out]⟩
                        · have e2 : Hid (X = -V) := by show _ = _; rw [hXe.out]; simp; omega
                          clear hXe
                          go_wp2
                          go_meet
                          case rel => exact ⟨rfl, rfl, by rw [e2.out]⟩
            case rest =>
              obtain ⟨rfl, rfl, rfl⟩ := hcut
              clear HR1 HR2 hA' hB' hHP' hc0d' HN hc0 ht0 hN hD' hHE' hX' HC HT
              obtain ⟨DD, hDD⟩ : ∃ DD, DD = DW1 ++ DF1 := ⟨_, rfl⟩
              rw [← hDD] at S3 hRN
              have HDL : Hid (DD.length = dl) := by show _ = _; rw [hDD, List.length_append, ← hm1'.out, ← hm2'.out, hdl'.out]
              obtain ⟨F, hF⟩ : ∃ F, F = fst DD := ⟨_, rfl⟩
              have bF0 := fst_bd DD
              rw [← hF, HDL.out] at bF0
              rw [← hF] at hRN
              have HF := hideN hF
              clear hDD hF hm1' hm2' hdl' hDW1' hDF1'
              obtain ⟨NZ, hNZ⟩ : ∃ NZ, NZ = decide (0 ≤ F) := ⟨_, rfl⟩
              have HNZ : Hid (NZ = true ↔ 0 ≤ F) := by show _ ↔ _; rw [hNZ]; simp
              clear hNZ
              go_upto_block 6 with fail
              go_cut [14] from 167 to 180 (fun v w' => w' = wc ∧ v = .bool NZ)
              case first =>
                clear hRN
                go_wp2_with fail
                go_loopg [14, 15] dl (fun g v kv wr => wr = wc ∧ ∃ (k : Nat) (nz : Bool), g = dl - k ∧ k ≤ dl ∧ v = .bool nz ∧ kv = .int .i64 (k : Int) ∧ Hid (nz = true ↔ ∃ j, j < k ∧ dat DD j ≠ 48))
                case atStart => exact ⟨rfl, 0, false, rfl, by omega, rfl, rfl, by show _ ↔ _; simp⟩
                case round =>
                  obtain ⟨rfl, k, nz, rfl, hk, rfl, rfl, HZ⟩ := hrel
                  by_cases hkn : k < dl
                  · have hc1 := DW_dig S3.out k (by rw [HDL.out]; exact hkn)
                    obtain ⟨c, hcd⟩ : ∃ c, c = dat DD k := ⟨_, rfl⟩
                    rw [← hcd] at hc1
                    have HCD := hideN hcd
                    clear hcd
                    by_cases hne : (c != 48) = true
                    · have HZ' : Hid (∃ j, j < k + 1 ∧ dat DD j ≠ 48) := ⟨k, by omega, by rw [← HCD.out]; simpa using hne⟩
                      go_wp2
                      go_roundg (dl - (k + 1))
                      case measure => omega
                      case rel => exact ⟨rfl, k + 1, true, rfl, by omega, rfl, by go_num, by show _ ↔ _; exact ⟨fun _ => HZ'.out, fun _ => rfl⟩⟩
                    · have hne' : (c != 48) = false := by simpa using hne
                      have HZ' : Hid (nz = true ↔ ∃ j, j < k + 1 ∧ dat DD j ≠ 48) := by
                        show _ ↔ _
                        rw [HZ.out]
                        constructor
                        · rintro ⟨j, hj, hd⟩
                          exact ⟨j, by omega, hd⟩
                        · rintro ⟨j, hj, hd⟩
                          by_cases e : j = k
                          · subst e
                            rw [← HCD.out] at hd
                            simp at hne'
                            exact absurd hne' hd
                          · exact ⟨j, by omega, hd⟩
                      clear hne
                      go_wp2
                      go_roundg (dl - (k + 1))
                      case measure => omega
                      case rel => exact ⟨rfl, k + 1, nz, rfl, by omega, rfl, by go_num, HZ'⟩
                  · obtain rfl : k = dl := by omega
                    have e : nz = NZ := by
                      have h1 := HZ.out
                      have h2 := HNZ.out
                      have h3 := fst_iff DD
                      rw [HDL.out, ← HF.out] at h3
                      rw [Bool.eq_iff_iff, h1, h2, h3]
                    go_wp2
                    go_meet
                    case rel => exact ⟨rfl, by rw [e]⟩
              case rest =>
                obtain ⟨rfl, rfl⟩ := hcut
                obtain ⟨PT, hPT⟩ : ∃ PT : Int, PT = (m1 : Int) + X := ⟨_, rfl⟩
                obtain ⟨SC, hSC⟩ : ∃ SC : Int, SC = max ((m2 : Int) - X) 0 := ⟨_, rfl⟩
                have bPT : -1073741824 ≤ PT ∧ PT ≤ 1074790400 := by omega
                have bSC : 0 ≤ SC ∧ SC ≤ 1074790400 := by omega
                have HPT := hideN hPT
                have HSC := hideN hSC
                have hPT' := hPT.symm
                clear hPT hSC
                go_upto_if 188 with fail
                go_cut [16, 17] from 181 to 188 (fun p v w' => w' = wc ∧ p = .int .i64 PT ∧ v = .int .i64 SC)
                case first =>
                  by_cases hneg : (m2 : Int) - X < 0
                  · have e : Hid (SC = 0) := by show _ = _; rw [HSC.out]; omega
                    go_wp2
                    go_meet
                    case rel => exact ⟨rfl, rfl, int_eq e.out.symm⟩
                  · have e : Hid (SC = (m2 : Int) - X) := by show _ = _; rw [HSC.out]; omega
                    go_wp2
                    go_meet
                    case rel => exact ⟨rfl, rfl, int_eq e.out.symm⟩
                case rest =>
                  clear hPT'
                  obtain ⟨hwc, rfl, rfl⟩ := hcut
                  subst hwc
                  obtain ⟨WD, hWD⟩ : ∃ WD, WD = wc := ⟨_, rfl⟩
                  subst hWD
                  go_upto_region 46 with (at_make; refine wpList_make_own _ rfl _ _ 22 rfl WD.heap.size 5 i0 (.int .u8 0) 1 Try.underlying22 hi hz0 hz1 .i64 .i64 _ 147459 rfl rfl (by omega) (by rw [hz2]; omega) (by unfold maxLen; omega) (Nat.le_refl _) ?_; intro w2 own2 g2)
                  have O1 : Hid (OW WD w2 0) := OW_start own2 g2
                  clear own2 g2
                  obtain ⟨NN, hNN⟩ : ∃ NN, NN = (N && NZ) := ⟨_, rfl⟩
                  have HNN := hideN hNN
                  clear hNN
                  go_cut [193] from 189 to 193 (fun v w' => w' = w2 ∧ v = .bool NN)
                  case first =>
                    clear hRN O1
                    cases N
                    · have e : Hid (NN = false) := by show _ = _; rw [HNN.out]; rfl
                      clear HNN
                      go_wp2
                      go_meet
                      case rel => exact ⟨rfl, by rw [e.out]⟩
                    · have e : Hid (NN = NZ) := by show _ = _; rw [HNN.out]; rfl
                      clear HNN
                      go_wp2
                      go_meet
                      case rel => exact ⟨rfl, by rw [e.out]⟩
                  case rest =>
                    obtain ⟨rfl, rfl⟩ := hcut
                    obtain ⟨l0, hl0⟩ : ∃ l0 : Nat, l0 = if NN = true then 1 else 0 := ⟨_, rfl⟩
                    have bl0 : l0 ≤ 1 := by rw [hl0]; split <;> omega
                    have HL0 := hideN hl0
                    clear hl0
                    go_upto_if 193 with fail
                    go_cut [18] from 194 to 196 (fun o w' => o = .slice (some ⟨WD.heap.size, 0, none⟩) l0 147459 ∧ Hid (OW WD w' l0))
                    case first =>
                      clear hRN HNN
                      cases NN
                      · have e : Hid (l0 = 0) := by show _ = _; rw [HL0.out]; rfl
                        clear HL0
                        go_wp2
                        go_meet
                        case rel => rw [e.out]; exact ⟨rfl, O1⟩
                      · have e : Hid (l0 = 1) := by show _ = _; rw [HL0.out]; rfl
                        obtain ⟨xs, own3, bel3⟩ := O1.out
                        have B3 := hideN bel3
                        have OW3 := hideN own3
                        clear HL0 O1 bel3 own3
                        go_wp2_with (at_builtin; refine wpList_append_fits _ rfl (.tmp 194) (.tmp 195) 22 rfl WD.heap.size 5 i0 1 Try.underlying22 hi hz1 WD.heap.size 0 147459 _ rfl (OW3.out.alloc _) ⟨_, 0, none⟩ 1 1 [.int .u8 45] rfl rfl (cell_one_new _ _ _) (by simp [Value.oneCell']) (by omega) ?_; intro w6 own6 g6)
                        go_meet
                        case rel => rw [e.out]; exact ⟨rfl, OW_step B3.out own6 g6⟩
                    case rest =>
                      clear O1
                      obtain ⟨rfl, O2⟩ := hcut
                      go_upto_block 8 with fail
                      go_cut [18, 19] from 197 to 223 (fun o stv w' => ∃ (l : Nat) (st : Bool), o = .slice (some ⟨WD.heap.size, 0, none⟩) l 147459 ∧ stv = .bool st ∧ l ≤ 147458 ∧ Hid (OW WD w' l) ∧ Hid (Out5 F PT l0 l st))
                      case first =>
                        clear hRN HNN HL0 HNZ HPT HSC
                        go_wp2_with fail
                        go_loopg [18, 19, 20] PT.toNat (fun g o stv kv wr => ∃ (k l : Nat) (st : Bool), g = (PT - k).toNat ∧ o = .slice (some ⟨WD.heap.size, 0, none⟩) l 147459 ∧ stv = .bool st ∧ kv = .int .i64 (k : Int) ∧ l ≤ 147458 ∧ Hid (OW WD wr l) ∧ Hid (In5 F PT dl l0 k l st))
                        case atStart => exact ⟨0, l0, false, by simp, rfl, rfl, rfl, by omega, O2, .inl ⟨rfl, rfl, by omega, by omega⟩⟩
                        case round =>
                          clear O2
                          obtain ⟨k, l, st, rfl, rfl, rfl, rfl, hl8, HO, HI⟩ := hrel
                          by_cases hkP : (k : Int) < PT
                          · by_cases hl : l ≤ 147457
                            · obtain ⟨xs, own3, bel3⟩ := HO.out
                              have hcells := DO_cell S3 HDL bel3
                              have B3 := hideN bel3
                              have OW3 := hideN own3
                              have CE := hideN hcells
                              clear bel3 own3 hcells
                              cases st
                              · have hin : l = l0 ∧ k ≤ dl ∧ (F < 0 ∨ (k : Int) ≤ F) := by
                                  rcases HI.out with ⟨_, h⟩ | ⟨h, _⟩
                                  · exact h
                                  · cases h
                                obtain ⟨hll, hkd0, hFk⟩ := hin
                                by_cases hkd : k < dl
                                · have hc1 := CE.out k hkd
                                  obtain ⟨c, hcd⟩ : ∃ c, c = dat DD k := ⟨_, rfl⟩
                                  rw [← hcd] at hc1
                                  by_cases hz : (c == 48) = true
                                  · have HI' : Hid (In5 F PT dl l0 (k + 1) l false) := by
                                      refine .inl ⟨rfl, hll, by omega, ?_⟩
                                      rcases hFk with h | h
                                      · exact .inl h
                                      · right
                                        by_cases e : (k : Int) = F
                                        · exfalso
                                          have hs := (fst_some DD (by rw [← HF.out]; omega)).1
                                          rw [← HF.out, ← e, Int.toNat_natCast, ← hcd] at hs
                                          simp at hz
                                          exact hs hz
                                        · omega
                                    clear hcd HI hll hFk
                                    go_wp2_with (go_at_call 30; refine (digitAt_in w.heap.size dl CP k c _ (by omega) hkd hc1).mono ?_; rintro e w4 ⟨rfl, rfl⟩)
                                    go_roundg (PT - (k + 1)).toNat
                                    case measure => omega
                                    case rel => exact ⟨k + 1, l, false, by congr 1, rfl, rfl, by go_num, hl8, HO, HI'⟩
                                  · have hz' : (c == 48) = false := by simpa using hz
                                    have hkF : (k : Int) = F := by
                                      simp at hz'
                                      rcases hFk with h | h
                                      · exfalso
                                        have := fst_none DD (by rw [← HF.out]; exact h) k
                                        rw [← hcd] at this
                                        exact hz' this
                                      · by_cases e : (k : Int) = F
                                        · exact e
                                        · exfalso
                                          have := (fst_some DD (by rw [← HF.out]; omega)).2 k (by rw [← HF.out]; omega)
                                          rw [← hcd] at this
                                          exact hz' this
                                    have HI' : Hid (In5 F PT dl l0 (k + 1) (l + 1) true) := .inr ⟨rfl, by omega, by omega, by omega, by omega, by omega⟩
                                    clear hcd HI hll hFk hz hkF
                                    go_wp2_with (first | (go_at_call 30; refine (digitAt_in w.heap.size dl CP k c _ (by omega) hkd hc1).mono ?_; rintro e w4 ⟨rfl, rfl⟩) | (at_builtin; refine wpList_append_fits _ rfl (.tmp 220) (.tmp 222) 22 rfl WD.heap.size 5 i0 1 Try.underlying22 hi hz1 WD.heap.size l 147459 _ rfl (OW3.out.alloc _) ⟨_, 0, none⟩ 1 1 [.int .u8 c] rfl rfl (cell_one_new _ _ _) (by simp [Value.oneCell']) (by omega) ?_; intro w6 own6 g6))
                                    go_roundg (PT - (k + 1)).toNat
                                    case measure => omega
                                    case rel => exact ⟨k + 1, l + 1, true, by congr 1, rfl, rfl, by go_num, by omega, OW_step B3.out own6 g6, HI'⟩
                                · have HO5 : Hid (Out5 F PT l0 l false) := .inl ⟨rfl, hll, .inl (by omega)⟩
                                  clear HI hll hFk
                                  go_wp2_with (go_at_call 30; refine (digitAt_out w.heap.size dl CP k _ (by omega) (by omega)).mono ?_; rintro e w4 ⟨rfl, rfl⟩)
                                  go_meet
                                  case rel => exact ⟨l, false, rfl, rfl, hl8, HO, HO5⟩
                              · have HI' : Hid (In5 F PT dl l0 (k + 1) (l + 1) true) := by
                                  rcases HI.out with ⟨h, _⟩ | ⟨_, h1, h2, h3, h4, h5⟩
                                  · cases h
                                  · exact .inr ⟨rfl, h1, by omega, by omega, by omega, by omega⟩
                                clear HI
                                go_wp2_with fail
                                refine (digitAt_some w.heap.size dl CP k (dat DD) _ (by omega) CE.out).mono ?_
                                rintro e w4 ⟨x, rfl, rfl⟩
                                go_wp2_with (at_builtin; refine wpList_append_fits _ rfl (.tmp 220) (.tmp 222) 22 rfl WD.heap.size 5 i0 1 Try.underlying22 hi hz1 WD.heap.size l 147459 _ rfl (OW3.out.alloc _) ⟨_, 0, none⟩ 1 1 [.int .u8 x] rfl rfl (cell_one_new _ _ _) (by simp [Value.oneCell']) (by omega) ?_; intro w6 own6 g6)
                                go_roundg (PT - (k + 1)).toNat
                                case measure => omega
                                case rel => exact ⟨k + 1, l + 1, true, by congr 1, rfl, rfl, by go_num, by omega, OW_step B3.out own6 g6, HI'⟩
                            · have HO5 : Hid (Out5 F PT l0 l st) := Out5_of HI.out bl0 (by omega)
                              clear HI
                              go_wp2
                              go_meet
                              case rel => exact ⟨l, st, rfl, rfl, hl8, HO, HO5⟩
                          · have HO5 : Hid (Out5 F PT l0 l st) := Out5_of HI.out bl0 (by omega)
                            clear HI
                            go_wp2
                            go_meet
                            case rel => exact ⟨l, st, rfl, rfl, hl8, HO, HO5⟩
                      case rest =>
                        clear O2
                        obtain ⟨l, st, rfl, rfl, hl8, O3, H5⟩ := hcut
                        obtain ⟨l1, hl1⟩ : ∃ l1 : Nat, l1 = if st = true then l else l + 1 := ⟨_, rfl⟩
                        have HL1 := hideN hl1
                        have bl1 : l1 ≤ 147458 := by
                          rw [hl1]
                          cases st with
                          | true => exact hl8
                          | false =>
                            rcases H5.out with ⟨_, h, _⟩ | ⟨h, _⟩
                            · show l + 1 ≤ _; omega
                            · cases h
                        have bl : st = false → l ≤ 1 := by
                          intro h
                          rcases H5.out with ⟨_, h2, _⟩ | ⟨h2, _⟩
                          · omega
                          · rw [h] at h2; cases h2
                        have BL := hideN bl
                        have H1 := hideN (l1_of (by rw [← HPT.out]; exact H5.out) hl1 (by rw [HL0.out, HNN.out]) HNZ.out)
                        clear hl1 bl H5 HL0 HNN HNZ HPT
                        go_upto_if 225 with fail
                        go_cut [18] from 224 to 228 (fun o w' => o = .slice (some ⟨WD.heap.size, 0, none⟩) l1 147459 ∧ Hid (OW WD w' l1))
                        case first =>
                          clear hRN H1 HSC
                          cases st
                          · have e : Hid (l1 = l + 1) := by show _ = _; rw [HL1.out]; rfl
                            have bl2 := BL.out rfl
                            obtain ⟨xs, own3, bel3⟩ := O3.out
                            have B3 := hideN bel3
                            have OW3 := hideN own3
                            clear HL1 O3 bel3 own3 BL
                            go_wp2_with (at_builtin; refine wpList_append_fits _ rfl (.tmp 226) (.tmp 227) 22 rfl WD.heap.size 5 i0 1 Try.underlying22 hi hz1 WD.heap.size l 147459 _ rfl (OW3.out.alloc _) ⟨_, 0, none⟩ 1 1 [.int .u8 48] rfl rfl (cell_one_new _ _ _) (by simp [Value.oneCell']) (by omega) ?_; intro w6 own6 g6)
                            go_meet
                            case rel => rw [e.out]; exact ⟨rfl, OW_step B3.out own6 g6⟩
                          · have e : Hid (l1 = l) := by show _ = _; rw [HL1.out]; rfl
                            clear HL1 BL
                            go_wp2
                            go_meet
                            case rel => rw [e.out]; exact ⟨rfl, O3⟩
                        case rest =>
                          clear O3 HL1 BL
                          obtain ⟨rfl, O4⟩ := hcut
                          go_upto_if 230 with fail
                          go_cut [18] from 229 to 252 (fun o w' => ∃ l3 : Nat, o = .slice (some ⟨WD.heap.size, 0, none⟩) l3 147459 ∧ l3 ≤ 147459 ∧ Hid (OW WD w' l3) ∧ Hid ((SC ≤ 0 ∧ l3 = l1) ∨ (0 < SC ∧ ((l3 : Int) = l1 + 1 + SC ∨ (147457 < l3 ∧ (l3 : Int) ≤ l1 + 1 + SC)))))
                          case first =>
                            clear hRN H1 HSC
                            by_cases hS : 0 < SC
                            · obtain ⟨xs, own3, bel3⟩ := O4.out
                              have B3 := hideN bel3
                              have OW3 := hideN own3
                              clear O4 bel3 own3
                              go_wp2_with (at_builtin; refine wpList_append_fits _ rfl (.tmp 231) (.tmp 232) 22 rfl WD.heap.size 5 i0 1 Try.underlying22 hi hz1 WD.heap.size l1 147459 _ rfl (OW3.out.alloc _) ⟨_, 0, none⟩ 1 1 [.int .u8 46] rfl rfl (cell_one_new _ _ _) (by simp [Value.oneCell']) (by omega) ?_; intro w6 own6 g6)
                              have O5 : Hid (OW WD w6 (l1 + 1)) := OW_step B3.out own6 g6
                              clear own6 g6 B3 OW3
                              go_loopg [18, 22] SC.toNat (fun g o kv wr => ∃ (j l : Nat) (K : Int), g = (SC - j).toNat ∧ (j : Int) ≤ SC ∧ l ≤ 147459 ∧ K ≤ PT + j ∧ PT + j ≤ K ∧ kv = .int .i64 K ∧ o = .slice (some ⟨WD.heap.size, 0, none⟩) l 147459 ∧ Hid (l = l1 + 1 + j) ∧ Hid (OW WD wr l))
                              case atStart => exact ⟨0, l1 + 1, PT, by simp, by omega, by omega, by omega, by omega, rfl, rfl, rfl, O5⟩
                              case round =>
                                clear O5
                                obtain ⟨j, l, K, rfl, hjS, hl9, hK1, hK2, rfl, rfl, HLJ, HO⟩ := hrel
                                by_cases hj : (j : Int) < SC
                                · by_cases hl : l ≤ 147457
                                  · obtain ⟨xs, own3, bel3⟩ := HO.out
                                    have hcells := DO_cell S3 HDL bel3
                                    have B3 := hideN bel3
                                    have OW3 := hideN own3
                                    have CE := hideN hcells
                                    clear bel3 own3 hcells
                                    go_wp2_with fail
                                    refine (digitAt_some w.heap.size dl CP K (dat DD) _ (by omega) CE.out).mono ?_
                                    rintro e w4 ⟨x, rfl, rfl⟩
                                    go_wp2_with (at_builtin; refine wpList_append_fits _ rfl (.tmp 247) (.tmp 251) 22 rfl WD.heap.size 5 i0 1 Try.underlying22 hi hz1 WD.heap.size l 147459 _ rfl (OW3.out.alloc _) ⟨_, 0, none⟩ 1 1 [.int .u8 x] rfl rfl (cell_one_new _ _ _) (by simp [Value.oneCell']) (by omega) ?_; intro w6 own6 g6)
                                    go_roundg (SC - (j + 1)).toNat
                                    case measure => omega
                                    case rel => exact ⟨j + 1, l + 1, K + 1, by congr 1, by omega, by omega, by omega, by omega, rfl, rfl, by show _ = _; have := HLJ.out; omega, OW_step B3.out own6 g6⟩
                                  · have HX : Hid (147457 < l ∧ (l : Int) ≤ l1 + 1 + SC) := by
                                      have := HLJ.out
                                      exact ⟨by omega, by omega⟩
                                    go_wp2
                                    go_meet
                                    case rel => exact ⟨l, rfl, hl9, HO, .inr ⟨hS, .inr HX.out⟩⟩
                                · have HX : Hid ((l : Int) = l1 + 1 + SC) := by
                                    have := HLJ.out
                                    show _ = _
                                    omega
                                  go_wp2
                                  go_meet
                                  case rel => exact ⟨l, rfl, hl9, HO, .inr ⟨hS, .inl HX.out⟩⟩
                            · go_wp2
                              go_meet
                              case rel => exact ⟨l1, rfl, by omega, O4, .inl ⟨by omega, rfl⟩⟩
                          case rest =>
                            clear O4
                            obtain ⟨l3, rfl, hl9, O5, H3⟩ := hcut
                            have hfin := hideN (ren_final HSC.out H1.out H3.out hRN.out)
                            have BEL : Hid (Below w.heap.size w wc) := S3.out.2.trans ((OW_below O5.out).mono S3.out.2.size)
                            clear hRN H1 H3 HSC O5
                            by_cases hbig : 147457 < (l3 : Int)
                            · have e : Hid (R1 = (R2 : Int) - s) := by show _ = _; rw [hfin.out, if_pos hbig]
                              clear hfin
                              go_wp2
                              go_ret2
                              exact ⟨ret_tuple2 (int_eq e.out.symm) rfl, BEL.out⟩
                            · have e : Hid (R1 = (l3 : Int)) := by show _ = _; rw [hfin.out, if_neg hbig]
                              clear hfin
                              go_wp2
                              go_ret2
                              exact ⟨ret_tuple2 (int_eq e.out.symm) rfl, BEL.out⟩

end Go.Proofs.Qxb6600239a
