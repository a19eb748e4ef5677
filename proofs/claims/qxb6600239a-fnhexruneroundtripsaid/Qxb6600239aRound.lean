import Derived.Test.Qxb6600239aHex
namespace Go.Proofs.Qxb6600239a
open Go.RowKit

theorem hide {p : Prop} (h : p) : Hid p := h

theorem add_block (x : Addr) (i : Nat) : (x.add i).block = x.block := by
  unfold Addr.add
  split <;> rfl

theorem news_of {w2 w3 : World} {a : Option Addr} {t : Nat → Int} {n : Nat} (K : Hid (∀ x, a = some x → ∀ i, i < n → w2.cell? (x.add i) = some (.int .u8 (t i)))) (L : Hid (∀ x, a = some x → x.block < w2.heap.size)) (hb : Below w2.heap.size w2 w3) :
    ∀ ad, a = some ad → ∀ j u, (bytesOf t n)[j]? = some u → w3.cell? (ad.add j) = some u := by
  intro ad had j u hj
  have hjn : j < n := by
    have := (List.getElem?_eq_some_iff.1 hj).1
    rwa [bytesOf_length] at this
  rw [bytesOf_get t n j hjn] at hj
  rw [hb.cell (by rw [add_block]; exact L.out ad had), K.out ad had j hjn]
  exact hj

/-- the digits written so far -/
def Digs (v : Int) (k : Nat) (ds : List Int) : Prop := ds.length = k ∧ ∀ j, j < k → hexv (ds.getD j 0) = some (v / 16 ^ (3 - j) % 16)

theorem upB_fin : ∀ n : Fin 16, hexv ((({ data := #[48, 49, 50, 51, 52, 53, 54, 55, 56, 57, 65, 66, 67, 68, 69, 70] } : ByteArray)[n.val]'n.isLt).toNat : Int) = some (n.val : Int) := by decide
theorem loB_fin : ∀ n : Fin 16, hexv ((({ data := #[48, 49, 50, 51, 52, 53, 54, 55, 56, 57, 97, 98, 99, 100, 101, 102] } : ByteArray)[n.val]'n.isLt).toNat : Int) = some (n.val : Int) := by decide
theorem upB_hex (d : Int) (h0 : 0 ≤ d) (h1 : d < 16) : hexv ((({ data := #[48, 49, 50, 51, 52, 53, 54, 55, 56, 57, 65, 66, 67, 68, 69, 70] } : ByteArray)[d.toNat]'(by show d.toNat < 16; omega)).toNat : Int) = some d := by
  have := upB_fin ⟨d.toNat, by omega⟩
  rw [this]; congr 1; simp; omega
theorem loB_hex (d : Int) (h0 : 0 ≤ d) (h1 : d < 16) : hexv ((({ data := #[48, 49, 50, 51, 52, 53, 54, 55, 56, 57, 97, 98, 99, 100, 101, 102] } : ByteArray)[d.toNat]'(by show d.toNat < 16; omega)).toNat : Int) = some d := by
  have := loB_fin ⟨d.toNat, by omega⟩
  rw [this]; congr 1; simp; omega

theorem getD_in (l : List Int) (j : Nat) (h : j < l.length) : l.getD j 0 = l[j] := by simp [List.getD, h]
theorem getD_out (l : List Int) (j : Nat) (h : l.length ≤ j) : l.getD j 0 = 0 := by simp [List.getD, List.getElem?_eq_none h]
theorem getD_left (l m : List Int) (j : Nat) (h : j < l.length) : (l ++ m).getD j 0 = l.getD j 0 := by simp [List.getD, List.getElem?_append_left h]
theorem getD_right (l m : List Int) (j : Nat) (h : l.length ≤ j) : (l ++ m).getD j 0 = m.getD (j - l.length) 0 := by simp [List.getD, List.getElem?_append_right h]
theorem wraps_u16 (n : Int) (h₀ : 0 ≤ n) (h₁ : n < 2 ^ 16) : IntKind.u16.wrap n = n := by rw [IntKind.wrap_u16]; omega

theorem digs_step {v : Int} {k : Nat} {ds : List Int} {x d : Int} (D : Hid (Digs v k ds)) (hx : Hid (hexv x = some d)) (hd : d = v / 16 ^ (3 - k) % 16) : Hid (Digs v (k + 1) (ds ++ [x])) := by
  obtain ⟨h1, h2⟩ := D.out
  refine ⟨by simp [h1], fun j hj => ?_⟩
  by_cases hjk : j < k
  · have := h2 j hjk
    rwa [getD_left _ _ _ (by omega)]
  · obtain rfl : j = k := by omega
    rw [← hd, ← hx.out, ← h1]
    simp

theorem own_step {w6 : World} {B p k c : Nat} {tp : Nat → Int} {ds : List Int} {x : Int} (h : w6.ownsRow B 5 1 (.slice (some ⟨B, 0, none⟩) (p + k + 1) c) (p + k + 1) (bytesOf tp p ++ ds.map (Value.int .u8) ++ [.int .u8 x])) :
    Hid (w6.ownsRow B 5 1 (.slice (some ⟨B, 0, none⟩) (p + (k + 1)) c) (p + (k + 1)) (bytesOf tp p ++ (ds ++ [x]).map (Value.int .u8))) := by
  show World.ownsRow _ _ _ _ _ _ _
  rw [← Nat.add_assoc]
  simpa using h

theorem below_step {w2 wr w6 : World} {o : Obj} (B5 : Hid (Below w2.heap.size w2 wr)) (g6 : (wr.alloc o).grownBy w6 (some w2.heap.size)) : Hid (Below w2.heap.size w2 w6) :=
  (B5.out.alloc B5.out.size o).grown g6 (by have := B5.out.size; simp; omega) (by simp)

/-- the text that is built -/
def txt (tp : Nat → Int) (p : Nat) (ds : List Int) (ts : Nat → Int) (s j : Nat) : Int := ((List.range p).map tp ++ ds ++ (List.range s).map ts).getD j 0

theorem hexv_lt {c d : Int} (h : hexv c = some d) : 0 ≤ c ∧ c ≤ 255 := by
  unfold hexv at h
  split at h
  · omega
  · split at h
    · omega
    · split at h
      · omega
      · cases h

theorem txt_bd {tp : Nat → Int} {p : Nat} {ds : List Int} {ts : Nat → Int} {s : Nat} {v : Int} (htp : ∀ i, 0 ≤ tp i ∧ tp i ≤ 255) (hts : ∀ i, 0 ≤ ts i ∧ ts i ≤ 255) (D : Digs v 4 ds) (j : Nat) : 0 ≤ txt tp p ds ts s j ∧ txt tp p ds ts s j ≤ 255 := by
  have key : ∀ z ∈ (List.range p).map tp ++ ds ++ (List.range s).map ts, 0 ≤ z ∧ z ≤ 255 := by
    intro z hz
    simp only [List.mem_append, List.mem_map] at hz
    rcases hz with (⟨i, _, rfl⟩ | hz) | ⟨i, _, rfl⟩
    · exact htp i
    · obtain ⟨i, hi, rfl⟩ := List.getElem_of_mem hz
      have := D.2 i (by have := D.1; omega)
      rw [getD_in _ _ hi] at this
      exact hexv_lt this
    · exact hts i
  unfold txt
  by_cases h : j < ((List.range p).map tp ++ ds ++ (List.range s).map ts).length
  · rw [getD_in _ _ h]
    exact key _ (List.getElem_mem h)
  · rw [getD_out _ _ (by omega)]
    omega

theorem txt_hex {tp : Nat → Int} {p : Nat} {ds : List Int} {ts : Nat → Int} {s : Nat} {v : Int} (hv : 0 ≤ v ∧ v < 65536) (D : Digs v 4 ds) : hexR (txt tp p ds ts s) (p + 4 + s) p = some v := by
  have e : ∀ k, k < 4 → txt tp p ds ts s (p + k) = ds.getD k 0 := by
    intro k hk
    unfold txt
    have h1 := D.1
    rw [getD_left _ _ _ (by simp; omega), getD_right _ _ _ (by simp)]
    simp
  have d0 := D.2 0 (by omega)
  have d1 := D.2 1 (by omega)
  have d2 := D.2 2 (by omega)
  have d3 := D.2 3 (by omega)
  rw [← e 0 (by omega)] at d0
  rw [← e 1 (by omega)] at d1
  rw [← e 2 (by omega)] at d2
  rw [← e 3 (by omega)] at d3
  unfold hexR
  rw [if_neg (by omega)]
  simp only [hexN, d0, d1, d2, d3, Option.bind_some, Option.map_some]
  congr 1
  simp
  omega

theorem txt_cells {w : World} {B p s c : Nat} {tp ts : Nat → Int} {ds : List Int} (h1 : ds.length = 4) (h : w.ownsRow B 5 1 (.slice (some ⟨B, 0, none⟩) (p + 4 + s) c) (p + 4 + s) (bytesOf tp p ++ ds.map (Value.int .u8) ++ bytesOf ts s)) :
    ∀ j, j < p + 4 + s → w.cell? ⟨B, 0 + j, none⟩ = some (.int .u8 (txt tp p ds ts s j)) := by
  intro j hj
  rw [Nat.zero_add, h.cellAt j (by omega)]
  have e : bytesOf tp p ++ ds.map (Value.int .u8) ++ bytesOf ts s = ((List.range p).map tp ++ ds ++ (List.range s).map ts).map (Value.int .u8) := by
    simp [bytesOf, Function.comp_def]
  have hl : j < ((List.range p).map tp ++ ds ++ (List.range s).map ts).length := by simp; omega
  rw [e, List.getElem?_map, List.getElem?_eq_getElem hl]
  simp only [Option.map_some, txt]
  rw [getD_in _ _ hl]

theorem zz10 (a a' : Option Addr) (n c n' c' : Nat) (v u : Int) (w : World) (h : n ≤ 524288) (h' : n' ≤ 524288) :
    Calls Try.prog 10 #[.slice a n c, .int .u16 v, .int .u8 u, .slice a' n' c'] w fun e w' => e = .returned (.bool true) ∧ w' = w := by
  go_enter Try.func10, Try.ntmps10
  go_wp2
  go_ret
  exact ⟨rfl, rfl⟩

/-- ZZhexRune is hexRune -/
theorem zzhex (b off n cap i : Nat) (t : Nat → Int) (w : World) (hn : n ≤ 1048580) (hcap : n ≤ cap) (hcm : cap ≤ maxLen) (hi : i ≤ n) (hc : ∀ j, j < n → w.cell? ⟨b, off + j, none⟩ = some (.int .u8 (t j))) (ht : ∀ j, 0 ≤ t j ∧ t j ≤ 255) :
    Calls Try.prog 12 #[.slice (some ⟨b, off, none⟩) n cap, .int .i64 i] w fun e w' => e = .returned (.tuple #[.int .i32 ((hexR t n i).getD 0), .bool (hexR t n i).isSome]) ∧ w' = w := by
  go_enter Try.func12, Try.ntmps12
  go_wp2_with (go_at_call 24; refine (hexRune_any b off n cap i t _ hn hcap hcm hi hc ht).mono ?_; rintro e w' ⟨rfl, rfl⟩)
  go_ret2
  exact ⟨rfl, rfl⟩

theorem zzhexV (b off n cap i : Nat) (t : Nat → Int) (v : Int) (w : World) (hn : n ≤ 1048580) (hcap : n ≤ cap) (hcm : cap ≤ maxLen) (hi : i ≤ n) (hc : ∀ j, j < n → w.cell? ⟨b, off + j, none⟩ = some (.int .u8 (t j))) (ht : ∀ j, 0 ≤ t j ∧ t j ≤ 255) (hx : hexR t n i = some v) :
    Calls Try.prog 12 #[.slice (some ⟨b, off, none⟩) n cap, .int .i64 i] w fun e w' => e = .returned (.tuple #[.int .i32 v, .bool true]) ∧ w' = w := by
  have := zzhex b off n cap i t w hn hcap hcm hi hc ht
  rw [hx] at this
  exact this

set_option maxHeartbeats 1000000 in
theorem round_main (a : Option Addr) (p c : Nat) (tp : Nat → Int) (v u : Int) (a' : Option Addr) (s c' : Nat) (ts : Nat → Int) (w : World) (hp : p ≤ 524288) (hs : s ≤ 524288) (hv : 0 ≤ v ∧ v < 65536) (_hu : 0 ≤ u ∧ u < 256) (htp : ∀ i, 0 ≤ tp i ∧ tp i ≤ 255) (hts : ∀ i, 0 ≤ ts i ∧ ts i ≤ 255)
    (h0 : a = none → p = 0 ∧ c = 0) (hc : ∀ x, a = some x → ∀ i, i < p → w.cell? (x.add i) = some (.int .u8 (tp i)))
    (h0' : a' = none → s = 0 ∧ c' = 0) (hc' : ∀ x, a' = some x → ∀ i, i < s → w.cell? (x.add i) = some (.int .u8 (ts i))) :
    Calls Try.prog 3 #[.slice a p c, .int .u16 v, .int .u8 u, .slice a' s c'] w fun e w' => e = .returned (.bool true) ∧ Below w.heap.size w w' := by
  obtain ⟨i0, hi, hz0, hz1, hz2⟩ := info_parts Try.info5
  have hlt' : ∀ x, a' = some x → s = 0 ∨ x.block < w.heap.size := fun x hx => by
    rcases Nat.eq_zero_or_pos s with h | h
    · exact .inl h
    · exact .inr (by have := block_lt_of_cell (hc' x hx 0 h); simpa [Addr.add] using this)
  go_enter Try.func3, Try.ntmps3
  go_wp2_with (first | (go_at_call 10; refine (zz10 _ _ _ _ _ _ _ _ _ hp hs).mono ?_; rintro e w' ⟨rfl, rfl⟩) | fail)
  refine (copyB_any a p c tp _ (by omega) h0 hc).mono ?_
  rintro e w1 ⟨a1, c1, rfl, n1, k1, l1, b1⟩
  have hc1 : ∀ x, a' = some x → ∀ i, i < s → w1.cell? (x.add i) = some (.int .u8 (ts i)) := fun x hx i hi => by
    rw [b1.cell (by rcases hlt' x hx with h | h; · omega
                    · rw [add_block]; exact h)]
    exact hc' x hx i hi
  have N1 := hide n1
  have K1 := hide k1
  have L1 := hide l1
  have C1 := hide hc1
  have B1 := hide b1
  clear n1 k1 l1 hc1 b1 hc hc' hlt' h0
  go_wp2_with fail
  refine (copyB_any a' s c' ts _ (by omega) h0' C1.out).mono ?_
  rintro e w2 ⟨a2, c2, rfl, n2, k2, l2, b2⟩
  have k12 : ∀ x, a1 = some x → ∀ i, i < p → w2.cell? (x.add i) = some (.int .u8 (tp i)) := fun x hx i hi => by
    rw [b2.cell (by rw [add_block]; exact L1.out x hx)]
    exact K1.out x hx i hi
  have l12 : ∀ x, a1 = some x → x.block < w2.heap.size := fun x hx => Nat.lt_of_lt_of_le (L1.out x hx) b2.size
  have bb : Below _ _ w2 := B1.out.trans (b2.mono B1.out.size)
  have N2 := hide n2
  have K12 := hide k12
  have K2 := hide k2
  have L12 := hide l12
  have L2 := hide l2
  have BB := hide bb
  clear n2 k12 k2 l12 l2 bb b2 C1 K1 L1 B1 h0'
  go_wp2_with (first | (at_make; refine wpList_make_own _ rfl _ _ 22 rfl w2.heap.size 5 i0 (.int .u8 0) 1 Try.underlying22 hi hz0 hz1 .i64 .i64 _ (p + 4 + s) rfl rfl (by omega) (by rw [hz2]; omega) (by unfold maxLen; omega) (Nat.le_refl _) ?_; intro w3 own3 g3; have b3 := hide ((Below.refl w2.heap.size w2).grown g3 (Nat.le_refl _) (by simp))) | (at_builtin; refine wpList_append_fits_any _ rfl (.tmp 39) (.tmp 40) 22 rfl w2.heap.size 5 i0 1 Try.underlying22 hi hz1 w2.heap.size 0 (p + 4 + s) [] rfl own3 a1 p c1 (bytesOf tp p) rfl (by simp [bytesOf_length]) N1.out (news_of K12 L12 b3.out) (bytesOf_one _ _) (by omega) ?_; intro w4 own4 g4))
  simp only [Nat.zero_add, List.nil_append] at own4
  have b4 : Below w2.heap.size w2 w4 := b3.out.grown g4 b3.out.size (by simp)
  have B4 := hide b4
  have O4 := hide own4
  clear b4 b3 g3 g4 own3 own4 N1 K12 L12
  go_loopg [9, 10] 4 (fun g tv kv wr => ∃ (k : Nat) (ds : List Int), g + k = 4 ∧ kv = .int .i64 k ∧ tv = .slice (some ⟨w2.heap.size, 0, none⟩) (p + k) (p + 4 + s) ∧ Hid (wr.ownsRow w2.heap.size 5 1 (.slice (some ⟨w2.heap.size, 0, none⟩) (p + k) (p + 4 + s)) (p + k) (bytesOf tp p ++ ds.map (Value.int .u8))) ∧ Hid (Below w2.heap.size w2 wr) ∧ Hid (Digs v k ds))
  case atStart => exact ⟨0, [], rfl, rfl, rfl, by simpa using O4, B4, rfl, by simp⟩
  case round =>
    obtain ⟨k, ds, hk, rfl, rfl, O5, B5, D5⟩ := hrel
    have hk' : k = 0 ∨ k = 1 ∨ k = 2 ∨ k = 3 ∨ k = 4 := by omega
    rcases hk' with rfl | rfl | rfl | rfl | rfl
    · obtain ⟨d, hd0⟩ : ∃ d, d = v / 4096 % 16 := ⟨_, rfl⟩
      have hd : bits .and .u16 (v / 4096) 15 = d := by rw [hd0]; exact bits_mask .u16 16 (by decide) wraps_u16 4 (by decide) _ (by omega) (by omega)
      have hd1 : 0 ≤ d ∧ d < 16 := by omega
      have HD := hide hd0
      clear hd0
      by_cases hup : (bits .and .u8 (u) 1 == 1) = true
      · obtain ⟨x, hx0⟩ : ∃ x : Int, x = ((({ data := #[48, 49, 50, 51, 52, 53, 54, 55, 56, 57, 65, 66, 67, 68, 69, 70] } : ByteArray)[d.toNat]'(by show d.toNat < 16; omega)).toNat : Int) := ⟨_, rfl⟩
        have hxv : hexv x = some d := by rw [hx0]; exact upB_hex d hd1.1 hd1.2
        have hx := hx0.symm
        have HX := hide hxv
        clear hx0 hxv
        go_wp2_with (at_builtin; refine wpList_append_fits _ rfl (.tmp 59) (.tmp 62) 22 rfl w2.heap.size 5 i0 1 Try.underlying22 hi hz1 w2.heap.size (p + 0) (p + 4 + s) _ rfl (O5.out.alloc _) ⟨wr.heap.size, 0, none⟩ 1 1 [.int .u8 x] rfl rfl (cell_one_new _ _ _) (by simp [Value.oneCell']) (by omega) ?_; intro w6 own6 g6)
        go_roundg (gk - 1)
        case measure => omega
        case rel => exact ⟨0 + 1, ds ++ [x], by omega, by go_num, rfl, own_step own6, below_step B5 g6, digs_step D5 HX (by have := HD.out; simpa using this)⟩
      · have hup' : (bits .and .u8 (u) 1 == 1) = false := by simpa using hup
        clear hup
        obtain ⟨x, hx0⟩ : ∃ x : Int, x = ((({ data := #[48, 49, 50, 51, 52, 53, 54, 55, 56, 57, 97, 98, 99, 100, 101, 102] } : ByteArray)[d.toNat]'(by show d.toNat < 16; omega)).toNat : Int) := ⟨_, rfl⟩
        have hxv : hexv x = some d := by rw [hx0]; exact loB_hex d hd1.1 hd1.2
        have hx := hx0.symm
        have HX := hide hxv
        clear hx0 hxv
        go_wp2_with (at_builtin; refine wpList_append_fits _ rfl (.tmp 64) (.tmp 67) 22 rfl w2.heap.size 5 i0 1 Try.underlying22 hi hz1 w2.heap.size (p + 0) (p + 4 + s) _ rfl (O5.out.alloc _) ⟨wr.heap.size, 0, none⟩ 1 1 [.int .u8 x] rfl rfl (cell_one_new _ _ _) (by simp [Value.oneCell']) (by omega) ?_; intro w6 own6 g6)
        go_roundg (gk - 1)
        case measure => omega
        case rel => exact ⟨0 + 1, ds ++ [x], by omega, by go_num, rfl, own_step own6, below_step B5 g6, digs_step D5 HX (by have := HD.out; simpa using this)⟩
    · obtain ⟨d, hd0⟩ : ∃ d, d = v / 256 % 16 := ⟨_, rfl⟩
      have hd : bits .and .u16 (v / 256) 15 = d := by rw [hd0]; exact bits_mask .u16 16 (by decide) wraps_u16 4 (by decide) _ (by omega) (by omega)
      have hd1 : 0 ≤ d ∧ d < 16 := by omega
      have HD := hide hd0
      clear hd0
      by_cases hup : (bits .and .u8 (u / 2) 1 == 1) = true
      · obtain ⟨x, hx0⟩ : ∃ x : Int, x = ((({ data := #[48, 49, 50, 51, 52, 53, 54, 55, 56, 57, 65, 66, 67, 68, 69, 70] } : ByteArray)[d.toNat]'(by show d.toNat < 16; omega)).toNat : Int) := ⟨_, rfl⟩
        have hxv : hexv x = some d := by rw [hx0]; exact upB_hex d hd1.1 hd1.2
        have hx := hx0.symm
        have HX := hide hxv
        clear hx0 hxv
        go_wp2_with (at_builtin; refine wpList_append_fits _ rfl (.tmp 59) (.tmp 62) 22 rfl w2.heap.size 5 i0 1 Try.underlying22 hi hz1 w2.heap.size (p + 1) (p + 4 + s) _ rfl (O5.out.alloc _) ⟨wr.heap.size, 0, none⟩ 1 1 [.int .u8 x] rfl rfl (cell_one_new _ _ _) (by simp [Value.oneCell']) (by omega) ?_; intro w6 own6 g6)
        go_roundg (gk - 1)
        case measure => omega
        case rel => exact ⟨1 + 1, ds ++ [x], by omega, by go_num, rfl, own_step own6, below_step B5 g6, digs_step D5 HX (by have := HD.out; simpa using this)⟩
      · have hup' : (bits .and .u8 (u / 2) 1 == 1) = false := by simpa using hup
        clear hup
        obtain ⟨x, hx0⟩ : ∃ x : Int, x = ((({ data := #[48, 49, 50, 51, 52, 53, 54, 55, 56, 57, 97, 98, 99, 100, 101, 102] } : ByteArray)[d.toNat]'(by show d.toNat < 16; omega)).toNat : Int) := ⟨_, rfl⟩
        have hxv : hexv x = some d := by rw [hx0]; exact loB_hex d hd1.1 hd1.2
        have hx := hx0.symm
        have HX := hide hxv
        clear hx0 hxv
        go_wp2_with (at_builtin; refine wpList_append_fits _ rfl (.tmp 64) (.tmp 67) 22 rfl w2.heap.size 5 i0 1 Try.underlying22 hi hz1 w2.heap.size (p + 1) (p + 4 + s) _ rfl (O5.out.alloc _) ⟨wr.heap.size, 0, none⟩ 1 1 [.int .u8 x] rfl rfl (cell_one_new _ _ _) (by simp [Value.oneCell']) (by omega) ?_; intro w6 own6 g6)
        go_roundg (gk - 1)
        case measure => omega
        case rel => exact ⟨1 + 1, ds ++ [x], by omega, by go_num, rfl, own_step own6, below_step B5 g6, digs_step D5 HX (by have := HD.out; simpa using this)⟩
    · obtain ⟨d, hd0⟩ : ∃ d, d = v / 16 % 16 := ⟨_, rfl⟩
      have hd : bits .and .u16 (v / 16) 15 = d := by rw [hd0]; exact bits_mask .u16 16 (by decide) wraps_u16 4 (by decide) _ (by omega) (by omega)
      have hd1 : 0 ≤ d ∧ d < 16 := by omega
      have HD := hide hd0
      clear hd0
      by_cases hup : (bits .and .u8 (u / 4) 1 == 1) = true
      · obtain ⟨x, hx0⟩ : ∃ x : Int, x = ((({ data := #[48, 49, 50, 51, 52, 53, 54, 55, 56, 57, 65, 66, 67, 68, 69, 70] } : ByteArray)[d.toNat]'(by show d.toNat < 16; omega)).toNat : Int) := ⟨_, rfl⟩
        have hxv : hexv x = some d := by rw [hx0]; exact upB_hex d hd1.1 hd1.2
        have hx := hx0.symm
        have HX := hide hxv
        clear hx0 hxv
        go_wp2_with (at_builtin; refine wpList_append_fits _ rfl (.tmp 59) (.tmp 62) 22 rfl w2.heap.size 5 i0 1 Try.underlying22 hi hz1 w2.heap.size (p + 2) (p + 4 + s) _ rfl (O5.out.alloc _) ⟨wr.heap.size, 0, none⟩ 1 1 [.int .u8 x] rfl rfl (cell_one_new _ _ _) (by simp [Value.oneCell']) (by omega) ?_; intro w6 own6 g6)
        go_roundg (gk - 1)
        case measure => omega
        case rel => exact ⟨2 + 1, ds ++ [x], by omega, by go_num, rfl, own_step own6, below_step B5 g6, digs_step D5 HX (by have := HD.out; simpa using this)⟩
      · have hup' : (bits .and .u8 (u / 4) 1 == 1) = false := by simpa using hup
        clear hup
        obtain ⟨x, hx0⟩ : ∃ x : Int, x = ((({ data := #[48, 49, 50, 51, 52, 53, 54, 55, 56, 57, 97, 98, 99, 100, 101, 102] } : ByteArray)[d.toNat]'(by show d.toNat < 16; omega)).toNat : Int) := ⟨_, rfl⟩
        have hxv : hexv x = some d := by rw [hx0]; exact loB_hex d hd1.1 hd1.2
        have hx := hx0.symm
        have HX := hide hxv
        clear hx0 hxv
        go_wp2_with (at_builtin; refine wpList_append_fits _ rfl (.tmp 64) (.tmp 67) 22 rfl w2.heap.size 5 i0 1 Try.underlying22 hi hz1 w2.heap.size (p + 2) (p + 4 + s) _ rfl (O5.out.alloc _) ⟨wr.heap.size, 0, none⟩ 1 1 [.int .u8 x] rfl rfl (cell_one_new _ _ _) (by simp [Value.oneCell']) (by omega) ?_; intro w6 own6 g6)
        go_roundg (gk - 1)
        case measure => omega
        case rel => exact ⟨2 + 1, ds ++ [x], by omega, by go_num, rfl, own_step own6, below_step B5 g6, digs_step D5 HX (by have := HD.out; simpa using this)⟩
    · obtain ⟨d, hd0⟩ : ∃ d, d = v % 16 := ⟨_, rfl⟩
      have hd : bits .and .u16 (v) 15 = d := by rw [hd0]; exact bits_mask .u16 16 (by decide) wraps_u16 4 (by decide) _ (by omega) (by omega)
      have hd1 : 0 ≤ d ∧ d < 16 := by omega
      have HD := hide hd0
      clear hd0
      by_cases hup : (bits .and .u8 (u / 8) 1 == 1) = true
      · obtain ⟨x, hx0⟩ : ∃ x : Int, x = ((({ data := #[48, 49, 50, 51, 52, 53, 54, 55, 56, 57, 65, 66, 67, 68, 69, 70] } : ByteArray)[d.toNat]'(by show d.toNat < 16; omega)).toNat : Int) := ⟨_, rfl⟩
        have hxv : hexv x = some d := by rw [hx0]; exact upB_hex d hd1.1 hd1.2
        have hx := hx0.symm
        have HX := hide hxv
        clear hx0 hxv
        go_wp2_with (at_builtin; refine wpList_append_fits _ rfl (.tmp 59) (.tmp 62) 22 rfl w2.heap.size 5 i0 1 Try.underlying22 hi hz1 w2.heap.size (p + 3) (p + 4 + s) _ rfl (O5.out.alloc _) ⟨wr.heap.size, 0, none⟩ 1 1 [.int .u8 x] rfl rfl (cell_one_new _ _ _) (by simp [Value.oneCell']) (by omega) ?_; intro w6 own6 g6)
        go_roundg (gk - 1)
        case measure => omega
        case rel => exact ⟨3 + 1, ds ++ [x], by omega, by go_num, rfl, own_step own6, below_step B5 g6, digs_step D5 HX (by have := HD.out; simpa using this)⟩
      · have hup' : (bits .and .u8 (u / 8) 1 == 1) = false := by simpa using hup
        clear hup
        obtain ⟨x, hx0⟩ : ∃ x : Int, x = ((({ data := #[48, 49, 50, 51, 52, 53, 54, 55, 56, 57, 97, 98, 99, 100, 101, 102] } : ByteArray)[d.toNat]'(by show d.toNat < 16; omega)).toNat : Int) := ⟨_, rfl⟩
        have hxv : hexv x = some d := by rw [hx0]; exact loB_hex d hd1.1 hd1.2
        have hx := hx0.symm
        have HX := hide hxv
        clear hx0 hxv
        go_wp2_with (at_builtin; refine wpList_append_fits _ rfl (.tmp 64) (.tmp 67) 22 rfl w2.heap.size 5 i0 1 Try.underlying22 hi hz1 w2.heap.size (p + 3) (p + 4 + s) _ rfl (O5.out.alloc _) ⟨wr.heap.size, 0, none⟩ 1 1 [.int .u8 x] rfl rfl (cell_one_new _ _ _) (by simp [Value.oneCell']) (by omega) ?_; intro w6 own6 g6)
        go_roundg (gk - 1)
        case measure => omega
        case rel => exact ⟨3 + 1, ds ++ [x], by omega, by go_num, rfl, own_step own6, below_step B5 g6, digs_step D5 HX (by have := HD.out; simpa using this)⟩
    · have hb5 := B5.out.size
      have hx := txt_hex (tp := tp) (p := p) (ts := ts) (s := s) hv D5.out
      have hT := txt_bd (p := p) (s := s) htp hts D5.out
      have HX := hide hx
      have HT := hide hT
      clear hx hT
      go_wp2_with (first | (at_builtin; refine wpList_append_fits_any _ rfl (.tmp 69) (.tmp 70) 22 rfl w2.heap.size 5 i0 1 Try.underlying22 hi hz1 w2.heap.size (p + 4) (p + 4 + s) _ rfl O5.out a2 s c2 (bytesOf ts s) rfl (by simp [bytesOf_length]) N2.out (news_of K2 L2 B5.out) (bytesOf_one _ _) (by omega) ?_; intro w7 own7 g7; have C7 := hide (txt_cells D5.out.1 own7); have b7 := hide (B5.out.grown g7 hb5 (by simp))) | (go_at_call 12; refine (zzhexV w2.heap.size 0 (p + 4 + s) (p + 4 + s) p _ v _ (by omega) (Nat.le_refl _) (by unfold maxLen; omega) (by omega) C7.out HT.out HX.out).mono ?_; rintro e w' ⟨rfl, rfl⟩))
      go_ret
      exact ⟨rfl, BB.out.trans (b7.out.mono BB.out.size)⟩

end Go.Proofs.Qxb6600239a
