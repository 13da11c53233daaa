import Derived.Test.Qxb6602497aEuB
namespace Go.Proofs.Qxb6602497a
open Go.RowKit
set_option linter.unusedVariables false

/-- the k-th nibble, from the highest -/
def nib (x : Int) (k : Nat) : Int := x / 2 ^ (12 - 4 * k) % 16
def low (n : Int) : Int := if n < 10 then 48 + n else 87 + n
def cap (n : Int) : Int := if n < 10 then 48 + n else 55 + n
/-- the k-th digit that is written -/
def dig (x y : Int) (k : Nat) : Int := if y / 2 ^ k % 2 = 1 then cap (nib x k) else low (nib x k)

theorem nib_lo (x : Int) (k : Nat) : 0 ≤ nib x k := by unfold nib; omega
theorem nib_hi (x : Int) (k : Nat) : nib x k < 16 := by unfold nib; omega
theorem u16_and15 (x : Int) (h0 : 0 ≤ x) (h1 : x < 65536) : bits .and .u16 x 15 = x % 16 :=
  bits_mask .u16 16 (by decide) (fun n h₀ h₁ => by simp [IntKind.wrap, IntKind.bits, IntKind.signed]; omega) 4 (by decide) x h0 h1
theorem u8_and1 (x : Int) (h0 : 0 ≤ x) (h1 : x < 256) : bits .and .u8 x 1 = x % 2 :=
  bits_mask .u8 8 (by decide) wraps_u8 1 (by decide) x h0 h1

theorem sixteen (n : Int) (h0 : 0 ≤ n) (h1 : n < 16) : n = 0 ∨ n = 1 ∨ n = 2 ∨ n = 3 ∨ n = 4 ∨ n = 5 ∨ n = 6 ∨ n = 7 ∨ n = 8 ∨ n = 9 ∨ n = 10 ∨ n = 11 ∨ n = 12 ∨ n = 13 ∨ n = 14 ∨ n = 15 := by omega

theorem low_run (W : World) (n : Int) (h0 : 0 ≤ n) (h1 : n < 16) :
    (Instr.index 9 (.string { data := #[48, 49, 50, 51, 52, 53, 54, 55, 56, 57, 97, 98, 99, 100, 101, 102] }) (.int .u16 n)).run Try.prog W = .ok (.int .u8 (low n)) W := by
  rw [run_index_string W 9 _ .u16 n Try.underlying9]
  rcases sixteen n h0 h1 with rfl | rfl | rfl | rfl | rfl | rfl | rfl | rfl | rfl | rfl | rfl | rfl | rfl | rfl | rfl | rfl <;> rfl
theorem cap_run (W : World) (n : Int) (h0 : 0 ≤ n) (h1 : n < 16) :
    (Instr.index 9 (.string { data := #[48, 49, 50, 51, 52, 53, 54, 55, 56, 57, 65, 66, 67, 68, 69, 70] }) (.int .u16 n)).run Try.prog W = .ok (.int .u8 (cap n)) W := by
  rw [run_index_string W 9 _ .u16 n Try.underlying9]
  rcases sixteen n h0 h1 with rfl | rfl | rfl | rfl | rfl | rfl | rfl | rfl | rfl | rfl | rfl | rfl | rfl | rfl | rfl | rfl <;> rfl

theorem own_start {W : World} {B n C : Nat} {l : List Value} {f : Nat → Int} (h : W.ownsRow B 5 1 (.slice (some ⟨B, 0, none⟩) (n + 2) C) (n + 2) (l ++ bys [92, 117])) :
    W.ownsRow B 5 1 (.slice (some ⟨B, 0, none⟩) (n + 2 + 0) C) (n + 2 + 0) (l ++ bys [92, 117] ++ bys ((List.range 0).map f)) := by
  simpa [bys] using h

theorem own_step {W : World} {B n C : Nat} {l : List Value} {f : Nat → Int} (k : Nat) {v : Int} (h : W.ownsRow B 5 1 (.slice (some ⟨B, 0, none⟩) (n + 2 + k + 1) C) (n + 2 + k + 1) (l ++ bys ((List.range k).map f) ++ bys [v])) (hv : f k = v) :
    W.ownsRow B 5 1 (.slice (some ⟨B, 0, none⟩) (n + 2 + (k + 1)) C) (n + 2 + (k + 1)) (l ++ bys ((List.range (k + 1)).map f)) := by
  have e : l ++ bys ((List.range (k + 1)).map f) = l ++ bys ((List.range k).map f) ++ bys [v] := by
    rw [List.range_succ, ← hv]; simp [bys]
  rw [e]
  exact h

theorem dig_low {x y : Int} {k : Nat} (h : ¬ y / 2 ^ k % 2 = 1) : dig x y k = low (nib x k) := by unfold dig; rw [if_neg h]
theorem dig_cap {x y : Int} {k : Nat} (h : y / 2 ^ k % 2 = 1) : dig x y k = cap (nib x k) := by unfold dig; rw [if_pos h]

theorem dig_hex (x y : Int) (k : Nat) : Hex (dig x y k) (nib x k) := by
  have h0 := nib_lo x k
  have h1 := nib_hi x k
  unfold dig low cap Hex
  split <;> split <;> omega

theorem upto_nib (x : Int) (x0 : 0 ≤ x) (x1 : x ≤ 65535) : upto (nib x) 4 = x := by
  simp only [upto, nib]
  omega

theorem tail_cells {W : World} {B n C m : Nat} {z0 z3 : List Int} {f : Nat → Int} (hl : z0.length = n)
    (h : W.ownsRow B 5 1 (.slice (some ⟨B, 0, none⟩) (n + 2 + 4 + m) C) (n + 2 + 4 + m) (bys z0 ++ bys [92, 117] ++ bys ((List.range 4).map f) ++ bys z3)) :
    W.cell? ⟨B, n, none⟩ = some (.int .u8 92) ∧ W.cell? ⟨B, n + 1, none⟩ = some (.int .u8 117) ∧ ∀ k, k < 4 → W.cell? ⟨B, n + 2 + k, none⟩ = some (.int .u8 (f k)) := by
  have hlen : (bys z0).length = n := by simp [bys, hl]
  have e : ∀ j, j < 6 → W.cell? ⟨B, n + j, none⟩ = (bys [92, 117, f 0, f 1, f 2, f 3])[j]? := by
    intro j hj
    rw [h.cellAt (n + j) (by omega)]
    have e1 : bys z0 ++ bys [92, 117] ++ bys ((List.range 4).map f) ++ bys z3 = bys z0 ++ (bys [92, 117, f 0, f 1, f 2, f 3] ++ bys z3) := by
      simp [bys, List.range_succ]
    rw [e1, List.getElem?_append_right (by omega), hlen, Nat.add_sub_cancel_left, List.getElem?_append_left (by simp [bys]; omega)]
  refine ⟨e 0 (by omega), e 1 (by omega), ?_⟩
  intro k hk
  have hcase : k = 0 ∨ k = 1 ∨ k = 2 ∨ k = 3 := by omega
  rcases hcase with rfl | rfl | rfl | rfl
  · exact e 2 (by omega)
  · exact e 3 (by omega)
  · exact e 4 (by omega)
  · exact e 5 (by omega)

set_option maxHeartbeats 3200000 in
theorem law_in (a0 a3 : Option Addr) (n0 c0 n3 c3 : Nat) (z0 z3 : List Int) (x y : Int) (w : World) (h0 : BytesAt w a0 n0 c0 z0) (h3 : BytesAt w a3 n3 c3 z3) (m0 : n0 ≤ 524288) (m3 : n3 ≤ 524288) (x0 : 0 ≤ x) (x1 : x ≤ 65535) (y0 : 0 ≤ y) (y1 : y ≤ 255) :
    Calls Try.prog 4 #[.slice a0 n0 c0, .int .u16 x, .int .u8 y, .slice a3 n3 c3] w fun e w' => e = .returned (.bool true) ∧ Below w.heap.size w w' := by
  obtain ⟨i0, hi, hz0, hz1, hz2⟩ := info_parts info5
  have g1 : ¬ (524288 : Int) < (n0 : Int) := by omega
  have g1' : decide ((524288 : Int) < (n0 : Int)) = false := by simpa using g1
  have g2 : ¬ (524288 : Int) < (n3 : Int) := by omega
  go_enter Try.func4, Try.ntmps4
  go_wp2_with fail
  refine (zz8_any a0 a3 n0 c0 n3 c3 x y _ (by unfold maxLen; omega) (by unfold maxLen; omega)).mono ?_
  rintro e w ⟨⟨b, rfl⟩, rfl⟩
  cases b
  · go_wp2
    go_ret
    exact ⟨rfl, Below.refl _ _⟩
  have tok1 : True := trivial
  go_wp2_with (first
    | (at_make; refine wpList_make_own _ rfl _ _ 22 rfl w.heap.size 5 i0 _ 1 Try.underlying22 hi hz0 hz1 _ _ _ (n0 + 6 + n3) rfl rfl (by omega) (by rw [hz2]; omega) (by unfold maxLen; omega) (Nat.le_refl _) ?_; intro w1 hown1 hgrow1
       have hb1 : Below w.heap.size w w1 := (Below.refl _ w).grown hgrow1 (Nat.le_refl _) (fun _ h => by cases h)
       clear hgrow1)
    | (at_builtin; have _t := tok1; refine wpList_append_fits_any _ rfl _ _ 22 rfl w.heap.size 5 i0 1 Try.underlying22 hi hz1 w.heap.size 0 (n0 + 6 + n3) [] rfl hown1 a0 n0 c0 (bys z0) rfl (by simp [bys, h0.len]) h0.nil (fun ad e j u hu => ((h0.below hb1).cell ad e j u hu).1) (bys_one z0) (by omega) ?_; intro w2 hown2' hgrow2
       have hb2 : Below w.heap.size w w2 := hb1.grown hgrow2 hb1.size (fun k h => by cases h; exact Nat.le_refl _)
       have hown2 := own_first hown2'
       clear hgrow2 hb1 hown1 hown2' tok1)
    | (at_builtin; refine wpList_append_fits _ rfl _ _ 22 rfl w.heap.size 5 i0 1 Try.underlying22 hi hz1 w.heap.size n0 (n0 + 6 + n3) (bys z0) rfl (hown2.alloc _) ⟨w2.heap.size, 0, none⟩ 2 2 (bys [92, 117]) rfl rfl (fun j u hu => new_cells w2 _ 5 j u hu) (bys_one _) (by omega) ?_; intro w3 hown3 hgrow3
       have hb3 : Below w.heap.size w w3 := (hb2.alloc hb2.size _).grown hgrow3 (by simp; exact Nat.le_succ_of_le hb2.size) (fun k h => by cases h; exact Nat.le_refl _)
       clear hgrow3 hb2 hown2))
  go_loopw [9, 10] (fun b i wr => ∃ k : Nat, k ≤ 4 ∧ i = .int .i64 k ∧ b = .slice (some ⟨w.heap.size, 0, none⟩) (n0 + 2 + k) (n0 + 6 + n3) ∧
      Hid (wr.ownsRow w.heap.size 5 1 (.slice (some ⟨w.heap.size, 0, none⟩) (n0 + 2 + k) (n0 + 6 + n3)) (n0 + 2 + k) (bys z0 ++ bys [92, 117] ++ bys ((List.range k).map (dig x y)))) ∧ Hid (Below w.heap.size w wr))
    (fun _ i _ => 4 - (intOf i).toNat)
  case atStart => exact ⟨0, by omega, rfl, rfl, own_start hown3, hb3⟩
  case round =>
    obtain ⟨k, hk, rfl, rfl, HO, HB⟩ := hrel
    clear hown3 hb3
    by_cases hlt : k < 4
    · have hcase : k = 0 ∨ k = 1 ∨ k = 2 ∨ k = 3 := by omega
      rcases hcase with rfl | rfl | rfl | rfl
      · have hN : bits BinOp.and IntKind.u16 (x / 4096) 15 = nib x 0 := by rw [u16_and15 _ (by omega) (by omega)]; simp [nib]
        have hN0 := nib_lo x 0
        have hN1 := nib_hi x 0
        have hlo := fun W => low_run W (nib x 0) hN0 hN1
        have hhi := fun W => cap_run W (nib x 0) hN0 hN1
        have hq0 : bits BinOp.and IntKind.u8 (y) 1 = y % 2 := u8_and1 _ (by omega) (by omega)
        cases hq : (bits BinOp.and IntKind.u8 (y) 1 == 1)
        · have HV : Hid (dig x y 0 = low (nib x 0)) := dig_low (by rw [hq0] at hq; simp at hq; omega)
          clear hq0
          go_wp2_with (at_builtin; refine wpList_append_fits _ rfl _ _ 22 rfl w.heap.size 5 i0 1 Try.underlying22 hi hz1 w.heap.size (n0 + 2 + 0) (n0 + 6 + n3) _ rfl (HO.out.alloc _) ⟨wr.heap.size, 0, none⟩ 1 1 (bys [low (nib x 0)]) rfl rfl (fun j u hu => new_cells wr _ 5 j u hu) (bys_one _) (by omega) ?_; intro w4 hown4 hgrow4)
          have HB' : Hid (Below w.heap.size w w4) := (HB.out.alloc HB.out.size _).grown hgrow4 (by simp; exact Nat.le_succ_of_le HB.out.size) (fun k h => by cases h; exact Nat.le_refl _)
          have HO' := own_step (f := dig x y) 0 hown4 HV.out
          clear hown4 hgrow4
          go_wp2
          go_roundw
          case rel => exact ⟨1, by omega, rfl, rfl, HO', HB'⟩
          case measure => simp [intOf]
        · have HV : Hid (dig x y 0 = cap (nib x 0)) := dig_cap (by rw [hq0] at hq; simp at hq; omega)
          clear hq0
          go_wp2_with (at_builtin; refine wpList_append_fits _ rfl _ _ 22 rfl w.heap.size 5 i0 1 Try.underlying22 hi hz1 w.heap.size (n0 + 2 + 0) (n0 + 6 + n3) _ rfl (HO.out.alloc _) ⟨wr.heap.size, 0, none⟩ 1 1 (bys [cap (nib x 0)]) rfl rfl (fun j u hu => new_cells wr _ 5 j u hu) (bys_one _) (by omega) ?_; intro w4 hown4 hgrow4)
          have HB' : Hid (Below w.heap.size w w4) := (HB.out.alloc HB.out.size _).grown hgrow4 (by simp; exact Nat.le_succ_of_le HB.out.size) (fun k h => by cases h; exact Nat.le_refl _)
          have HO' := own_step (f := dig x y) 0 hown4 HV.out
          clear hown4 hgrow4
          go_wp2
          go_roundw
          case rel => exact ⟨1, by omega, rfl, rfl, HO', HB'⟩
          case measure => simp [intOf]
      · have hN : bits BinOp.and IntKind.u16 (x / 256) 15 = nib x 1 := by rw [u16_and15 _ (by omega) (by omega)]; simp [nib]
        have hN0 := nib_lo x 1
        have hN1 := nib_hi x 1
        have hlo := fun W => low_run W (nib x 1) hN0 hN1
        have hhi := fun W => cap_run W (nib x 1) hN0 hN1
        have hq0 : bits BinOp.and IntKind.u8 (y / 2) 1 = y / 2 % 2 := u8_and1 _ (by omega) (by omega)
        cases hq : (bits BinOp.and IntKind.u8 (y / 2) 1 == 1)
        · have HV : Hid (dig x y 1 = low (nib x 1)) := dig_low (by rw [hq0] at hq; simp at hq; omega)
          clear hq0
          go_wp2_with (at_builtin; refine wpList_append_fits _ rfl _ _ 22 rfl w.heap.size 5 i0 1 Try.underlying22 hi hz1 w.heap.size (n0 + 2 + 1) (n0 + 6 + n3) _ rfl (HO.out.alloc _) ⟨wr.heap.size, 0, none⟩ 1 1 (bys [low (nib x 1)]) rfl rfl (fun j u hu => new_cells wr _ 5 j u hu) (bys_one _) (by omega) ?_; intro w4 hown4 hgrow4)
          have HB' : Hid (Below w.heap.size w w4) := (HB.out.alloc HB.out.size _).grown hgrow4 (by simp; exact Nat.le_succ_of_le HB.out.size) (fun k h => by cases h; exact Nat.le_refl _)
          have HO' := own_step (f := dig x y) 1 hown4 HV.out
          clear hown4 hgrow4
          go_wp2
          go_roundw
          case rel => exact ⟨2, by omega, rfl, rfl, HO', HB'⟩
          case measure => simp [intOf]
        · have HV : Hid (dig x y 1 = cap (nib x 1)) := dig_cap (by rw [hq0] at hq; simp at hq; omega)
          clear hq0
          go_wp2_with (at_builtin; refine wpList_append_fits _ rfl _ _ 22 rfl w.heap.size 5 i0 1 Try.underlying22 hi hz1 w.heap.size (n0 + 2 + 1) (n0 + 6 + n3) _ rfl (HO.out.alloc _) ⟨wr.heap.size, 0, none⟩ 1 1 (bys [cap (nib x 1)]) rfl rfl (fun j u hu => new_cells wr _ 5 j u hu) (bys_one _) (by omega) ?_; intro w4 hown4 hgrow4)
          have HB' : Hid (Below w.heap.size w w4) := (HB.out.alloc HB.out.size _).grown hgrow4 (by simp; exact Nat.le_succ_of_le HB.out.size) (fun k h => by cases h; exact Nat.le_refl _)
          have HO' := own_step (f := dig x y) 1 hown4 HV.out
          clear hown4 hgrow4
          go_wp2
          go_roundw
          case rel => exact ⟨2, by omega, rfl, rfl, HO', HB'⟩
          case measure => simp [intOf]
      · have hN : bits BinOp.and IntKind.u16 (x / 16) 15 = nib x 2 := by rw [u16_and15 _ (by omega) (by omega)]; simp [nib]
        have hN0 := nib_lo x 2
        have hN1 := nib_hi x 2
        have hlo := fun W => low_run W (nib x 2) hN0 hN1
        have hhi := fun W => cap_run W (nib x 2) hN0 hN1
        have hq0 : bits BinOp.and IntKind.u8 (y / 4) 1 = y / 4 % 2 := u8_and1 _ (by omega) (by omega)
        cases hq : (bits BinOp.and IntKind.u8 (y / 4) 1 == 1)
        · have HV : Hid (dig x y 2 = low (nib x 2)) := dig_low (by rw [hq0] at hq; simp at hq; omega)
          clear hq0
          go_wp2_with (at_builtin; refine wpList_append_fits _ rfl _ _ 22 rfl w.heap.size 5 i0 1 Try.underlying22 hi hz1 w.heap.size (n0 + 2 + 2) (n0 + 6 + n3) _ rfl (HO.out.alloc _) ⟨wr.heap.size, 0, none⟩ 1 1 (bys [low (nib x 2)]) rfl rfl (fun j u hu => new_cells wr _ 5 j u hu) (bys_one _) (by omega) ?_; intro w4 hown4 hgrow4)
          have HB' : Hid (Below w.heap.size w w4) := (HB.out.alloc HB.out.size _).grown hgrow4 (by simp; exact Nat.le_succ_of_le HB.out.size) (fun k h => by cases h; exact Nat.le_refl _)
          have HO' := own_step (f := dig x y) 2 hown4 HV.out
          clear hown4 hgrow4
          go_wp2
          go_roundw
          case rel => exact ⟨3, by omega, rfl, rfl, HO', HB'⟩
          case measure => simp [intOf]
        · have HV : Hid (dig x y 2 = cap (nib x 2)) := dig_cap (by rw [hq0] at hq; simp at hq; omega)
          clear hq0
          go_wp2_with (at_builtin; refine wpList_append_fits _ rfl _ _ 22 rfl w.heap.size 5 i0 1 Try.underlying22 hi hz1 w.heap.size (n0 + 2 + 2) (n0 + 6 + n3) _ rfl (HO.out.alloc _) ⟨wr.heap.size, 0, none⟩ 1 1 (bys [cap (nib x 2)]) rfl rfl (fun j u hu => new_cells wr _ 5 j u hu) (bys_one _) (by omega) ?_; intro w4 hown4 hgrow4)
          have HB' : Hid (Below w.heap.size w w4) := (HB.out.alloc HB.out.size _).grown hgrow4 (by simp; exact Nat.le_succ_of_le HB.out.size) (fun k h => by cases h; exact Nat.le_refl _)
          have HO' := own_step (f := dig x y) 2 hown4 HV.out
          clear hown4 hgrow4
          go_wp2
          go_roundw
          case rel => exact ⟨3, by omega, rfl, rfl, HO', HB'⟩
          case measure => simp [intOf]
      · have hN : bits BinOp.and IntKind.u16 (x) 15 = nib x 3 := by rw [u16_and15 _ (by omega) (by omega)]; simp [nib]
        have hN0 := nib_lo x 3
        have hN1 := nib_hi x 3
        have hlo := fun W => low_run W (nib x 3) hN0 hN1
        have hhi := fun W => cap_run W (nib x 3) hN0 hN1
        have hq0 : bits BinOp.and IntKind.u8 (y / 8) 1 = y / 8 % 2 := u8_and1 _ (by omega) (by omega)
        cases hq : (bits BinOp.and IntKind.u8 (y / 8) 1 == 1)
        · have HV : Hid (dig x y 3 = low (nib x 3)) := dig_low (by rw [hq0] at hq; simp at hq; omega)
          clear hq0
          go_wp2_with (at_builtin; refine wpList_append_fits _ rfl _ _ 22 rfl w.heap.size 5 i0 1 Try.underlying22 hi hz1 w.heap.size (n0 + 2 + 3) (n0 + 6 + n3) _ rfl (HO.out.alloc _) ⟨wr.heap.size, 0, none⟩ 1 1 (bys [low (nib x 3)]) rfl rfl (fun j u hu => new_cells wr _ 5 j u hu) (bys_one _) (by omega) ?_; intro w4 hown4 hgrow4)
          have HB' : Hid (Below w.heap.size w w4) := (HB.out.alloc HB.out.size _).grown hgrow4 (by simp; exact Nat.le_succ_of_le HB.out.size) (fun k h => by cases h; exact Nat.le_refl _)
          have HO' := own_step (f := dig x y) 3 hown4 HV.out
          clear hown4 hgrow4
          go_wp2
          go_roundw
          case rel => exact ⟨4, by omega, rfl, rfl, HO', HB'⟩
          case measure => simp [intOf]
        · have HV : Hid (dig x y 3 = cap (nib x 3)) := dig_cap (by rw [hq0] at hq; simp at hq; omega)
          clear hq0
          go_wp2_with (at_builtin; refine wpList_append_fits _ rfl _ _ 22 rfl w.heap.size 5 i0 1 Try.underlying22 hi hz1 w.heap.size (n0 + 2 + 3) (n0 + 6 + n3) _ rfl (HO.out.alloc _) ⟨wr.heap.size, 0, none⟩ 1 1 (bys [cap (nib x 3)]) rfl rfl (fun j u hu => new_cells wr _ 5 j u hu) (bys_one _) (by omega) ?_; intro w4 hown4 hgrow4)
          have HB' : Hid (Below w.heap.size w w4) := (HB.out.alloc HB.out.size _).grown hgrow4 (by simp; exact Nat.le_succ_of_le HB.out.size) (fun k h => by cases h; exact Nat.le_refl _)
          have HO' := own_step (f := dig x y) 3 hown4 HV.out
          clear hown4 hgrow4
          go_wp2
          go_roundw
          case rel => exact ⟨4, by omega, rfl, rfl, HO', HB'⟩
          case measure => simp [intOf]
    · obtain rfl : k = 4 := by omega
      have he := upto_nib x x0 x1
      have h3w := h3.below HB.out
      go_wp2_with (first
        | (at_builtin; refine wpList_append_fits_any _ rfl _ _ 22 rfl w.heap.size 5 i0 1 Try.underlying22 hi hz1 w.heap.size (n0 + 2 + 4) (n0 + 6 + n3) _ rfl HO.out a3 n3 c3 (bys z3) rfl (by simp [bys, h3.len]) h3.nil (fun ad e j u hu => (h3w.cell ad e j u hu).1) (bys_one z3) (by omega) ?_; intro w4 hown4 hgrow4
           have hb4 : Below w.heap.size w w4 := HB.out.grown hgrow4 HB.out.size (fun k h => by cases h; exact Nat.le_refl _)
           have hcs := tail_cells h0.len hown4
           clear hgrow4 hown4)
        | (go_at_call 6; refine (zzunit_any w.heap.size _ (n0 + 6 + n3) n0 (dig x y) (nib x) w4 (by omega) (by omega) (by omega) hcs.1 hcs.2.1 hcs.2.2 (fun k _ => dig_hex x y k)).mono ?_; rintro e w' ⟨rfl, rfl⟩))
      go_ret
      exact ⟨rfl, hb4⟩
end Go.Proofs.Qxb6602497a
