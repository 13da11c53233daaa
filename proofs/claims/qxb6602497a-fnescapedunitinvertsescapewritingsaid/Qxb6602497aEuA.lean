import Derived.Test.Qxb6602497aRows
import Derived.WalkKit
import Derived.WalkSpells
import Derived.WalkLawsBesides
import Derived.LoopTactic
import Derived.Laws.BitsAllLaws
namespace Go.Proofs.Qxb6602497a
open Go.RowKit
set_option linter.unusedVariables false

/-- d is the hexadecimal digit (of either case) of the value v -/
def Hex (d v : Int) : Prop := (48 ≤ d ∧ d ≤ 57 ∧ v = d - 48) ∨ (97 ≤ d ∧ d ≤ 102 ∧ v = d - 87) ∨ (65 ≤ d ∧ d ≤ 70 ∧ v = d - 55)

/-- what the first k digits write -/
def upto (v : Nat → Int) : Nat → Int
  | 0 => 0
  | k + 1 => upto v k * 16 + v k

theorem or4 (u y : Int) (h0 : 0 ≤ u) (h1 : u ≤ 4095) (y0 : 0 ≤ y) (y1 : y ≤ 15) : bits .or .i32 (u * 16) y = u * 16 + y :=
  bits_join .i32 31 (by decide) wraps_i32 4 (u * 16) y (by omega) (by omega) (by omega) y0 (by omega) (by omega)

theorem hex_bounds {d v : Int} (h : Hex d v) : 0 ≤ v ∧ v ≤ 15 := by
  rcases h with h | h | h <;> omega

theorem upto_bounds {d v : Nat → Int} (hx : ∀ k, k < 4 → Hex (d k) (v k)) (k : Nat) (hk : k < 4) : 0 ≤ upto v k ∧ upto v k ≤ 4095 := by
  have b0 := hex_bounds (hx 0 (by omega))
  have b1 := hex_bounds (hx 1 (by omega))
  have b2 := hex_bounds (hx 2 (by omega))
  have e : k = 0 ∨ k = 1 ∨ k = 2 ∨ k = 3 := by omega
  rcases e with rfl | rfl | rfl | rfl <;> simp only [upto] <;> omega

set_option maxHeartbeats 1600000 in
theorem unit_any (B n c p : Nat) (d v : Nat → Int) (w : World) (hn : p + 6 ≤ n) (hc : n ≤ c) (hm : c ≤ 2097152)
    (h0 : w.cell? ⟨B, p, none⟩ = some (.int .u8 92)) (h1 : w.cell? ⟨B, p + 1, none⟩ = some (.int .u8 117))
    (hd : ∀ k, k < 4 → w.cell? ⟨B, p + 2 + k, none⟩ = some (.int .u8 (d k))) (hx : ∀ k, k < 4 → Hex (d k) (v k)) :
    Calls Try.prog 9 #[.slice (some ⟨B, 0, none⟩) n c, .int .i64 p] w fun e w' => e = .returned (.tuple #[.int .i32 (upto v 4), .bool true]) ∧ w' = w := by
  have g1 : decide ((n : Int) ≤ (p : Int) + 5) = false := by simp; omega
  have g2 : ((p : Int) + 1).toNat = p + 1 := by omega
  have g3 : (p : Int) + 1 < (n : Int) := by omega
  have g4 : (p : Int) < (n : Int) := by omega
  go_enter Try.func9, Try.ntmps9
  go_wp2
  go_loop [6, 36] (fun u i => ∃ k : Nat, k ≤ 4 ∧ i = .int .i64 k ∧ u = .int .i32 (upto v k)) (fun _ i => 4 - (intOf i).toNat)
  case atStart => exact ⟨0, by omega, rfl, rfl⟩
  case round =>
    obtain ⟨k, hk, rfl, rfl⟩ := hrel
    by_cases hlt : k < 4
    · have hcell := hd k hlt
      have hq : (k : Int) < ((p + 6 - (p + 2) : Nat) : Int) := by omega
      have hb := upto_bounds hx k (by omega)
      have HU : Hid (upto v (k + 1) = upto v k * 16 + v k) := rfl
      have hh := hx k hlt
      generalize upto v k = u at *
      generalize d k = dk at *
      generalize hvk : v k = vk at *
      obtain ⟨hb0, hb1⟩ := hb
      clear hd hx h0 h1 hvk g1 g2 g3 g4
      rcases hh with ⟨e1, e2, e3⟩ | ⟨e1, e2, e3⟩ | ⟨e1, e2, e3⟩
      · have H3 : Hid (vk = dk - 48) := e3
        clear e3
        go_wp2
        go_round
        case rel => exact ⟨k + 1, by omega, by go_num, by rw [HU.out, H3.out, or4 u _ hb0 hb1 (by omega) (by omega)]⟩
        case measure => simp [intOf]; omega
      · have H3 : Hid (vk = dk - 87) := e3
        have t1 : ¬ dk ≤ 57 := by omega
        have t2 : 48 ≤ dk := by omega
        clear e3
        go_wp2
        go_round
        case rel => exact ⟨k + 1, by omega, by go_num, by rw [HU.out, H3.out, or4 u _ hb0 hb1 (by omega) (by omega)]; go_num⟩
        case measure => simp [intOf]; omega
      · have H3 : Hid (vk = dk - 55) := e3
        have t1 : ¬ dk ≤ 57 := by omega
        have t2 : 48 ≤ dk := by omega
        have t3 : ¬ 97 ≤ dk := by omega
        have t4 : decide (97 ≤ dk) = false := by simpa using t3
        clear e3
        go_wp2
        go_round
        case rel => exact ⟨k + 1, by omega, by go_num, by rw [HU.out, H3.out, or4 u _ hb0 hb1 (by omega) (by omega)]; go_num⟩
        case measure => simp [intOf]; omega
    · go_wp2
      go_ret2
      have e : k = 4 := by omega
      subst e
      exact ⟨rfl, rfl⟩
end Go.Proofs.Qxb6602497a
