import Derived.Test.Qxb6602430aCtlW3
import Derived.RowKit3
namespace Go.Proofs.Qxb6602430a
open Go.RowKit

/-- how many control bytes -/
def cnt (l : List UInt8) : Nat := (l.filter isC).length

theorem cnt_le (l : List UInt8) : cnt l ≤ l.length := List.length_filter_le _ _
theorem cnt_pos (l : List UInt8) : decide (0 < (cnt l : Int)) = anyC l := by
  unfold cnt anyC
  induction l with
  | nil => rfl
  | cons c l ih => by_cases h : isC c = true <;> simp [h] <;> simpa using ih
theorem cnt_snoc (s : ByteArray) (k : Nat) (h : k < s.size) : cnt (s.data.toList.take (k + 1)) = cnt (s.data.toList.take k) + if isC s[k] then 1 else 0 := by
  rw [take_snoc s k h, cnt, cnt, List.filter_append]
  by_cases hc : isC s[k] = true <;> simp [hc]

set_option maxHeartbeats 400000 in
theorem isControl_any (c : Int) (w : World) :
    Calls Try.prog 19 #[.int .u8 c] w fun e w' => e = .returned (.bool (decide (c ≤ 31) || c == 127)) ∧ w' = w := by
  by_cases h : c ≤ 31
  · go_enter Try.func19, Try.ntmps19
    go_wp2
    go_ret
    exact ⟨ret_bool (by simp [h]), rfl⟩
  · have hd : decide (c ≤ 31) = false := by simpa using h
    have HD : Hid (decide (c ≤ 31) = false) := hd
    clear hd
    go_enter Try.func19, Try.ntmps19
    go_wp2
    go_ret
    exact ⟨ret_bool (by rw [HD.out, Bool.false_or]), rfl⟩

theorem isC_eq (c : UInt8) : (decide ((c.toNat : Int) ≤ 31) || (c.toNat : Int) == 127) = isC c := by
  rw [Bool.eq_iff_iff]; simp [isC, Plain.isCtl]; omega

theorem isControl_byte (c : UInt8) (w : World) :
    Calls Try.prog 19 #[.int .u8 (c.toNat : Int)] w fun e w' => e = .returned (.bool (isC c)) ∧ w' = w := by
  have h := isControl_any (c.toNat : Int) w
  rw [isC_eq] at h
  exact h

theorem may_any (v : ByteArray) (w : World) (hm : v.size ≤ 1048576) :
    Calls Try.prog 36 #[.string v] w fun e w' => e = .returned (.bool (anyC v.data.toList)) ∧ ∃ n, w' = w.drewN n := by
  by_cases h : v.size < 8
  · exact may_short v w h
  · exact may_long v w (by omega) hm

set_option maxHeartbeats 400000 in
theorem zzmay_any (v : ByteArray) (w : World) (hm : v.size ≤ 1048576) :
    Calls Try.prog 20 #[.string v] w fun e w' => e = .returned (.bool (anyC v.data.toList)) ∧ ∃ n, w' = w.drewN n := by
  go_enter Try.func20, Try.ntmps20
  go_wp2_with (go_at_call 36; refine (may_any _ _ hm).mono ?_; rintro e w' ⟨rfl, n, rfl⟩)
  go_ret
  exact ⟨rfl, n, rfl⟩

theorem grown_drewN (w : World) (n : Nat) : Grown w (w.drewN n) := by
  have h : Grown w w := Grown.refl w
  exact h

set_option maxHeartbeats 800000 in
theorem law_walk (v : ByteArray) (w : World) (hm : v.size ≤ 1048576) :
    Calls Try.prog 5 #[.string v] w fun e w' => e = .returned (.bool true) ∧ Grown w w' := by
  have hm1 : ¬ (1048576 : Int) < (v.size : Int) := by omega
  go_enter Try.func5, Try.ntmps5
  go_wp2
  go_loop [3, 4] (fun c i => ∃ k : Nat, k ≤ v.size ∧ i = .int .i64 k ∧ c = .int .i64 (cnt (v.data.toList.take k) : Int)) (fun _ i => v.size - (intOf i).toNat)
  case atStart => exact ⟨0, Nat.zero_le _, rfl, rfl⟩
  case round =>
    obtain ⟨k, hk, rfl, rfl⟩ := hrel
    have hc := cnt_le (v.data.toList.take k)
    have hl : (v.data.toList.take k).length ≤ k := List.length_take_le _ _
    have hcv : cnt (v.data.toList.take k) ≤ v.size := by omega
    clear hc hl
    by_cases hlt : k < v.size
    · have HS : Hid (cnt (v.data.toList.take (k + 1)) = cnt (v.data.toList.take k) + if isC v[k] then 1 else 0) := cnt_snoc v k hlt
      cases hb : isC v[k]
      all_goals
        go_wp2_with (go_at_call 19; refine (isControl_byte _ _).mono ?_; rintro e w' ⟨rfl, rfl⟩)
        go_round
        case rel => exact ⟨k + 1, by omega, by go_num, by rw [HS.out, hb]; first | rfl | go_num⟩
        case measure => simp [intOf]; omega
    · have e1 : anyC v.data.toList = decide (0 < (cnt (v.data.toList.take k) : Int)) := by rw [cnt_pos, any_all v k (by omega)]
      have HE : Hid (anyC v.data.toList = decide (0 < (cnt (v.data.toList.take k) : Int))) := e1
      clear e1
      go_wp2_with (go_at_call 20; refine (zzmay_any _ _ hm).mono ?_; rintro e w' ⟨rfl, n, rfl⟩)
      go_ret
      refine ⟨ret_bool ?_, grown_drewN _ _⟩
      rw [HE.out]; simp

set_option maxHeartbeats 400000 in
theorem law_walk_over (v : ByteArray) (w : World) (hm : 1048576 < v.size) (hv : v.size ≤ maxLen) :
    Calls Try.prog 5 #[.string v] w fun e w' => e = .returned (.bool true) ∧ Grown w w' := by
  unfold maxLen at hv
  have hm1 : (1048576 : Int) < (v.size : Int) := by omega
  go_enter Try.func5, Try.ntmps5
  go_wp2
  go_ret
  exact ⟨rfl, Grown.refl _⟩
end Go.Proofs.Qxb6602430a
