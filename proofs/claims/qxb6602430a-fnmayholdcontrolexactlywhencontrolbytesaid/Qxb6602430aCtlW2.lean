import Derived.Test.Qxb6602430aCtlW1
import Derived.LoopTactic
namespace Go.Proofs.Qxb6602430a
open Go.RowKit

theorem data_len (s : ByteArray) : s.data.toList.length = s.size := by simp

theorem inv_size {v s : ByteArray} {x : Int} (h : Inv v s x) : s.size ≤ v.size := by
  obtain ⟨j, hj, hs, _⟩ := h
  have := congrArg List.length hs
  rw [List.length_drop, data_len, data_len] at this
  omega

theorem inv_start (v : ByteArray) (h : 8 ≤ v.size) : Inv v v (mark (v.extract (v.size - 8) v.size)) := by
  refine ⟨0, Nat.zero_le _, by simp, mark_bounds _, ?_⟩
  rw [mark_iff _ (by simp; omega), extract_list]
  have : v.size - (v.size - 8) = 8 := by omega
  rw [this, List.take_take, List.take_zero]
  have hl : (v.data.toList.drop (v.size - 8)).length = 8 := by rw [List.length_drop, data_len]; omega
  rw [show min 8 8 = 8 from rfl, List.take_of_length_le (by omega)]
  simp [anyC]

theorem inv_step {v s : ByteArray} {x : Int} (h : Inv v s x) (h16 : 16 ≤ s.size) :
    Inv v (s.extract 16 s.size) (bits .or .u64 x (bits .or .u64 (mark (s.extract 0 8)) (mark (s.extract 8 16)))) := by
  have hsz := inv_size h
  obtain ⟨j, hj, hs, hx, he⟩ := h
  have hl := congrArg List.length hs
  rw [List.length_drop, data_len, data_len] at hl
  refine ⟨j + 16, by omega, ?_, or_bounds _ _, ?_⟩
  · rw [extract_list, List.take_of_length_le (by rw [List.length_drop, data_len]; omega), hs, List.drop_drop]
  · rw [or_zero _ _ hx (or_bounds _ _), or_zero _ _ (mark_bounds _) (mark_bounds _), he, mark_iff _ (by simp; omega), mark_iff _ (by simp; omega), extract_list, extract_list, hs]
    rw [show (8 : Nat) - 0 = 8 from rfl, List.take_take, List.take_take, List.drop_zero, List.drop_drop, show min 8 8 = 8 from rfl]
    rw [List.take_add, show (16 : Nat) = 8 + 8 from rfl, List.take_add (l := List.drop j v.data.toList), anyC_append, anyC_append, List.drop_drop]
    simp [Bool.or_assoc]

theorem any_sub (v : ByteArray) (j : Nat) (hj : j ≤ v.size) (h : v.size - j ≤ 8) :
    (anyC (v.data.toList.drop (v.size - 8)) || anyC (v.data.toList.take j)) = anyC v.data.toList := by
  have e : anyC v.data.toList = (anyC (v.data.toList.take j) || anyC (v.data.toList.drop j)) := by
    rw [← anyC_append, List.take_append_drop]
  rw [e]
  have h1 : anyC (v.data.toList.drop (v.size - 8)) = true → anyC v.data.toList = true := anyC_mono fun x hx => List.mem_of_mem_drop hx
  have h2 : anyC (v.data.toList.drop j) = true → anyC (v.data.toList.drop (v.size - 8)) = true := by
    apply anyC_mono
    intro x hx
    have : j = (v.size - 8) + (j - (v.size - 8)) := by omega
    rw [this, ← List.drop_drop] at hx
    exact List.mem_of_mem_drop hx
  rw [e] at h1
  revert h1 h2
  cases anyC (v.data.toList.drop (v.size - 8)) <;> cases anyC (v.data.toList.take j) <;> cases anyC (v.data.toList.drop j) <;> simp

theorem inv_end {v s : ByteArray} {x : Int} (h : Inv v s x) (h8 : s.size < 8) : (x != 0) = anyC v.data.toList := by
  obtain ⟨j, hj, hs, hx, he⟩ := h
  have hl := congrArg List.length hs
  rw [List.length_drop, data_len, data_len] at hl
  rw [he, any_sub v j hj (by omega)]

theorem inv_end8 {v s : ByteArray} {x : Int} (h : Inv v s x) (h8 : 8 ≤ s.size) (h16 : s.size < 16) : (bits .or .u64 x (mark (s.extract 0 8)) != 0) = anyC v.data.toList := by
  obtain ⟨j, hj, hs, hx, he⟩ := h
  have hl := congrArg List.length hs
  rw [List.length_drop, data_len, data_len] at hl
  rw [or_zero _ _ hx (mark_bounds _), he, mark_iff _ (by simp; omega), extract_list, hs, ← any_sub v (j + 8) (by omega) (by omega), List.take_add, anyC_append]
  rw [show (8 : Nat) - 0 = 8 from rfl, List.take_take, List.drop_zero, show min 8 8 = 8 from rfl, Bool.or_assoc]

theorem take_snoc (s : ByteArray) (k : Nat) (h : k < s.size) : s.data.toList.take (k + 1) = s.data.toList.take k ++ [s[k]] := by
  rw [List.take_succ_eq_append_getElem (by simpa using h)]; rfl

theorem any_snoc (s : ByteArray) (k : Nat) (h : k < s.size) : anyC (s.data.toList.take (k + 1)) = (anyC (s.data.toList.take k) || isC s[k]) := by
  rw [take_snoc s k h, anyC_append]; simp [anyC]

theorem any_all (s : ByteArray) (k : Nat) (h : s.size ≤ k) : anyC (s.data.toList.take k) = anyC s.data.toList := by
  rw [List.take_of_length_le (by rw [data_len]; exact h)]

theorem any_hit (s : ByteArray) (k : Nat) (h : k < s.size) (hc : isC s[k] = true) : anyC s.data.toList = true := by
  have h1 := any_snoc s k h
  rw [hc, Bool.or_true] at h1
  exact anyC_mono (fun x hx => List.mem_of_mem_take hx) h1

theorem isC_lo (c : UInt8) (h : (c.toNat : Int) < 32) : isC c = true := by simp [isC, Plain.isCtl]; omega
theorem isC_del (c : UInt8) (h : ((c.toNat : Int) == 127) = true) : isC c = true := by simp at h; simp [isC, Plain.isCtl]; omega
theorem isC_or (c : UInt8) (h : (c.toNat : Int) < 32 ∨ ((c.toNat : Int) == 127) = true) : isC c = true := h.elim (isC_lo c) (isC_del c)
theorem isC_no (c : UInt8) (h : 32 ≤ (c.toNat : Int)) (h' : ((c.toNat : Int) == 127) = false) : isC c = false := by simp at h'; simp [isC, Plain.isCtl]; omega

set_option maxHeartbeats 800000 in
theorem may_short (v : ByteArray) (w : World) (hv : v.size < 8) :
    Calls Try.prog 36 #[.string v] w fun e w' => e = .returned (.bool (anyC v.data.toList)) ∧ ∃ n, w' = w.drewN n := by
  have hv' : (v.size : Int) < 8 := by omega
  go_enter Try.func36, Try.ntmps36
  go_wp2
  go_loop [3] (fun i => ∃ k : Nat, k ≤ v.size ∧ i = .int .i64 k ∧ Hid (anyC (v.data.toList.take k) = false)) (fun i => v.size - (intOf i).toNat)
  case atStart => exact ⟨0, Nat.zero_le _, rfl, rfl⟩
  case round =>
    obtain ⟨k, hk, rfl, H⟩ := hrel
    by_cases hlt : k < v.size
    · have HS : Hid (anyC (v.data.toList.take (k + 1)) = (anyC (v.data.toList.take k) || isC v[k])) := any_snoc v k hlt
      go_wp2
      · go_ret
        exact ⟨ret_bool (any_hit v k hlt (isC_or _ ‹_›)).symm, 0, rfl⟩
      · go_round
        case rel => exact ⟨k + 1, by omega, by go_num, HS.out.trans (by rw [H.out, isC_no _ ‹_› (by have h := ‹_ ∧ (_ == _) = false›; exact h.2)]; rfl)⟩
        case measure => simp [intOf]; omega
      · go_ret
        exact ⟨ret_bool (any_hit v k hlt (isC_lo _ ‹_›)).symm, 0, rfl⟩
    · go_wp2
      go_ret
      exact ⟨ret_bool (by rw [← any_all v k (by omega), H.out]), 0, rfl⟩
end Go.Proofs.Qxb6602430a
