import Derived.Test.Qxb6602430aCtlW2
namespace Go.Proofs.Qxb6602430a
open Go.RowKit

theorem drew_more {w wr : World} (h : ∃ n, wr = w.drewN n) (k : Nat) : ∃ n, wr.drewN k = w.drewN n := by
  obtain ⟨n, rfl⟩ := h
  exact ⟨n + k, World.drewN_drewN _ _ _⟩

def strLen : Value → Nat
  | .string s => s.size
  | _ => 0

set_option maxHeartbeats 1600000 in
theorem may_long (v : ByteArray) (w : World) (hv : 8 ≤ v.size) (hm : v.size ≤ 1048576) :
    Calls Try.prog 36 #[.string v] w fun e w' => e = .returned (.bool (anyC v.data.toList)) ∧ ∃ n, w' = w.drewN n := by
  have hv' : ¬ (v.size : Int) < 8 := by omega
  have HI : Hid (Inv v v (mark (v.extract (v.size - 8) v.size))) := inv_start v hv
  go_enter Try.func36, Try.ntmps36
  go_wp2_with (first
    | (go_at_call 46; refine (word_any _ _ ?_).mono ?_; (simp; omega); rintro e w' ⟨rfl, n, rfl⟩)
    | (go_at_call 45; refine (controls_any _ _).mono ?_; rintro e w' ⟨rfl, rfl⟩))
  go_loopw [0, 5] (fun a b wr => ∃ (s : ByteArray) (x : Int), a = .string s ∧ b = .int .u64 x ∧ Hid (Inv v s x) ∧ Hid (∃ n, wr = w.drewN n)) (fun a _ _ => strLen a)
  case atStart => exact ⟨v, _, rfl, rfl, HI, ⟨n, rfl⟩⟩
  case round =>
    obtain ⟨s, x, rfl, rfl, H, HW⟩ := hrel
    have hs := inv_size H.out
    by_cases h16 : 16 ≤ s.size
    · have HN : Hid (Inv v (s.extract 16 s.size) (bits .or .u64 x (bits .or .u64 (mark (s.extract 0 8)) (mark (s.extract 8 16))))) := inv_step H.out h16
      have q1 : (8 : Int) ≤ (s.size : Int) := by omega
      have q2 : (16 : Int) ≤ (s.size : Int) := by omega
      go_wp2
      go_quiet ((first
        | (go_at_call 46; refine Calls.quiet_of (word_any _ _ ?_); simp; omega)
        | (go_at_call 45; exact Calls.quiet_of_same (controls_any _ _))))
      go_wp2
      go_roundw
      case rel => exact ⟨_, _, rfl, rfl, HN, drew_more HW.out _⟩
      case measure => simp [strLen]; omega
    · by_cases h8 : 8 ≤ s.size
      · go_wp2_with (first
          | (go_at_call 46; refine (word_any _ _ ?_).mono ?_; (simp; omega); rintro e w' ⟨rfl, n1, rfl⟩)
          | (go_at_call 45; refine (controls_any _ _).mono ?_; rintro e w' ⟨rfl, rfl⟩))
        go_ret
        exact ⟨ret_bool (inv_end8 H.out h8 (by omega)), drew_more HW.out _⟩
      · go_wp2
        go_ret
        exact ⟨ret_bool (inv_end H.out (by omega)), HW.out⟩
end Go.Proofs.Qxb6602430a
