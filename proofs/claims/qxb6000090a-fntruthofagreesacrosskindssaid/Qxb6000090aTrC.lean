import Derived.Test.Qxb6000090aTrA
namespace Go.Proofs.Qxb6000090a.Ac
open Go.RowKit
set_option linter.unusedVariables false

theorem grown_trans {a b c : World} (h1 : Grown a b) (h2 : Grown b c) : Grown a c :=
  ⟨World.keptBut_trans h1.1 h2.1, fun x => (h2.2.1 x).trans (h1.2.1 x), Nat.le_trans h1.2.2 h2.2.2⟩

set_option maxHeartbeats 400000 in
theorem zz16_in (neg : Bool) (mag : Int) (str : ByteArray) (w : World) (hd : str.size ≤ 1048576) :
    Calls Try.prog 16 #[.bool neg, .int .u64 mag, .string str] w fun e w' => e = .returned (.bool true) ∧ w' = w := by
  have g1 : ¬ (1048576 : Int) < (str.size : Int) := by omega
  go_enter Try.func16, Try.ntmps16
  go_wp2
  go_ret
  exact ⟨rfl, rfl⟩

set_option maxHeartbeats 400000 in
theorem zz16_over (neg : Bool) (mag : Int) (str : ByteArray) (w : World) (hd : 1048576 < str.size) (hm : str.size ≤ maxLen) :
    Calls Try.prog 16 #[.bool neg, .int .u64 mag, .string str] w fun e w' => e = .returned (.bool false) ∧ w' = w := by
  unfold maxLen at hm
  have g1 : (1048576 : Int) < (str.size : Int) := by omega
  go_enter Try.func16, Try.ntmps16
  go_wp2
  go_ret
  exact ⟨rfl, rfl⟩

set_option maxHeartbeats 400000 in
theorem law_over (neg : Bool) (mag : Int) (str : ByteArray) (w : World) (hd : 1048576 < str.size) (hm : str.size ≤ maxLen) :
    Calls Try.prog 6 #[.bool neg, .int .u64 mag, .string str] w fun e w' => e = .returned (.bool true) ∧ Grown w w' := by
  go_enter Try.func6, Try.ntmps6
  go_wp2_with (go_at_call 16; refine (zz16_over neg mag str _ hd hm).mono ?_; rintro e w' ⟨rfl, rfl⟩)
  go_ret
  exact ⟨rfl, Grown.refl _⟩

/-- a string reads as the number of its length -/
theorem trS_len (s : ByteArray) : trI (s.size : Int) = trS s := by
  unfold trI trS
  have e : s.toList.isEmpty = decide (s.size = 0) := by
    rw [ByteArray.toList_eq, Bool.eq_iff_iff, List.isEmpty_iff, decide_eq_true_iff]
    have hl : s.data.toList.length = s.size := by simp
    exact ⟨fun h => (by rw [← hl, h]; rfl), fun h => List.eq_nil_of_length_eq_zero (by omega)⟩
  rw [e]
  by_cases h : s.size = 0
  · simp [h]
  · rw [if_neg (by omega), if_neg (by simpa using h)]

set_option maxHeartbeats 1600000 in
theorem law_in (neg : Bool) (mag : Int) (str : ByteArray) (w : World) (hd : str.size ≤ 1048576) :
    Calls Try.prog 6 #[.bool neg, .int .u64 mag, .string str] w fun e w' => e = .returned (.bool true) ∧ Grown w w' := by
  have g1 : ¬ (1048576 : Int) < (str.size : Int) := by omega
  have HG : Hid (Grown w w) := Grown.refl w
  have hl := trS_len str
  cases hm : (mag != 0)
  · have ht : trI mag = 1 := if_pos (by simpa using hm)
    go_enter Try.func6, Try.ntmps6
    go_wp2_with fail
    refine (zz16_in neg mag str _ hd).mono ?_
    rintro e w ⟨rfl, rfl⟩
    go_wp2_with fail
    refine (tv_int _ _ ?_ _ _ _ _).mono ?_
    · rfl
    rintro e w1 ⟨rfl, hg⟩
    replace HG : Hid (Grown w w1) := grown_trans HG.out hg
    clear hg
    go_wp2_with fail
    refine (tv_int _ _ ?_ _ _ _ _).mono ?_
    · rfl
    rintro e w2 ⟨rfl, hg⟩
    replace HG : Hid (Grown w w2) := grown_trans HG.out hg
    clear hg
    go_wp2_with fail
    refine (tv_int _ _ ?_ _ _ _ _).mono ?_
    · rfl
    rintro e w3 ⟨rfl, hg⟩
    replace HG : Hid (Grown w w3) := grown_trans HG.out hg
    clear hg
    go_wp2_with fail
    refine (tv_bool _ _ ?_ _ _ _ _).mono ?_
    · rfl
    rintro e w4 ⟨rfl, hg⟩
    replace HG : Hid (Grown w w4) := grown_trans HG.out hg
    clear hg
    go_wp2_with fail
    refine (tv_str _ _ ?_ _ _ _ _).mono ?_
    · rfl
    rintro e w5 ⟨rfl, hg⟩
    replace HG : Hid (Grown w w5) := grown_trans HG.out hg
    clear hg
    go_wp2_with fail
    refine (tv_str _ _ ?_ _ _ _ _).mono ?_
    · rfl
    rintro e w6 ⟨rfl, hg⟩
    replace HG : Hid (Grown w w6) := grown_trans HG.out hg
    clear hg
    go_wp2_with fail
    refine (tv_int _ _ ?_ _ _ _ _).mono ?_
    · rfl
    rintro e w7 ⟨rfl, hg⟩
    replace HG : Hid (Grown w w7) := grown_trans HG.out hg
    clear hg
    go_wp2
    go_ret
    exact ⟨rfl, HG.out⟩
  · have ht : trI mag = 2 := if_neg (by simpa using hm)
    go_enter Try.func6, Try.ntmps6
    go_wp2_with fail
    refine (zz16_in neg mag str _ hd).mono ?_
    rintro e w ⟨rfl, rfl⟩
    go_wp2_with fail
    refine (tv_int _ _ ?_ _ _ _ _).mono ?_
    · rfl
    rintro e w1 ⟨rfl, hg⟩
    replace HG : Hid (Grown w w1) := grown_trans HG.out hg
    clear hg
    go_wp2_with fail
    refine (tv_int _ _ ?_ _ _ _ _).mono ?_
    · rfl
    rintro e w2 ⟨rfl, hg⟩
    replace HG : Hid (Grown w w2) := grown_trans HG.out hg
    clear hg
    go_wp2_with fail
    refine (tv_int _ _ ?_ _ _ _ _).mono ?_
    · rfl
    rintro e w3 ⟨rfl, hg⟩
    replace HG : Hid (Grown w w3) := grown_trans HG.out hg
    clear hg
    go_wp2_with fail
    refine (tv_bool _ _ ?_ _ _ _ _).mono ?_
    · rfl
    rintro e w4 ⟨rfl, hg⟩
    replace HG : Hid (Grown w w4) := grown_trans HG.out hg
    clear hg
    go_wp2_with fail
    refine (tv_str _ _ ?_ _ _ _ _).mono ?_
    · rfl
    rintro e w5 ⟨rfl, hg⟩
    replace HG : Hid (Grown w w5) := grown_trans HG.out hg
    clear hg
    go_wp2_with fail
    refine (tv_str _ _ ?_ _ _ _ _).mono ?_
    · rfl
    rintro e w6 ⟨rfl, hg⟩
    replace HG : Hid (Grown w w6) := grown_trans HG.out hg
    clear hg
    go_wp2_with fail
    refine (tv_int _ _ ?_ _ _ _ _).mono ?_
    · rfl
    rintro e w7 ⟨rfl, hg⟩
    replace HG : Hid (Grown w w7) := grown_trans HG.out hg
    clear hg
    go_wp2
    go_ret
    exact ⟨rfl, HG.out⟩
end Go.Proofs.Qxb6000090a.Ac
