import Derived.Test.Qxb6000090aTrA
namespace Go.Proofs.Qxb6000090a
open Go.RowKit
set_option linter.unusedVariables false

theorem grown_trans {a b c : World} (h1 : Grown a b) (h2 : Grown b c) : Grown a c :=
  ⟨World.keptBut_trans h1.1 h2.1, fun x => (h2.2.1 x).trans (h1.2.1 x), Nat.le_trans h1.2.2 h2.2.2⟩

theorem trI_ne (m : Int) : (trI m == 0) = false := by unfold trI; split <;> rfl
theorem trS_ne (s : ByteArray) : (trS s == 0) = false := by unfold trS; split <;> rfl

set_option maxHeartbeats 400000 in
theorem zz14_in (k t : Int) (null comp : Bool) (vk : Int) (neg : Bool) (mag : Int) (str : ByteArray) (w : World) (hd : str.size ≤ 1048576) :
    Calls Try.prog 14 #[.int .u8 k, .int .u8 t, .bool null, .bool comp, .int .u8 vk, .bool neg, .int .u64 mag, .string str] w fun e w' => e = .returned (.bool true) ∧ w' = w := by
  have g1 : ¬ (1048576 : Int) < (str.size : Int) := by omega
  go_enter Try.func14, Try.ntmps14
  go_wp2
  go_ret
  exact ⟨rfl, rfl⟩

set_option maxHeartbeats 400000 in
theorem zz14_over (k t : Int) (null comp : Bool) (vk : Int) (neg : Bool) (mag : Int) (str : ByteArray) (w : World) (hd : 1048576 < str.size) (hm : str.size ≤ maxLen) :
    Calls Try.prog 14 #[.int .u8 k, .int .u8 t, .bool null, .bool comp, .int .u8 vk, .bool neg, .int .u64 mag, .string str] w fun e w' => e = .returned (.bool false) ∧ w' = w := by
  unfold maxLen at hm
  have g1 : (1048576 : Int) < (str.size : Int) := by omega
  go_enter Try.func14, Try.ntmps14
  go_wp2
  go_ret
  exact ⟨rfl, rfl⟩

set_option maxHeartbeats 400000 in
theorem law_over (k t : Int) (null comp : Bool) (vk : Int) (neg : Bool) (mag : Int) (str : ByteArray) (w : World) (hd : 1048576 < str.size) (hm : str.size ≤ maxLen) :
    Calls Try.prog 5 #[.int .u8 k, .int .u8 t, .bool null, .bool comp, .int .u8 vk, .bool neg, .int .u64 mag, .string str] w fun e w' => e = .returned (.bool true) ∧ Grown w w' := by
  go_enter Try.func5, Try.ntmps5
  go_wp2_with (go_at_call 14; refine (zz14_over k t null comp vk neg mag str _ hd hm).mono ?_; rintro e w' ⟨rfl, rfl⟩)
  go_ret
  exact ⟨rfl, Grown.refl _⟩

set_option maxHeartbeats 1600000 in
theorem law_two (t : Int) (null comp : Bool) (vk : Int) (neg : Bool) (mag : Int) (str : ByteArray) (w : World) (hd : str.size ≤ 1048576) :
    Calls Try.prog 5 #[.int .u8 2, .int .u8 t, .bool null, .bool comp, .int .u8 vk, .bool neg, .int .u64 mag, .string str] w fun e w' => e = .returned (.bool true) ∧ Grown w w' := by
  have g1 : ¬ (1048576 : Int) < (str.size : Int) := by omega
  have HG : Hid (Grown w w) := Grown.refl w
  cases he : str.toList.isEmpty
  all_goals
    go_enter Try.func5, Try.ntmps5
    go_wp2_with (first
      | (go_at_call 14; refine (zz14_in 2 t null comp vk neg mag str _ hd).mono ?_; rintro e w ⟨rfl, rfl⟩)
      | (go_at_call 15; refine (tv_two _ _ _ _ _ _ _ _).mono ?_; rintro e w' ⟨rfl, hg⟩; replace HG : Hid (Grown w w') := grown_trans HG.out hg; clear hg))
    go_ret
    exact ⟨rfl, HG.out⟩
set_option maxHeartbeats 1600000 in
theorem law_null (k t : Int) (hk : (k == 2) = false) (comp : Bool) (vk : Int) (neg : Bool) (mag : Int) (str : ByteArray) (w : World) (hd : str.size ≤ 1048576) :
    Calls Try.prog 5 #[.int .u8 k, .int .u8 t, .bool true, .bool comp, .int .u8 vk, .bool neg, .int .u64 mag, .string str] w fun e w' => e = .returned (.bool true) ∧ Grown w w' := by
  have g1 : ¬ (1048576 : Int) < (str.size : Int) := by omega
  have HG : Hid (Grown w w) := Grown.refl w
  cases he : str.toList.isEmpty
  all_goals
    go_enter Try.func5, Try.ntmps5
    go_wp2_with (first
      | (go_at_call 14; refine (zz14_in k t true comp vk neg mag str _ hd).mono ?_; rintro e w ⟨rfl, rfl⟩)
      | (go_at_call 15; refine (tv_null _ _ ?_ _ _ _ _ _ _).mono ?_; (first | exact hk | rfl); rintro e w' ⟨rfl, hg⟩; replace HG : Hid (Grown w w') := grown_trans HG.out hg; clear hg))
    go_ret
    exact ⟨rfl, HG.out⟩

set_option maxHeartbeats 1600000 in
theorem law_comp (k t : Int) (hk : (k == 2) = false) (vk : Int) (neg : Bool) (mag : Int) (str : ByteArray) (w : World) (hd : str.size ≤ 1048576) :
    Calls Try.prog 5 #[.int .u8 k, .int .u8 t, .bool false, .bool true, .int .u8 vk, .bool neg, .int .u64 mag, .string str] w fun e w' => e = .returned (.bool true) ∧ Grown w w' := by
  have g1 : ¬ (1048576 : Int) < (str.size : Int) := by omega
  have HG : Hid (Grown w w) := Grown.refl w
  cases he : str.toList.isEmpty
  all_goals
    go_enter Try.func5, Try.ntmps5
    go_wp2_with (first
      | (go_at_call 14; refine (zz14_in k t false true vk neg mag str _ hd).mono ?_; rintro e w ⟨rfl, rfl⟩)
      | (go_at_call 15; refine (tv_comp _ _ ?_ _ _ _ _ _).mono ?_; (first | exact hk | rfl); rintro e w' ⟨rfl, hg⟩; replace HG : Hid (Grown w w') := grown_trans HG.out hg; clear hg))
    go_ret
    exact ⟨rfl, HG.out⟩

set_option maxHeartbeats 1600000 in
theorem law_int (k t : Int) (hk : (k == 2) = false) (neg : Bool) (mag : Int) (str : ByteArray) (w : World) (hd : str.size ≤ 1048576) :
    Calls Try.prog 5 #[.int .u8 k, .int .u8 t, .bool false, .bool false, .int .u8 1, .bool neg, .int .u64 mag, .string str] w fun e w' => e = .returned (.bool true) ∧ Grown w w' := by
  have g1 : ¬ (1048576 : Int) < (str.size : Int) := by omega
  have HG : Hid (Grown w w) := Grown.refl w
  have ht := trI_ne mag
  cases he : str.toList.isEmpty
  all_goals
    go_enter Try.func5, Try.ntmps5
    go_wp2_with (first
      | (go_at_call 14; refine (zz14_in k t false false 1 neg mag str _ hd).mono ?_; rintro e w ⟨rfl, rfl⟩)
      | (go_at_call 15; refine (tv_int _ _ ?_ _ _ _ _).mono ?_; (first | exact hk | rfl); rintro e w' ⟨rfl, hg⟩; replace HG : Hid (Grown w w') := grown_trans HG.out hg; clear hg))
    go_ret
    exact ⟨rfl, HG.out⟩

set_option maxHeartbeats 1600000 in
theorem law_bool (k t : Int) (hk : (k == 2) = false) (neg : Bool) (mag : Int) (str : ByteArray) (w : World) (hd : str.size ≤ 1048576) :
    Calls Try.prog 5 #[.int .u8 k, .int .u8 t, .bool false, .bool false, .int .u8 2, .bool neg, .int .u64 mag, .string str] w fun e w' => e = .returned (.bool true) ∧ Grown w w' := by
  have g1 : ¬ (1048576 : Int) < (str.size : Int) := by omega
  have HG : Hid (Grown w w) := Grown.refl w
  have ht := trI_ne mag
  cases he : str.toList.isEmpty
  all_goals
    go_enter Try.func5, Try.ntmps5
    go_wp2_with (first
      | (go_at_call 14; refine (zz14_in k t false false 2 neg mag str _ hd).mono ?_; rintro e w ⟨rfl, rfl⟩)
      | (go_at_call 15; refine (tv_bool _ _ ?_ _ _ _ _).mono ?_; (first | exact hk | rfl); rintro e w' ⟨rfl, hg⟩; replace HG : Hid (Grown w w') := grown_trans HG.out hg; clear hg))
    go_ret
    exact ⟨rfl, HG.out⟩

set_option maxHeartbeats 1600000 in
theorem law_str (k t : Int) (hk : (k == 2) = false) (neg : Bool) (mag : Int) (str : ByteArray) (w : World) (hd : str.size ≤ 1048576) :
    Calls Try.prog 5 #[.int .u8 k, .int .u8 t, .bool false, .bool false, .int .u8 3, .bool neg, .int .u64 mag, .string str] w fun e w' => e = .returned (.bool true) ∧ Grown w w' := by
  have g1 : ¬ (1048576 : Int) < (str.size : Int) := by omega
  have HG : Hid (Grown w w) := Grown.refl w
  have ht := trS_ne str
  cases he : str.toList.isEmpty
  all_goals
    go_enter Try.func5, Try.ntmps5
    go_wp2_with (first
      | (go_at_call 14; refine (zz14_in k t false false 3 neg mag str _ hd).mono ?_; rintro e w ⟨rfl, rfl⟩)
      | (go_at_call 15; refine (tv_str _ _ ?_ _ _ _ _).mono ?_; (first | exact hk | rfl); rintro e w' ⟨rfl, hg⟩; replace HG : Hid (Grown w w') := grown_trans HG.out hg; clear hg))
    go_ret
    exact ⟨rfl, HG.out⟩

set_option maxHeartbeats 1600000 in
theorem law_other (k t : Int) (hk : (k == 2) = false) (vk : Int) (h1 : (vk == 1) = false) (h2 : (vk == 2) = false) (h3 : (vk == 3) = false) (neg : Bool) (mag : Int) (str : ByteArray) (w : World) (hd : str.size ≤ 1048576) :
    Calls Try.prog 5 #[.int .u8 k, .int .u8 t, .bool false, .bool false, .int .u8 vk, .bool neg, .int .u64 mag, .string str] w fun e w' => e = .returned (.bool true) ∧ Grown w w' := by
  have g1 : ¬ (1048576 : Int) < (str.size : Int) := by omega
  have HG : Hid (Grown w w) := Grown.refl w
  have n1 : (vk != 1) = true := by simpa using h1
  have n2 : (vk != 2) = true := by simpa using h2
  have n3 : (vk != 3) = true := by simpa using h3
  cases he : str.toList.isEmpty
  all_goals
    go_enter Try.func5, Try.ntmps5
    go_wp2_with (first
      | (go_at_call 14; refine (zz14_in k t false false vk neg mag str _ hd).mono ?_; rintro e w ⟨rfl, rfl⟩)
      | (go_at_call 15; refine (tv_other _ _ ?_ _ h1 h2 h3 _ _ _ _).mono ?_; (first | exact hk | rfl); rintro e w' ⟨rfl, hg⟩; replace HG : Hid (Grown w w') := grown_trans HG.out hg; clear hg))
    go_ret
    exact ⟨rfl, HG.out⟩

theorem law_all (k t : Int) (null comp : Bool) (vk : Int) (neg : Bool) (mag : Int) (str : ByteArray) (w : World) (hm : str.size ≤ maxLen) :
    Calls Try.prog 5 #[.int .u8 k, .int .u8 t, .bool null, .bool comp, .int .u8 vk, .bool neg, .int .u64 mag, .string str] w fun e w' => e = .returned (.bool true) ∧ Grown w w' := by
  by_cases hd : str.size ≤ 1048576
  · by_cases h2 : k = 2
    · subst h2
      exact law_two t null comp vk neg mag str w hd
    · have hk : (k == 2) = false := by simpa using h2
      cases null
      · cases comp
        · by_cases v1 : vk = 1
          · subst v1
            exact law_int k t hk neg mag str w hd
          · by_cases v2 : vk = 2
            · subst v2
              exact law_bool k t hk neg mag str w hd
            · by_cases v3 : vk = 3
              · subst v3
                exact law_str k t hk neg mag str w hd
              · exact law_other k t hk vk (by simpa using v1) (by simpa using v2) (by simpa using v3) neg mag str w hd
        · exact law_comp k t hk vk neg mag str w hd
      · exact law_null k t hk comp vk neg mag str w hd
  · exact law_over k t null comp vk neg mag str w (by omega) hm
end Go.Proofs.Qxb6000090a
