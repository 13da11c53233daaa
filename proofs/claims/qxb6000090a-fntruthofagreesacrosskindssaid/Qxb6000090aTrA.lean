import Derived.Test.Qxb6000090aRows
import Derived.WalkKit
import Derived.WalkSpells
import Derived.WalkLawsBesides
import Derived.RowKit3
namespace Go.Proofs.Qxb6000090a
open Go.RowKit
set_option linter.unusedVariables false

/-- a number's truth, a string's truth -/
def trI (mag : Int) : Int := if mag = 0 then 1 else 2
def trS (str : ByteArray) : Int := if str.toList.isEmpty = true then 1 else 2

theorem ret_int {k : IntKind} {a b : Int} (h : a = b) : Ending.returned (.int k a) = .returned (.int k b) := by rw [h]

set_option maxHeartbeats 800000 in
theorem tv_two (t : Int) (null comp : Bool) (vk : Int) (neg : Bool) (mag : Int) (str : ByteArray) (w : World) :
    Calls Try.prog 15 #[.int .u8 2, .int .u8 t, .bool null, .bool comp, .int .u8 vk, .bool neg, .int .u64 mag, .string str] w fun e w' => e = .returned (.int .u8 t) ∧ Grown w w' := by
  cases null
  · go_enter Try.func15, Try.ntmps15
    go_wp2
    go_ret
    exact ⟨rfl, ((Grown.refl _).alloc _ _).alloc _ _⟩
  · go_enter Try.func15, Try.ntmps15
    go_wp2
    go_ret
    exact ⟨rfl, (Grown.refl _).alloc _ _⟩

set_option maxHeartbeats 800000 in
theorem tv_null (k t : Int) (hk : (k == 2) = false) (comp : Bool) (vk : Int) (neg : Bool) (mag : Int) (str : ByteArray) (w : World) :
    Calls Try.prog 15 #[.int .u8 k, .int .u8 t, .bool true, .bool comp, .int .u8 vk, .bool neg, .int .u64 mag, .string str] w fun e w' => e = .returned (.int .u8 0) ∧ Grown w w' := by
  go_enter Try.func15, Try.ntmps15
  go_wp2
  go_ret
  exact ⟨rfl, (Grown.refl _).alloc _ _⟩

set_option maxHeartbeats 800000 in
theorem tv_comp (k t : Int) (hk : (k == 2) = false) (vk : Int) (neg : Bool) (mag : Int) (str : ByteArray) (w : World) :
    Calls Try.prog 15 #[.int .u8 k, .int .u8 t, .bool false, .bool true, .int .u8 vk, .bool neg, .int .u64 mag, .string str] w fun e w' => e = .returned (.int .u8 0) ∧ Grown w w' := by
  go_enter Try.func15, Try.ntmps15
  go_wp2
  go_ret
  exact ⟨rfl, ((Grown.refl _).alloc _ _).alloc _ _⟩

set_option maxHeartbeats 800000 in
theorem tv_int (k t : Int) (hk : (k == 2) = false) (neg : Bool) (mag : Int) (str : ByteArray) (w : World) :
    Calls Try.prog 15 #[.int .u8 k, .int .u8 t, .bool false, .bool false, .int .u8 1, .bool neg, .int .u64 mag, .string str] w fun e w' => e = .returned (.int .u8 (trI mag)) ∧ Grown w w' := by
  cases hm : (mag != 0)
  · have HE : Hid (trI mag = 1) := if_pos (by simpa using hm)
    go_enter Try.func15, Try.ntmps15
    go_wp2
    go_ret
    exact ⟨ret_int HE.out.symm, ((Grown.refl _).alloc _ _).alloc _ _⟩
  · have HE : Hid (trI mag = 2) := if_neg (by simpa using hm)
    go_enter Try.func15, Try.ntmps15
    go_wp2
    go_ret
    exact ⟨ret_int HE.out.symm, ((Grown.refl _).alloc _ _).alloc _ _⟩

set_option maxHeartbeats 800000 in
theorem tv_bool (k t : Int) (hk : (k == 2) = false) (neg : Bool) (mag : Int) (str : ByteArray) (w : World) :
    Calls Try.prog 15 #[.int .u8 k, .int .u8 t, .bool false, .bool false, .int .u8 2, .bool neg, .int .u64 mag, .string str] w fun e w' => e = .returned (.int .u8 (trI mag)) ∧ Grown w w' := by
  cases hm : (mag != 0)
  · have HE : Hid (trI mag = 1) := if_pos (by simpa using hm)
    go_enter Try.func15, Try.ntmps15
    go_wp2
    go_ret
    exact ⟨ret_int HE.out.symm, ((Grown.refl _).alloc _ _).alloc _ _⟩
  · have HE : Hid (trI mag = 2) := if_neg (by simpa using hm)
    go_enter Try.func15, Try.ntmps15
    go_wp2
    go_ret
    exact ⟨ret_int HE.out.symm, ((Grown.refl _).alloc _ _).alloc _ _⟩

set_option maxHeartbeats 800000 in
theorem tv_str (k t : Int) (hk : (k == 2) = false) (neg : Bool) (mag : Int) (str : ByteArray) (w : World) :
    Calls Try.prog 15 #[.int .u8 k, .int .u8 t, .bool false, .bool false, .int .u8 3, .bool neg, .int .u64 mag, .string str] w fun e w' => e = .returned (.int .u8 (trS str)) ∧ Grown w w' := by
  cases hm : str.toList.isEmpty
  · have HE : Hid (trS str = 2) := if_neg (by rw [hm]; decide)
    go_enter Try.func15, Try.ntmps15
    go_wp2
    go_ret
    exact ⟨ret_int HE.out.symm, ((Grown.refl _).alloc _ _).alloc _ _⟩
  · have HE : Hid (trS str = 1) := if_pos hm
    go_enter Try.func15, Try.ntmps15
    go_wp2
    go_ret
    exact ⟨ret_int HE.out.symm, ((Grown.refl _).alloc _ _).alloc _ _⟩

set_option maxHeartbeats 800000 in
theorem tv_other (k t : Int) (hk : (k == 2) = false) (vk : Int) (h1 : (vk == 1) = false) (h2 : (vk == 2) = false) (h3 : (vk == 3) = false) (neg : Bool) (mag : Int) (str : ByteArray) (w : World) :
    Calls Try.prog 15 #[.int .u8 k, .int .u8 t, .bool false, .bool false, .int .u8 vk, .bool neg, .int .u64 mag, .string str] w fun e w' => e = .returned (.int .u8 0) ∧ Grown w w' := by
  go_enter Try.func15, Try.ntmps15
  go_wp2
  go_ret
  exact ⟨rfl, ((Grown.refl _).alloc _ _).alloc _ _⟩
end Go.Proofs.Qxb6000090a
