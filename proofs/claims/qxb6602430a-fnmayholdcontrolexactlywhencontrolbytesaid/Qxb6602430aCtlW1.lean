import Derived.Test.Qxb6602430aRows
import Derived.Test.Qxb6602430aCtlPlain
import Derived.WalkKit
import Derived.WalkSpells
import Derived.WalkLawsBesides
import Derived.Deep.QuietTactic
import Derived.BigQuiet
import Derived.Lib.EndianBits
import Derived.Laws.BitsAllLaws
import Derived.Laws.Closers25b
namespace Go.Proofs.Qxb6602430a
open Go.RowKit

/-- what 'controls' computes -/
def ctl (x : Int) : Int :=
  bits .and .u64 (bits .or .u64 (bits .andNot .u64 (IntKind.u64.wrap (x - 2314885530818453536)) x)
    (bits .andNot .u64 (IntKind.u64.wrap (bits .xor .u64 x 9187201950435737471 - 72340172838076673)) (bits .xor .u64 x 9187201950435737471))) 9259542123273814144

theorem ret_int {k : IntKind} {a b : Int} (h : a = b) : Ending.returned (.int k a) = .returned (.int k b) := by rw [h]
theorem ret_bool {a b : Bool} (h : a = b) : Ending.returned (.bool a) = .returned (.bool b) := by rw [h]

set_option maxHeartbeats 400000 in
theorem controls_any (x : Int) (w : World) :
    Calls Try.prog 45 #[.int .u64 x] w fun e w' => e = .returned (.int .u64 (ctl x)) ∧ w' = w := by
  go_enter Try.func45, Try.ntmps45
  go_wp2
  go_ret
  exact ⟨rfl, rfl⟩

open Plain in
/-- eight bytes, shifted and joined, are the number that they write -/
theorem word_eq (b0 b1 b2 b3 b4 b5 b6 b7 : Nat) (h0 : b0 < 256) (h1 : b1 < 256) (h2 : b2 < 256) (h3 : b3 < 256) (h4 : b4 < 256) (h5 : b5 < 256) (h6 : b6 < 256) (h7 : b7 < 256) :
    bits BinOp.or IntKind.u64 (bits BinOp.or IntKind.u64 (bits BinOp.or IntKind.u64 (bits BinOp.or IntKind.u64 (bits BinOp.or IntKind.u64 (bits BinOp.or IntKind.u64
      (bits BinOp.or IntKind.u64 (IntKind.u64.wrap (b0 : Int)) (IntKind.u64.wrap (IntKind.u64.wrap (b1 : Int) * 256)))
      (IntKind.u64.wrap (IntKind.u64.wrap (b2 : Int) * 65536)))
      (IntKind.u64.wrap (IntKind.u64.wrap (b3 : Int) * 16777216)))
      (IntKind.u64.wrap (IntKind.u64.wrap (b4 : Int) * 4294967296)))
      (IntKind.u64.wrap (IntKind.u64.wrap (b5 : Int) * 1099511627776)))
      (IntKind.u64.wrap (IntKind.u64.wrap (b6 : Int) * 281474976710656)))
      (IntKind.u64.wrap (IntKind.u64.wrap (b7 : Int) * 72057594037927936)) = ((num [b0, b1, b2, b3, b4, b5, b6, b7] : Nat) : Int) := by
  simp (disch := omega) only [u64_wrap_id, u64_or8, u64_or16, u64_or24, u64_or32, u64_or40, u64_or48, u64_or56]
  simp only [num]
  omega

/-- the first eight bytes as one number -/
def wordI (s : ByteArray) : Int := ((Plain.num ((s.data.toList.take 8).map UInt8.toNat) : Nat) : Int)

theorem take8 (s : ByteArray) (h : 8 ≤ s.size) : s.data.toList.take 8 = [s[0], s[1], s[2], s[3], s[4], s[5], s[6], s[7]] := by
  have hl : s.data.toList.length = s.size := by simp
  apply List.ext_getElem
  · simp [hl]; omega
  · intro i h1 h2
    simp at h2
    rw [List.getElem_take]
    have : i = 0 ∨ i = 1 ∨ i = 2 ∨ i = 3 ∨ i = 4 ∨ i = 5 ∨ i = 6 ∨ i = 7 := by omega
    rcases this with rfl | rfl | rfl | rfl | rfl | rfl | rfl | rfl <;> rfl

set_option maxHeartbeats 800000 in
theorem word_any (s : ByteArray) (w : World) (h8 : 8 ≤ s.size) :
    Calls Try.prog 46 #[.string s] w fun e w' => e = .returned (.int .u64 (wordI s)) ∧ ∃ n, w' = w.drewN n := by
  have q0 : 0 < s.size := by omega
  have q1 : (1 : Int) < (s.size : Int) := by omega
  have q2 : (2 : Int) < (s.size : Int) := by omega
  have q3 : (3 : Int) < (s.size : Int) := by omega
  have q4 : (4 : Int) < (s.size : Int) := by omega
  have q5 : (5 : Int) < (s.size : Int) := by omega
  have q6 : (6 : Int) < (s.size : Int) := by omega
  have q7 : (7 : Int) < (s.size : Int) := by omega
  go_enter Try.func46, Try.ntmps46
  go_wp2
  go_quiet (fail)
  go_wp2
  go_ret
  refine ⟨ret_int ?_, _, rfl⟩
  rw [wordI, take8 s h8]
  exact word_eq _ _ _ _ _ _ _ _ (UInt8.toNat_lt _) (UInt8.toNat_lt _) (UInt8.toNat_lt _) (UInt8.toNat_lt _) (UInt8.toNat_lt _) (UInt8.toNat_lt _) (UInt8.toNat_lt _) (UInt8.toNat_lt _)

/-! ### what 'controls' says of a word -/
theorem ctl_bounds (x : Int) : 0 ≤ ctl x ∧ ctl x ≤ 18446744073709551615 := bits_within _ .u64 _ _

/-- 'x - c' on a word -/
def sb (c x : Nat) : Nat := (x + 18446744073709551616 - c) % 18446744073709551616
theorem sb_lt (c x : Nat) : sb c x < 18446744073709551616 := Nat.mod_lt _ (by decide)
theorem sb_eq (c x : Nat) (hc : c < 18446744073709551616) : IntKind.u64.wrap ((x : Int) - (c : Int)) = ((sb c x : Nat) : Int) := by
  rw [IntKind.wrap_u64, sb]; omega

theorem ctl_bits (x y A B : Nat) (hx : x < 18446744073709551616) (hy : y < 18446744073709551616) (hA : A < 18446744073709551616) (hB : B < 18446744073709551616) :
    bits .and .u64 (bits .or .u64 (bits .andNot .u64 (A : Int) (x : Int)) (bits .andNot .u64 (B : Int) (y : Int))) 9259542123273814144 =
      (((A &&& (18446744073709551615 - x) ||| B &&& (18446744073709551615 - y)) &&& 9259542123273814144 : Nat) : Int) := by
  have l3 : A &&& (18446744073709551615 - x) < 18446744073709551616 := Nat.and_lt_two_pow (n := 64) _ (by omega)
  have l4 : B &&& (18446744073709551615 - y) < 18446744073709551616 := Nat.and_lt_two_pow (n := 64) _ (by omega)
  rw [u64_andNot_nat A x hA hx, u64_andNot_nat B y hB hy, u64_or_nat _ _ l3 l4]
  exact u64_and_nat _ 9259542123273814144 (Nat.or_lt_two_pow (n := 64) l3 l4) (by omega)

theorem G_eq (x : Nat) : Plain.G 72340172838076673 18446744073709551616 x =
    ((sb 2314885530818453536 x &&& (18446744073709551615 - x) ||| sb 72340172838076673 (x ^^^ 9187201950435737471) &&& (18446744073709551615 - (x ^^^ 9187201950435737471))) &&& 9259542123273814144) := by
  simp only [Plain.G, sb, Nat.reduceMul, Nat.reduceSub]

theorem ctl_eq (x : Nat) (hx : x < 18446744073709551616) : ctl (x : Int) = ((Plain.G 72340172838076673 18446744073709551616 x : Nat) : Int) := by
  have hy : x ^^^ 9187201950435737471 < 18446744073709551616 := Nat.xor_lt_two_pow (n := 64) hx (by omega)
  have ex : bits .xor .u64 (x : Int) 9187201950435737471 = ((x ^^^ 9187201950435737471 : Nat) : Int) := u64_xor_nat x 9187201950435737471 hx (by omega)
  rw [G_eq]
  unfold ctl
  rw [ex]
  generalize x ^^^ 9187201950435737471 = y at *
  have w1 : IntKind.u64.wrap ((x : Int) - 2314885530818453536) = ((sb 2314885530818453536 x : Nat) : Int) := sb_eq 2314885530818453536 x (by omega)
  have w2 : IntKind.u64.wrap ((y : Int) - 72340172838076673) = ((sb 72340172838076673 y : Nat) : Int) := sb_eq 72340172838076673 y (by omega)
  rw [w1, w2]
  exact ctl_bits x y _ _ hx hy (sb_lt _ _) (sb_lt _ _)

theorem ctl_num (l : List Nat) (hl : l.length = 8) (h : ∀ r ∈ l, r < 256) : (ctl ((Plain.num l : Nat) : Int) != 0) = l.any Plain.isCtl := by
  have hlt := Plain.num_lt l h
  rw [← Plain.G_num l h, hl]
  rw [hl] at hlt
  have e8 : Plain.ones 8 = 72340172838076673 := rfl
  have p8 : (256 : Nat) ^ 8 = 18446744073709551616 := rfl
  rw [e8, p8]
  rw [p8] at hlt
  rw [ctl_eq _ hlt]
  generalize Plain.G _ _ _ = z
  rw [Bool.eq_iff_iff]; simp

/-! ### bytes of a string -/
def isC (c : UInt8) : Bool := Plain.isCtl c.toNat
def anyC (l : List UInt8) : Bool := l.any isC

theorem anyC_append (a b : List UInt8) : anyC (a ++ b) = (anyC a || anyC b) := by simp [anyC]
theorem anyC_mono {a b : List UInt8} (h : ∀ x ∈ a, x ∈ b) (ha : anyC a = true) : anyC b = true := by
  simp only [anyC, List.any_eq_true] at ha ⊢
  obtain ⟨x, hx, hc⟩ := ha
  exact ⟨x, h x hx, hc⟩

/-- what the two callees make of a string: zero just if its first eight bytes hold no control byte -/
def mark (s : ByteArray) : Int := ctl (wordI s)
theorem mark_bounds (s : ByteArray) : 0 ≤ mark s ∧ mark s ≤ 18446744073709551615 := ctl_bounds _
theorem mark_iff (s : ByteArray) (h : 8 ≤ s.size) : (mark s != 0) = anyC (s.data.toList.take 8) := by
  have hl : (s.data.toList.take 8).length = 8 := by rw [take8 s h]; rfl
  rw [mark, wordI, ctl_num _ (by simpa using hl) (by simp only [List.mem_map]; rintro r ⟨c, _, rfl⟩; exact UInt8.toNat_lt c), List.any_map]
  rfl

theorem or_zero (x y : Int) (hx : 0 ≤ x ∧ x ≤ 18446744073709551615) (hy : 0 ≤ y ∧ y ≤ 18446744073709551615) : (bits .or .u64 x y != 0) = ((x != 0) || (y != 0)) := by
  obtain ⟨a, rfl⟩ := Int.eq_ofNat_of_zero_le hx.1
  obtain ⟨b, rfl⟩ := Int.eq_ofNat_of_zero_le hy.1
  rw [u64_or_nat a b (by omega) (by omega)]
  rw [Bool.eq_iff_iff]
  simp [Nat.or_eq_zero_iff]
  omega

theorem or_bounds (x y : Int) : 0 ≤ bits .or .u64 x y ∧ bits .or .u64 x y ≤ 18446744073709551615 := bits_within _ .u64 _ _

theorem extract_list (s : ByteArray) (a b : Nat) : (s.extract a b).data.toList = (s.data.toList.drop a).take (b - a) := by
  simp [List.take_drop]

/-- the loop's invariant: 's' is what is left of 'v', 'x' what has been seen -/
def Inv (v s : ByteArray) (x : Int) : Prop :=
  ∃ j : Nat, j ≤ v.size ∧ s.data.toList = v.data.toList.drop j ∧ (0 ≤ x ∧ x ≤ 18446744073709551615) ∧
    (x != 0) = (anyC (v.data.toList.drop (v.size - 8)) || anyC (v.data.toList.take j))
end Go.Proofs.Qxb6602430a
