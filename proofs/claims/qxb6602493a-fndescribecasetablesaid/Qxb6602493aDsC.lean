import Derived.Test.Qxb6602493aDsB
import Derived.RowKit3
namespace Go.Proofs.Qxb6602493a.Ds
open Go.RowKit
set_option linter.unusedVariables false

/-! ### the plain law: the case table -/
theorem pfx_first (r : ByteArray) (h : 0 < r.size) (x : UInt8) (xs : List UInt8) (hx : r[0] ≠ x) : pfxB r { data := (x :: xs).toArray } = false := by
  refine pfx_miss 0 (by simp [ByteArray.size]) ?_
  rw [get_at r 0 h]
  intro e
  simp at e
  exact hx e

theorem pfx_second (r : ByteArray) (h : 1 < r.size) (x y : UInt8) (xs : List UInt8) (hx : r[1] ≠ y) : pfxB r { data := (x :: y :: xs).toArray } = false := by
  refine pfx_miss 1 (by simp [ByteArray.size]) ?_
  rw [get_at r 1 h]
  intro e
  simp at e
  exact hx e

theorem pfx_one (r : ByteArray) (h : 0 < r.size) (x : UInt8) (hx : r[0] = x) : pfxB r { data := #[x] } = true := by
  refine pfx_all (show 1 ≤ r.size from h) ?_
  intro j hj
  have hj' : j < 1 := hj
  have e : j = 0 := by omega
  subst e
  rw [get_at r 0 h]
  simp [hx]

theorem pfx_two (r : ByteArray) (h : 1 < r.size) (x y : UInt8) (hx : r[0] = x) (hy : r[1] = y) : pfxB r { data := #[x, y] } = true := by
  refine pfx_all (show 2 ≤ r.size from h) ?_
  intro j hj
  have hj' : j < 2 := hj
  have e : j = 0 ∨ j = 1 := by omega
  rcases e with rfl | rfl
  · rw [get_at r 0 (by omega)]; simp [hx]
  · rw [get_at r 1 h]; simp [hy]

theorem desc_end (r : ByteArray) (h : r.size = 0) : desc r = tEnd := by unfold desc; rw [if_pos h]

theorem desc_ref (r : ByteArray) (h : 0 < r.size) (h0 : r[0] = 38) : desc r = tRef := by
  unfold desc
  have n : r[0] ≠ 60 := by rw [h0]; decide
  rw [if_neg (by omega), if_neg (ne_of_false (pfx_first r h 60 [33, 91, 67, 68, 65, 84, 65, 91] n)), if_neg (ne_of_false (pfx_first r h 60 [33, 68, 79, 67, 84, 89, 80, 69] n)), if_neg (ne_of_false (pfx_first r h 60 [33] n)), if_neg (ne_of_false (pfx_first r h 60 [] n)), if_pos (pfx_one r h 38 h0)]

theorem desc_text (r : ByteArray) (h : 0 < r.size) (h0 : r[0] ≠ 38) (n : r[0] ≠ 60) : desc r = tText := by
  unfold desc
  rw [if_neg (by omega), if_neg (ne_of_false (pfx_first r h 60 [33, 91, 67, 68, 65, 84, 65, 91] n)), if_neg (ne_of_false (pfx_first r h 60 [33, 68, 79, 67, 84, 89, 80, 69] n)), if_neg (ne_of_false (pfx_first r h 60 [33] n)), if_neg (ne_of_false (pfx_first r h 60 [] n)), if_neg (ne_of_false (pfx_first r h 38 [] h0))]

theorem desc_elem1 (r : ByteArray) (h : r.size = 1) (h0 : r[0] = 60) : desc r = tElem := by
  unfold desc
  rw [if_neg (by omega), if_neg (ne_of_false (pfx_long (by rw [h]; decide))), if_neg (ne_of_false (pfx_long (by rw [h]; decide))), if_neg (ne_of_false (pfx_long (by rw [h]; decide))), if_pos (pfx_one r (by omega) 60 h0)]

theorem desc_elem2 (r : ByteArray) (h : 1 < r.size) (h0 : r[0] = 60) (h1 : r[1] ≠ 33) : desc r = tElem := by
  unfold desc
  rw [if_neg (by omega), if_neg (ne_of_false (pfx_second r h 60 33 [91, 67, 68, 65, 84, 65, 91] h1)), if_neg (ne_of_false (pfx_second r h 60 33 [68, 79, 67, 84, 89, 80, 69] h1)), if_neg (ne_of_false (pfx_second r h 60 33 [] h1)), if_pos (pfx_one r (by omega) 60 h0)]

theorem desc_cdata (r : ByteArray) (h : 1 < r.size) (p1 : pfxB r { data := #[60, 33, 91, 67, 68, 65, 84, 65, 91] } = true) : desc r = tCdata := by
  unfold desc
  rw [if_neg (by omega), if_pos p1]
theorem desc_doc (r : ByteArray) (h : 1 < r.size) (p1 : pfxB r { data := #[60, 33, 91, 67, 68, 65, 84, 65, 91] } = false) (p2 : pfxB r { data := #[60, 33, 68, 79, 67, 84, 89, 80, 69] } = true) : desc r = tDoc := by
  unfold desc
  rw [if_neg (by omega), if_neg (ne_of_false p1), if_pos p2]
theorem desc_mark (r : ByteArray) (h : 1 < r.size) (h0 : r[0] = 60) (h1 : r[1] = 33) (p1 : pfxB r { data := #[60, 33, 91, 67, 68, 65, 84, 65, 91] } = false) (p2 : pfxB r { data := #[60, 33, 68, 79, 67, 84, 89, 80, 69] } = false) : desc r = tMark := by
  unfold desc
  rw [if_neg (by omega), if_neg (ne_of_false p1), if_neg (ne_of_false p2), if_pos (pfx_two r h 60 33 h0 h1)]

theorem byte_lit (a : UInt8) (n : Nat) (hn : n < 256) (h : ((a.toNat : Int) == (n : Int)) = true) : a = UInt8.ofNat n := by
  simp at h
  apply UInt8.toNat_inj.1
  rw [UInt8.toNat_ofNat_of_lt' hn]; omega
theorem byte_ne (a : UInt8) (n : Nat) (hn : n < 256) (h : ((a.toNat : Int) == (n : Int)) = false) : a ≠ UInt8.ofNat n := by
  intro e
  rw [e, UInt8.toNat_ofNat_of_lt' hn] at h
  simp at h

set_option maxHeartbeats 1600000 in
theorem model_any (r : ByteArray) (w : World) (hr : r.size ≤ 1048576) :
    Calls Try.prog 19 #[.string r] w fun e w' => e = .returned (.string (desc r)) ∧ ∃ n, w' = w.drewN n := by
  by_cases z : r.size = 0
  · have z' : ((r.size : Int) == 0) = true := by rw [z]; rfl
    have HE : Hid (desc r = tEnd) := desc_end r z
    clear z
    go_enter Try.func19, Try.ntmps19
    go_wp2
    go_ret
    exact ⟨ret_str HE.out.symm, 0, rfl⟩
  have z0 : 0 < r.size := by omega
  have z' : ((r.size : Int) == 0) = false := by rw [beq_eq_false_iff_ne]; omega
  cases q1 : ((r[0].toNat : Int) == 38)
  rotate_left
  · have HE : Hid (desc r = tRef) := desc_ref r z0 (byte_lit _ 38 (by decide) q1)
    go_enter Try.func19, Try.ntmps19
    go_wp2
    go_ret
    exact ⟨ret_str HE.out.symm, 0, rfl⟩
  cases q2 : ((r[0].toNat : Int) == 60)
  · have HE : Hid (desc r = tText) := desc_text r z0 (byte_ne _ 38 (by decide) q1) (byte_ne _ 60 (by decide) q2)
    go_enter Try.func19, Try.ntmps19
    go_wp2
    go_ret
    exact ⟨ret_str HE.out.symm, 0, rfl⟩
  have b0 : r[0] = 60 := byte_lit _ 60 (by decide) q2
  have B0 : Hid (r[0] = 60) := b0
  clear b0
  by_cases s2 : (r.size : Int) < 2
  · have HE : Hid (desc r = tElem) := desc_elem1 r (by omega) B0.out
    go_enter Try.func19, Try.ntmps19
    go_wp2
    go_ret
    exact ⟨ret_str HE.out.symm, 0, rfl⟩
  have s2' : decide ((r.size : Int) < 2) = false := by simpa using s2
  have s3 : (1 : Int) < (r.size : Int) := by omega
  have s4 : 1 < r.size := by omega
  cases q3 : ((r[1].toNat : Int) != 33)
  rotate_left
  · have HE : Hid (desc r = tElem) := desc_elem2 r s4 B0.out (by intro e; rw [e] at q3; simp at q3)
    go_enter Try.func19, Try.ntmps19
    go_wp2
    go_ret
    exact ⟨ret_str HE.out.symm, 0, rfl⟩
  have B1 : Hid (r[1] = 33) := byte_lit _ 33 (by decide) (by simpa using q3)
  cases p1 : pfxB r { data := #[60, 33, 91, 67, 68, 65, 84, 65, 91] }
  rotate_left
  · have HE : Hid (desc r = tCdata) := desc_cdata r s4 p1
    go_enter Try.func19, Try.ntmps19
    go_wp2_with (go_at_call 24; refine (starts_any r _ _ hr (by decide)).mono ?_; rintro e w' ⟨rfl, n1, rfl⟩)
    go_ret
    exact ⟨ret_str HE.out.symm, _, rfl⟩
  cases p2 : pfxB r { data := #[60, 33, 68, 79, 67, 84, 89, 80, 69] }
  rotate_left
  · have HE : Hid (desc r = tDoc) := desc_doc r s4 p1 p2
    go_enter Try.func19, Try.ntmps19
    go_wp2_with (go_at_call 24; refine (starts_any r _ _ hr (by decide)).mono ?_; rintro e w' ⟨rfl, n1, rfl⟩)
    go_ret
    exact ⟨ret_str HE.out.symm, _, rfl⟩
  · have HE : Hid (desc r = tMark) := desc_mark r s4 B0.out B1.out p1 p2
    go_enter Try.func19, Try.ntmps19
    go_wp2_with (go_at_call 24; refine (starts_any r _ _ hr (by decide)).mono ?_; rintro e w' ⟨rfl, n1, rfl⟩)
    go_ret
    exact ⟨ret_str HE.out.symm, _, rfl⟩
end Go.Proofs.Qxb6602493a.Ds
