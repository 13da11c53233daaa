import Derived.Test.Qxb6602493aRows
import Derived.WalkKit
import Derived.WalkSpells
import Derived.WalkLawsBesides
import Derived.LoopTactic
import Derived.Deep.QuietTactic
import Derived.BigQuiet
namespace Go.Proofs.Qxb6602493a.Ds
open Go.RowKit
set_option linter.unusedVariables false

theorem ret_bool {a b : Bool} (h : a = b) : Ending.returned (.bool a) = .returned (.bool b) := by rw [h]
theorem ret_str {a b : ByteArray} (h : a = b) : Ending.returned (.string a) = .returned (.string b) := by rw [h]

theorem drew_more {w wr : World} (h : ∃ n, wr = w.drewN n) (k : Nat) : ∃ n, wr.drewN k = w.drewN n := by
  obtain ⟨n, rfl⟩ := h
  exact ⟨n + k, World.drewN_drewN _ _ _⟩

/-- does s begin with p? -/
def pfxB (s p : ByteArray) : Bool := p.data.toList.isPrefixOf s.data.toList

theorem data_len (s : ByteArray) : s.data.toList.length = s.size := by simp

theorem pfx_long {s p : ByteArray} (h : s.size < p.size) : pfxB s p = false := by
  unfold pfxB
  rw [Bool.eq_false_iff]
  intro e
  have := (List.isPrefixOf_iff_prefix.1 e).length_le
  rw [data_len, data_len] at this
  omega

theorem pfx_eq {s p : ByteArray} (h : p.size ≤ s.size) : ((s.extract 0 p.size).toList == p.toList) = pfxB s p := by
  rw [ByteArray.toList_eq, ByteArray.toList_eq, pfxB, Bool.eq_iff_iff, List.isPrefixOf_iff_prefix, beq_iff_eq]
  have e : (s.extract 0 p.size).data.toList = s.data.toList.take p.size := by simp
  rw [e, List.prefix_iff_eq_take, data_len]
  exact eq_comm

set_option maxHeartbeats 400000 in
theorem has27 (s p : ByteArray) (w : World) (hs : s.size ≤ maxLen) (hp : p.size ≤ maxLen) :
    Calls Try.prog 27 #[.string s, .string p] w fun e w' => e = .returned (.bool (pfxB s p)) ∧ w' = w := by
  unfold maxLen at hs hp
  by_cases h : p.size ≤ s.size
  · have h' : (p.size : Int) ≤ (s.size : Int) := by omega
    have HE : Hid (((s.extract 0 p.size).toList == p.toList) = pfxB s p) := pfx_eq h
    go_enter Try.func27, Try.ntmps27
    go_wp2
    go_ret
    exact ⟨ret_bool HE.out, rfl⟩
  · have h' : decide ((p.size : Int) ≤ (s.size : Int)) = false := by simp; omega
    have HE : Hid (pfxB s p = false) := pfx_long (by omega)
    go_enter Try.func27, Try.ntmps27
    go_wp2
    go_ret
    exact ⟨ret_bool HE.out.symm, rfl⟩

set_option maxHeartbeats 400000 in
theorem has26 (s p : ByteArray) (w : World) (hs : s.size ≤ maxLen) (hp : p.size ≤ maxLen) :
    Calls Try.prog 26 #[.string s, .string p] w fun e w' => e = .returned (.bool (pfxB s p)) ∧ w' = w := by
  go_enter Try.func26, Try.ntmps26
  go_wp2_with (go_at_call 27; refine (has27 s p _ hs hp).mono ?_; rintro e w' ⟨rfl, rfl⟩)
  go_ret
  exact ⟨rfl, rfl⟩

set_option maxHeartbeats 800000 in
theorem at_any (b : Nat) (doc p : ByteArray) (pos : Nat) (w : World) (hd : doc.size ≤ 1048576) (hp : p.size ≤ maxLen) (h1 : pos ≤ doc.size)
    (c0 : w.cell? ⟨b, 0, none⟩ = some (.string doc)) (c2 : w.cell? ⟨b, 2, none⟩ = some (.int .i64 pos)) :
    Calls Try.prog 25 #[.pointer (some ⟨b, 0, none⟩), .string p] w fun e w' => e = .returned (.bool (pfxB (doc.extract pos doc.size) p)) ∧ ∃ n, w' = w.drewN n := by
  have h1' : (pos : Int) ≤ (doc.size : Int) := by omega
  have hx : (doc.extract pos doc.size).size ≤ maxLen := by simp; unfold maxLen; omega
  go_enter Try.func25, Try.ntmps25
  go_wp2
  go_quiet ((go_at_call 26; exact Calls.quiet_of_same (has26 _ _ _ hx hp)))
  go_wp2
  go_ret
  exact ⟨rfl, _, rfl⟩

/-! ### startsWithB1 -/
theorem pfx_all {s p : ByteArray} (hl : p.size ≤ s.size) (h : ∀ j, j < p.size → s.data.toList[j]? = p.data.toList[j]?) : pfxB s p = true := by
  rw [pfxB, List.isPrefixOf_iff_prefix, List.prefix_iff_eq_take, data_len]
  apply List.ext_getElem?
  intro j
  rw [List.getElem?_take]
  split
  · exact (h j ‹_›).symm
  · rw [List.getElem?_eq_none]; rw [data_len]; omega

theorem pfx_miss {s p : ByteArray} (j : Nat) (hj : j < p.size) (h : s.data.toList[j]? ≠ p.data.toList[j]?) : pfxB s p = false := by
  rw [Bool.eq_false_iff]
  intro e
  rw [pfxB, List.isPrefixOf_iff_prefix, List.prefix_iff_eq_take, data_len] at e
  apply h
  rw [e, List.getElem?_take, if_pos hj]

theorem get_at (s : ByteArray) (j : Nat) (h : j < s.size) : s.data.toList[j]? = some s[j] := by
  rw [List.getElem?_eq_getElem (by simpa using h)]; rfl

theorem byte_eq {a b : UInt8} (h : ((a.toNat : Int) != (b.toNat : Int)) = false) : a = b := by
  simp at h
  exact UInt8.toNat_inj.1 (by omega)

set_option maxHeartbeats 800000 in
theorem starts_any (s p : ByteArray) (w : World) (hs : s.size ≤ 1048576) (hp : p.size ≤ 1048576) :
    Calls Try.prog 24 #[.string s, .string p] w fun e w' => e = .returned (.bool (pfxB s p)) ∧ ∃ n, w' = w.drewN n := by
  by_cases hl : (s.size : Int) < (p.size : Int)
  · have HE : Hid (pfxB s p = false) := pfx_long (by omega)
    go_enter Try.func24, Try.ntmps24
    go_wp2
    go_ret
    exact ⟨ret_bool HE.out.symm, 0, rfl⟩
  go_enter Try.func24, Try.ntmps24
  go_wp2
  go_loopw [5] (fun i wr => ∃ k : Nat, k ≤ p.size ∧ i = .int .i64 k ∧ Hid (∀ j, j < k → s.data.toList[j]? = p.data.toList[j]?) ∧ Hid (∃ n, wr = w.drewN n)) (fun i _ => p.size - (intOf i).toNat)
  case atStart => exact ⟨0, Nat.zero_le _, rfl, fun j hj => absurd hj (Nat.not_lt_zero _), ⟨0, rfl⟩⟩
  case round =>
    obtain ⟨k, hk, rfl, HP, HW⟩ := hrel
    by_cases hlt : k < p.size
    · have hks : k < s.size := by omega
      cases hq : ((s[k].toNat : Int) != (p[k].toNat : Int))
      · have HP' : Hid (∀ j, j < k + 1 → s.data.toList[j]? = p.data.toList[j]?) := by
          intro j hj
          by_cases e : j = k
          · subst e; rw [get_at s j hks, get_at p j hlt]; rw [byte_eq hq]
          · exact HP.out j (by omega)
        go_wp2
        go_quiet (fail)
        go_wp2
        go_roundw
        case rel => exact ⟨k + 1, by omega, by go_num, HP', drew_more HW.out _⟩
        case measure => simp [intOf]; omega
      · have HE : Hid (pfxB s p = false) := pfx_miss k hlt (by rw [get_at s k hks, get_at p k hlt]; simp at hq; intro e; injection e with e; rw [e] at hq; exact hq rfl)
        go_wp2
        go_quiet (fail)
        go_wp2
        go_ret
        exact ⟨ret_bool HE.out.symm, drew_more HW.out _⟩
    · have HE : Hid (pfxB s p = true) := pfx_all (by omega) (fun j hj => HP.out j (by omega))
      go_wp2
      go_ret
      exact ⟨ret_bool HE.out.symm, HW.out⟩
end Go.Proofs.Qxb6602493a.Ds
