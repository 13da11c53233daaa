import Derived.Test.Qxb6602493aDsC
namespace Go.Proofs.Qxb6602493a.Ds
open Go.RowKit
set_option linter.unusedVariables false

set_option maxHeartbeats 800000 in
theorem zzdescribe_any (doc : ByteArray) (start : Int) (pos : Nat) (dt : Bool) (w : World) (hd : doc.size ≤ 1048576) (h1 : pos ≤ doc.size) :
    Calls Try.prog 18 #[.string doc, .int .i64 start, .int .i64 pos, .bool dt] w fun e w' => e = .returned (.string (desc (doc.extract pos doc.size))) ∧ ∃ n, w' = (w.alloc (.cells #[.string doc, .int .i64 start, .int .i64 pos, .bool dt] 41)).drewN n := by
  go_enter Try.func18, Try.ntmps18
  go_wp2_with (go_at_call 23; refine (describe_any w.heap.size doc pos _ hd h1 (by simp [go_sem]) (by simp [go_sem])).mono ?_; rintro e w' ⟨rfl, n1, rfl⟩)
  go_ret
  exact ⟨rfl, _, rfl⟩

theorem grown_end1 (w : World) (c : Array Value) (t n : Nat) : Grown w ((w.alloc (.cells c t)).drewN n) := by
  have h : Grown w (w.alloc (.cells c t)) := (Grown.refl w).alloc c t
  exact h

set_option maxHeartbeats 400000 in
theorem zz17_in (doc : ByteArray) (start pos : Int) (dt : Bool) (w : World) (hd : doc.size ≤ 1048576) :
    Calls Try.prog 17 #[.string doc, .int .i64 start, .int .i64 pos, .bool dt] w fun e w' => e = .returned (.bool true) ∧ w' = w := by
  have g1 : ¬ (1048576 : Int) < (doc.size : Int) := by omega
  go_enter Try.func17, Try.ntmps17
  go_wp2
  go_ret
  exact ⟨rfl, rfl⟩

set_option maxHeartbeats 400000 in
theorem zz17_over (doc : ByteArray) (start pos : Int) (dt : Bool) (w : World) (hd : 1048576 < doc.size) (hm : doc.size ≤ maxLen) :
    Calls Try.prog 17 #[.string doc, .int .i64 start, .int .i64 pos, .bool dt] w fun e w' => e = .returned (.bool false) ∧ w' = w := by
  unfold maxLen at hm
  have g1 : (1048576 : Int) < (doc.size : Int) := by omega
  go_enter Try.func17, Try.ntmps17
  go_wp2
  go_ret
  exact ⟨rfl, rfl⟩

set_option maxHeartbeats 800000 in
theorem law_in (doc : ByteArray) (start : Int) (pos : Nat) (dt : Bool) (w : World) (hd : doc.size ≤ 1048576) (h1 : pos ≤ doc.size) :
    Calls Try.prog 6 #[.string doc, .int .i64 start, .int .i64 pos, .bool dt] w fun e w' => e = .returned (.bool true) ∧ Grown w w' := by
  have g1 : ¬ (1048576 : Int) < (doc.size : Int) := by omega
  have g2 : ¬ (doc.size : Int) < (pos : Int) := by omega
  have g2' : decide ((doc.size : Int) < (pos : Int)) = false := by simpa using g2
  have hx : (doc.extract pos doc.size).size ≤ 1048576 := by simp; omega
  have h1' : (pos : Int) ≤ (doc.size : Int) := by omega
  go_enter Try.func6, Try.ntmps6
  go_wp2_with (first
    | (go_at_call 17; refine (zz17_in doc start pos dt _ hd).mono ?_; rintro e w' ⟨rfl, rfl⟩)
    | (go_at_call 18; refine (zzdescribe_any doc start pos dt _ hd h1).mono ?_; rintro e w' ⟨rfl, n1, rfl⟩)
    | (go_at_call 19; refine (model_any _ _ hx).mono ?_; rintro e w' ⟨rfl, n2, rfl⟩))
  go_ret
  exact ⟨rfl, grown_end1 _ _ _ _⟩

set_option maxHeartbeats 400000 in
theorem law_over (doc : ByteArray) (start pos : Int) (dt : Bool) (w : World) (hd : 1048576 < doc.size) (hm : doc.size ≤ maxLen) :
    Calls Try.prog 6 #[.string doc, .int .i64 start, .int .i64 pos, .bool dt] w fun e w' => e = .returned (.bool true) ∧ Grown w w' := by
  go_enter Try.func6, Try.ntmps6
  go_wp2_with (go_at_call 17; refine (zz17_over doc start pos dt _ hd hm).mono ?_; rintro e w' ⟨rfl, rfl⟩)
  go_ret
  exact ⟨rfl, Grown.refl _⟩

set_option maxHeartbeats 400000 in
theorem law_neg (doc : ByteArray) (start pos : Int) (dt : Bool) (w : World) (hd : doc.size ≤ 1048576) (h0 : pos < 0) :
    Calls Try.prog 6 #[.string doc, .int .i64 start, .int .i64 pos, .bool dt] w fun e w' => e = .returned (.bool true) ∧ Grown w w' := by
  have g1 : ¬ (1048576 : Int) < (doc.size : Int) := by omega
  go_enter Try.func6, Try.ntmps6
  go_wp2_with (go_at_call 17; refine (zz17_in doc start pos dt _ hd).mono ?_; rintro e w' ⟨rfl, rfl⟩)
  go_ret
  exact ⟨rfl, Grown.refl _⟩

set_option maxHeartbeats 400000 in
theorem law_past (doc : ByteArray) (start pos : Int) (dt : Bool) (w : World) (hd : doc.size ≤ 1048576) (h0 : (doc.size : Int) < pos) :
    Calls Try.prog 6 #[.string doc, .int .i64 start, .int .i64 pos, .bool dt] w fun e w' => e = .returned (.bool true) ∧ Grown w w' := by
  have g1 : ¬ (1048576 : Int) < (doc.size : Int) := by omega
  have g2 : decide (pos < 0) = false := by simp; omega
  go_enter Try.func6, Try.ntmps6
  go_wp2_with (go_at_call 17; refine (zz17_in doc start pos dt _ hd).mono ?_; rintro e w' ⟨rfl, rfl⟩)
  go_ret
  exact ⟨rfl, Grown.refl _⟩

theorem law_all (doc : ByteArray) (start pos : Int) (dt : Bool) (w : World) (hm : doc.size ≤ maxLen) :
    Calls Try.prog 6 #[.string doc, .int .i64 start, .int .i64 pos, .bool dt] w fun e w' => e = .returned (.bool true) ∧ Grown w w' := by
  by_cases hd : doc.size ≤ 1048576
  · by_cases h0 : pos < 0
    · exact law_neg doc start pos dt w hd h0
    · by_cases h1 : (doc.size : Int) < pos
      · exact law_past doc start pos dt w hd h1
      · obtain ⟨p, rfl⟩ := Int.eq_ofNat_of_zero_le (by omega : 0 ≤ pos)
        exact law_in doc start p dt w hd (by omega)
  · exact law_over doc start pos dt w (by omega) hm
end Go.Proofs.Qxb6602493a.Ds
