import Derived.Test.Qxb6602493aDsA
namespace Go.Proofs.Qxb6602493a.Ds
open Go.RowKit
set_option linter.unusedVariables false

def tEnd : ByteArray := { data := #[116, 104, 101, 32, 101, 110, 100, 32, 111, 102, 32, 116, 104, 101, 32, 100, 111, 99, 117, 109, 101, 110, 116] }
def tCdata : ByteArray := { data := #[97, 32, 67, 68, 65, 84, 65, 32, 115, 101, 99, 116, 105, 111, 110] }
def tDoc : ByteArray := { data := #[97, 32, 100, 111, 99, 117, 109, 101, 110, 116, 32, 116, 121, 112, 101, 32, 100, 101, 99, 108, 97, 114, 97, 116, 105, 111, 110] }
def tMark : ByteArray := { data := #[97, 32, 109, 97, 114, 107, 117, 112, 32, 100, 101, 99, 108, 97, 114, 97, 116, 105, 111, 110] }
def tElem : ByteArray := { data := #[97, 110, 32, 101, 108, 101, 109, 101, 110, 116] }
def tRef : ByteArray := { data := #[97, 32, 114, 101, 102, 101, 114, 101, 110, 99, 101] }
def tText : ByteArray := { data := #[116, 101, 120, 116] }

/-- what 'describe' says of what is left -/
def desc (r : ByteArray) : ByteArray :=
  if r.size = 0 then tEnd
  else if pfxB r { data := #[60, 33, 91, 67, 68, 65, 84, 65, 91] } then tCdata
  else if pfxB r { data := #[60, 33, 68, 79, 67, 84, 89, 80, 69] } then tDoc
  else if pfxB r { data := #[60, 33] } then tMark
  else if pfxB r { data := #[60] } then tElem
  else if pfxB r { data := #[38] } then tRef
  else tText

theorem ne_of_false {b : Bool} (h : b = false) : ¬ b = true := by rw [h]; decide

theorem at_drew (b : Nat) (doc p : ByteArray) (pos m : Nat) (w : World) (hd : doc.size ≤ 1048576) (hp : p.size ≤ maxLen) (h1 : pos ≤ doc.size)
    (c0 : w.cell? ⟨b, 0, none⟩ = some (.string doc)) (c2 : w.cell? ⟨b, 2, none⟩ = some (.int .i64 pos)) :
    Calls Try.prog 25 #[.pointer (some ⟨b, 0, none⟩), .string p] (w.drewN m) fun e w' => e = .returned (.bool (pfxB (doc.extract pos doc.size) p)) ∧ ∃ n, w' = w.drewN n :=
  (at_any b doc p pos (w.drewN m) hd hp h1 c0 c2).mono fun e w' ⟨he, n, hw⟩ => ⟨he, m + n, by rw [hw, World.drewN_drewN]⟩

set_option maxHeartbeats 1600000 in
theorem describe_any (b : Nat) (doc : ByteArray) (pos : Nat) (w : World) (hd : doc.size ≤ 1048576) (h1 : pos ≤ doc.size)
    (c0 : w.cell? ⟨b, 0, none⟩ = some (.string doc)) (c2 : w.cell? ⟨b, 2, none⟩ = some (.int .i64 pos)) :
    Calls Try.prog 23 #[.pointer (some ⟨b, 0, none⟩)] w fun e w' => e = .returned (.string (desc (doc.extract pos doc.size))) ∧ ∃ n, w' = w.drewN n := by
  have hsz : (doc.extract pos doc.size).size = doc.size - pos := by simp
  by_cases g0 : ((pos : Int) == (doc.size : Int)) = true
  · have HE : Hid (desc (doc.extract pos doc.size) = tEnd) := by
      show desc _ = tEnd
      unfold desc
      rw [if_pos (by simp at g0; omega)]
    go_enter Try.func23, Try.ntmps23
    go_wp2
    go_quiet (fail)
    go_wp2
    go_ret
    exact ⟨ret_str HE.out.symm, _, rfl⟩
  have g0' : ((pos : Int) == (doc.size : Int)) = false := by simpa using g0
  have hne : ¬ (doc.extract pos doc.size).size = 0 := by simp at g0; omega
  clear g0 hsz
  cases p1 : pfxB (doc.extract pos doc.size) { data := #[60, 33, 91, 67, 68, 65, 84, 65, 91] }
  rotate_left
  · have HE : Hid (desc (doc.extract pos doc.size) = tCdata) := by
      show desc _ = tCdata
      unfold desc
      rw [if_neg hne, if_pos p1]
    clear hne
    go_enter Try.func23, Try.ntmps23
    go_wp2
    go_quiet (fail)
    go_wp2_with (go_at_call 25; refine (at_drew b doc _ pos _ w hd (by decide) h1 c0 c2).mono ?_; rintro e w' ⟨rfl, n1, rfl⟩)
    go_ret
    exact ⟨ret_str HE.out.symm, _, rfl⟩
  cases p2 : pfxB (doc.extract pos doc.size) { data := #[60, 33, 68, 79, 67, 84, 89, 80, 69] }
  rotate_left
  · have HE : Hid (desc (doc.extract pos doc.size) = tDoc) := by
      show desc _ = tDoc
      unfold desc
      rw [if_neg hne, if_neg (ne_of_false p1), if_pos p2]
    clear hne
    go_enter Try.func23, Try.ntmps23
    go_wp2
    go_quiet (fail)
    go_wp2_with (go_at_call 25; refine (at_drew b doc _ pos _ w hd (by decide) h1 c0 c2).mono ?_; rintro e w' ⟨rfl, n1, rfl⟩)
    go_ret
    exact ⟨ret_str HE.out.symm, _, rfl⟩
  cases p3 : pfxB (doc.extract pos doc.size) { data := #[60, 33] }
  rotate_left
  · have HE : Hid (desc (doc.extract pos doc.size) = tMark) := by
      show desc _ = tMark
      unfold desc
      rw [if_neg hne, if_neg (ne_of_false p1), if_neg (ne_of_false p2), if_pos p3]
    clear hne
    go_enter Try.func23, Try.ntmps23
    go_wp2
    go_quiet (fail)
    go_wp2_with (go_at_call 25; refine (at_drew b doc _ pos _ w hd (by decide) h1 c0 c2).mono ?_; rintro e w' ⟨rfl, n1, rfl⟩)
    go_ret
    exact ⟨ret_str HE.out.symm, _, rfl⟩
  cases p4 : pfxB (doc.extract pos doc.size) { data := #[60] }
  rotate_left
  · have HE : Hid (desc (doc.extract pos doc.size) = tElem) := by
      show desc _ = tElem
      unfold desc
      rw [if_neg hne, if_neg (ne_of_false p1), if_neg (ne_of_false p2), if_neg (ne_of_false p3), if_pos p4]
    clear hne
    go_enter Try.func23, Try.ntmps23
    go_wp2
    go_quiet (fail)
    go_wp2_with (go_at_call 25; refine (at_drew b doc _ pos _ w hd (by decide) h1 c0 c2).mono ?_; rintro e w' ⟨rfl, n1, rfl⟩)
    go_ret
    exact ⟨ret_str HE.out.symm, _, rfl⟩
  cases p5 : pfxB (doc.extract pos doc.size) { data := #[38] }
  rotate_left
  · have HE : Hid (desc (doc.extract pos doc.size) = tRef) := by
      show desc _ = tRef
      unfold desc
      rw [if_neg hne, if_neg (ne_of_false p1), if_neg (ne_of_false p2), if_neg (ne_of_false p3), if_neg (ne_of_false p4), if_pos p5]
    clear hne
    go_enter Try.func23, Try.ntmps23
    go_wp2
    go_quiet (fail)
    go_wp2_with (go_at_call 25; refine (at_drew b doc _ pos _ w hd (by decide) h1 c0 c2).mono ?_; rintro e w' ⟨rfl, n1, rfl⟩)
    go_ret
    exact ⟨ret_str HE.out.symm, _, rfl⟩
  have HE : Hid (desc (doc.extract pos doc.size) = tText) := by
    show desc _ = tText
    unfold desc
    rw [if_neg hne, if_neg (ne_of_false p1), if_neg (ne_of_false p2), if_neg (ne_of_false p3), if_neg (ne_of_false p4), if_neg (ne_of_false p5)]
  clear hne
  go_enter Try.func23, Try.ntmps23
  go_wp2
  go_quiet (fail)
  go_wp2_with (go_at_call 25; refine (at_drew b doc _ pos _ w hd (by decide) h1 c0 c2).mono ?_; rintro e w' ⟨rfl, n1, rfl⟩)
  go_ret
  exact ⟨ret_str HE.out.symm, _, rfl⟩
end Go.Proofs.Qxb6602493a.Ds
