import Derived.Test.Qxb6602493aGtD
import Derived.Deep.QuietTactic
import Derived.BigQuiet
import Derived.WalkSmall
namespace Go.Proofs.Qxb6602493a
open Go.RowKit

theorem clone_any (a : Option Addr) (n c : Nat) (ha : a.isNone = true → n = 0 ∧ c = 0) (adr : Nat → Addr) (S : Nat → ByteArray) (w : World) (hn : n ≤ 4096) (h : StrsAt w a n adr S) :
    Calls Try.prog 12 #[.slice a n c] w fun e w' => Cloned w a.isNone n S e w' := by
  cases a with
  | none =>
    obtain ⟨rfl, rfl⟩ := ha rfl
    exact clone_none w S
  | some ad => exact clone_some (some ad) rfl n c adr S w hn h

theorem attrs_any (a a' : Option Addr) (n c c' : Nat) (ha : a.isNone = true → n = 0) (adr adr' : Nat → Addr) (S V : Nat → ByteArray) (w : World) (hn : n ≤ 4096) (h : StrsAt w a n adr S) (h' : StrsAt w a' n adr' V) :
    Calls Try.prog 13 #[.slice a n c, .slice a' n c'] w fun e w' => Laid w n S V e w' := by
  cases a with
  | none =>
    obtain rfl := ha rfl
    exact attrs_none w S V a' 0 c' c
  | some ad => exact attrs_some (some ad) a' rfl n c c' adr adr' S V w hn h h'

set_option maxHeartbeats 400000 in
theorem zzgiven_any (a : Option Addr) (n c B : Nat) (S V : Nat → ByteArray) (w : World) (hn : n ≤ 4096) (h : AttrsAt w a n B S V) :
    Calls Try.prog 14 #[.slice a n c] w fun e w' => Found w n S e w' := by
  go_enter Try.func14, Try.ntmps14
  go_wp2_with (go_at_call 22; refine (given_any a n c B S V w hn h).mono ?_; rintro e w' ⟨got, ok, rfl, hb, hs⟩)
  go_ret2
  exact ⟨got, ok, rfl, hb, hs⟩

theorem spec_hit {n : Nat} {S : Nat → ByteArray} {got : ByteArray} {ok : Bool} (h : Spec n S got ok) {j : Nat} (hj : j < n) (hr : NoRep S j) (hs : seenB S j (S j) = true) : ok = true ∧ got = S j := by
  rcases h with ⟨h1, j', hj', hr', hs', hg⟩ | ⟨_, _, hr'⟩
  · have e : j = j' := by
      rcases Nat.lt_trichotomy j j' with hlt | heq | hgt
      · have := hr' j hlt; rw [hs] at this; cases this
      · exact heq
      · have := hr j' hgt; rw [hs'] at this; cases this
    subst e
    exact ⟨h1, hg⟩
  · have := hr' j hj; rw [hs] at this; cases this

theorem spec_miss {n : Nat} {S : Nat → ByteArray} {got : ByteArray} {ok : Bool} (h : Spec n S got ok) (hr : NoRep S n) : ok = false ∧ got = ByteArray.empty := by
  rcases h with ⟨_, j', hj', _, hs', _⟩ | ⟨h1, h2, _⟩
  · have := hr j' hj'; rw [hs'] at this; cases this
  · exact ⟨h1, h2⟩

end Go.Proofs.Qxb6602493a
