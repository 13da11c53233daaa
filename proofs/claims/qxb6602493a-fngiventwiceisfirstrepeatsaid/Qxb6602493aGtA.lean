import Derived.Test.Qxb6602493aRows
import Derived.WalkKit
import Derived.WalkSpells
import Derived.WalkLawsBesides
import Derived.LoopTactic
namespace Go.Proofs.Qxb6602493a
open Go.RowKit

theorem ret_bool {a b : Bool} (h : a = b) : Ending.returned (.bool a) = .returned (.bool b) := by rw [h]

/-- It returns a bool. -/
def SomeBool (e : Ending) : Prop := ∃ b : Bool, e = .returned (.bool b)

/-- A slice of strings as the walk wants it, whatever its address: element k lies at 'adr k' and is 'S k'. -/
structure StrsAt (w : World) (a : Option Addr) (n : Nat) (adr : Nat → Addr) (S : Nat → ByteArray) : Prop where
  idx : ∀ (c : Nat) (W : World) (k : Nat), k < n → (Instr.indexAt 24 (.slice a n c) (.int .i64 (k : Int))).run Try.prog W = .ok (.pointer (some (adr k))) W
  cell : ∀ k, k < n → w.cell? (adr k) = some (.string (S k))
  old : ∀ k, k < n → (adr k).block < w.heap.size
  small : ∀ k, k < n → (S k).size ≤ maxLen

theorem StrsAt.below {w w' : World} {a : Option Addr} {n : Nat} {adr : Nat → Addr} {S : Nat → ByteArray} (h : StrsAt w a n adr S) (hb : Below w.heap.size w w') : StrsAt w' a n adr S where
  idx := h.idx
  cell := fun k hk => (hb.cell (h.old k hk)).trans (h.cell k hk)
  old := fun k hk => Nat.lt_of_lt_of_le (h.old k hk) hb.size
  small := h.small

set_option maxHeartbeats 800000 in
theorem bytes_any (a : Option Addr) (n c : Nat) (adr : Nat → Addr) (S : Nat → ByteArray) (w : World) (hn : n ≤ maxLen) (h : StrsAt w a n adr S) :
    Calls Try.prog 11 #[.slice a n c] w fun e w' => ∃ t : Int, (0 ≤ t ∧ t ≤ 2097152) ∧ e = .returned (.int .i64 t) ∧ w' = w := by
  unfold maxLen at hn
  go_enter Try.func11, Try.ntmps11
  go_wp2
  go_loop [3, 4] (fun t i => ∃ (k : Nat) (x : Int), k ≤ n ∧ i = .int .i64 k ∧ (0 ≤ x ∧ x ≤ 1048576) ∧ t = .int .i64 x) (fun _ i => n - (intOf i).toNat)
  case atStart => exact ⟨0, 0, Nat.zero_le _, rfl, by omega, rfl⟩
  case round =>
    obtain ⟨k, x, hk, rfl, ⟨hx0, hx1⟩, rfl⟩ := hrel
    by_cases hlt : k < n
    · have hi := fun W => h.idx c W k hlt
      have hc := h.cell k hlt
      have hs := h.small k hlt
      unfold maxLen at hs
      generalize S k = s at hc hs
      generalize adr k = p at hi hc
      clear h
      by_cases h1 : (1048576 : Int) < (s.size : Int)
      · go_wp2
        go_ret
        exact ⟨2097152, by omega, rfl, rfl⟩
      · by_cases h2 : (1048576 : Int) < x + (16 + (s.size : Int))
        · go_wp2
          go_ret
          exact ⟨2097152, by omega, rfl, rfl⟩
        · go_wp2
          go_round
          case rel => exact ⟨k + 1, x + (16 + (s.size : Int)), by omega, by go_num, by omega, rfl⟩
          case measure => simp [intOf]; omega
    · go_wp2
      go_ret
      exact ⟨x, by omega, rfl, rfl⟩

set_option maxHeartbeats 1600000 in
theorem zzbytes_any (a : Option Addr) (n c : Nat) (adr : Nat → Addr) (S : Nat → ByteArray) (a' : Option Addr) (n' c' : Nat) (adr' : Nat → Addr) (S' : Nat → ByteArray) (w : World)
    (hn : n ≤ maxLen) (hn' : n' ≤ maxLen) (h : StrsAt w a n adr S) (h' : StrsAt w a' n' adr' S') :
    Calls Try.prog 10 #[.slice a n c, .slice a' n' c'] w fun e w' => SomeBool e ∧ w' = w := by
  unfold maxLen at hn hn'
  by_cases g1 : (1048576 : Int) < (n : Int)
  · go_enter Try.func10, Try.ntmps10
    go_wp2
    go_ret
    exact ⟨⟨false, rfl⟩, rfl⟩
  go_enter Try.func10, Try.ntmps10
  go_wp2
  go_loop [5, 6] (fun t i => ∃ (k : Nat) (x : Int), k ≤ n ∧ i = .int .i64 k ∧ (0 ≤ x ∧ x ≤ 1048576) ∧ t = .int .i64 x) (fun _ i => n - (intOf i).toNat)
  case atStart => exact ⟨0, n, Nat.zero_le _, rfl, by omega, rfl⟩
  case round =>
    obtain ⟨k, x, hk, rfl, ⟨hx0, hx1⟩, rfl⟩ := hrel
    by_cases hlt : k < n
    · have hi := fun W => h.idx c W k hlt
      have hc := h.cell k hlt
      have hs := h.small k hlt
      unfold maxLen at hs
      generalize S k = s at hc hs
      generalize adr k = p at hi hc
      clear h h'
      by_cases h1 : (1048576 : Int) < (s.size : Int)
      · go_wp2
        go_ret
        exact ⟨⟨false, rfl⟩, rfl⟩
      · by_cases h2 : (1048576 : Int) < x + (s.size : Int)
        · go_wp2
          go_ret
          exact ⟨⟨false, rfl⟩, rfl⟩
        · go_wp2
          go_round
          case rel => exact ⟨k + 1, x + (s.size : Int), by omega, by go_num, by omega, rfl⟩
          case measure => simp [intOf]; omega
    · by_cases g2 : (1048576 : Int) < (n' : Int)
      · go_wp2
        go_ret
        exact ⟨⟨false, rfl⟩, rfl⟩
      by_cases g3 : (1048576 : Int) < x + (n' : Int)
      · go_wp2
        go_ret
        exact ⟨⟨false, rfl⟩, rfl⟩
      go_wp2
      go_loop [5, 7] (fun t i => ∃ (k : Nat) (x : Int), k ≤ n' ∧ i = .int .i64 k ∧ (0 ≤ x ∧ x ≤ 1048576) ∧ t = .int .i64 x) (fun _ i => n' - (intOf i).toNat)
      case atStart => exact ⟨0, x + n', Nat.zero_le _, rfl, by omega, rfl⟩
      case round =>
        clear hk hx0 hx1 hlt g3
        obtain ⟨k, x, hk, rfl, ⟨hx0, hx1⟩, rfl⟩ := hrel
        by_cases hlt : k < n'
        · have hi := fun W => h'.idx c' W k hlt
          have hc := h'.cell k hlt
          have hs := h'.small k hlt
          unfold maxLen at hs
          generalize S' k = s at hc hs
          generalize adr' k = p at hi hc
          clear h h'
          by_cases h1 : (1048576 : Int) < (s.size : Int)
          · go_wp2
            go_ret
            exact ⟨⟨false, rfl⟩, rfl⟩
          · by_cases h2 : (1048576 : Int) < x + (s.size : Int)
            · go_wp2
              go_ret
              exact ⟨⟨false, rfl⟩, rfl⟩
            · go_wp2
              go_round
              case rel => exact ⟨k + 1, x + (s.size : Int), by omega, by go_num, by omega, rfl⟩
              case measure => simp [intOf]; omega
        · go_wp2
          go_ret
          exact ⟨⟨true, rfl⟩, rfl⟩
end Go.Proofs.Qxb6602493a
