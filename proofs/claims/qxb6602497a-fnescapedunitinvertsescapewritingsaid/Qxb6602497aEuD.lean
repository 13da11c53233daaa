import Derived.Test.Qxb6602497aEuC
namespace Go.Proofs.Qxb6602497a
open Go.RowKit
set_option linter.unusedVariables false

set_option maxHeartbeats 800000 in
theorem law_over0 (a0 a3 : Option Addr) (n0 c0 n3 c3 : Nat) (x y : Int) (w : World) (m0 : n0 ≤ maxLen) (m3 : n3 ≤ maxLen) (h : 524288 < n0) :
    Calls Try.prog 4 #[.slice a0 n0 c0, .int .u16 x, .int .u8 y, .slice a3 n3 c3] w fun e w' => e = .returned (.bool true) ∧ Below w.heap.size w w' := by
  have g1 : (524288 : Int) < (n0 : Int) := by omega
  go_enter Try.func4, Try.ntmps4
  go_wp2_with fail
  refine (zz8_any a0 a3 n0 c0 n3 c3 x y _ m0 m3).mono ?_
  rintro e w ⟨⟨b, rfl⟩, rfl⟩
  unfold maxLen at m0 m3
  cases b
  · go_wp2
    go_ret
    exact ⟨rfl, Below.refl _ _⟩
  · go_wp2
    go_ret
    exact ⟨rfl, Below.refl _ _⟩

set_option maxHeartbeats 800000 in
theorem law_over3 (a0 a3 : Option Addr) (n0 c0 n3 c3 : Nat) (x y : Int) (w : World) (m0 : n0 ≤ 524288) (m3 : n3 ≤ maxLen) (h : 524288 < n3) :
    Calls Try.prog 4 #[.slice a0 n0 c0, .int .u16 x, .int .u8 y, .slice a3 n3 c3] w fun e w' => e = .returned (.bool true) ∧ Below w.heap.size w w' := by
  have g1 : (524288 : Int) < (n3 : Int) := by omega
  have g2 : decide ((524288 : Int) < (n0 : Int)) = false := by simp; omega
  go_enter Try.func4, Try.ntmps4
  go_wp2_with fail
  refine (zz8_any a0 a3 n0 c0 n3 c3 x y _ (by unfold maxLen; omega) m3).mono ?_
  rintro e w ⟨⟨b, rfl⟩, rfl⟩
  unfold maxLen at m3
  cases b
  · go_wp2
    go_ret
    exact ⟨rfl, Below.refl _ _⟩
  · go_wp2
    go_ret
    exact ⟨rfl, Below.refl _ _⟩

theorem law_all (a0 a3 : Option Addr) (n0 c0 n3 c3 : Nat) (z0 z3 : List Int) (x y : Int) (w : World) (h0 : BytesAt w a0 n0 c0 z0) (h3 : BytesAt w a3 n3 c3 z3) (m0 : n0 ≤ maxLen) (m3 : n3 ≤ maxLen) (x0 : 0 ≤ x) (x1 : x ≤ 65535) (y0 : 0 ≤ y) (y1 : y ≤ 255) :
    Calls Try.prog 4 #[.slice a0 n0 c0, .int .u16 x, .int .u8 y, .slice a3 n3 c3] w fun e w' => e = .returned (.bool true) ∧ Below w.heap.size w w' := by
  by_cases g0 : n0 ≤ 524288
  · by_cases g3 : n3 ≤ 524288
    · exact law_in a0 a3 n0 c0 n3 c3 z0 z3 x y w h0 h3 g0 g3 x0 x1 y0 y1
    · exact law_over3 a0 a3 n0 c0 n3 c3 x y w g0 m3 (by omega)
  · exact law_over0 a0 a3 n0 c0 n3 c3 x y w m0 m3 (by omega)

/-- from the cells up to the capacity to what the walk is told -/
theorem bytes_some (w : World) (x : Addr) (n c : Nat) (zs : List Int) (hn : n ≤ zs.length) (h : ∀ i, i < zs.length → w.cell? (x.add i) = some (.int .u8 (zs.getD i 0))) : BytesAt w (some x) n c (zs.take n) := by
  refine ⟨fun e => (by cases e), (by rw [List.length_take]; omega), ?_⟩
  intro y hy j u hu
  cases hy
  have hj : j < n := by
    by_cases hj : j < n
    · exact hj
    · rw [List.getElem?_eq_none (by simp [bys]; omega)] at hu; cases hu
  have hc := h j (by omega)
  have e : u = .int .u8 (zs.getD j 0) := by
    rw [bys, List.getElem?_map, List.getElem?_take, if_pos hj, List.getElem?_eq_getElem (by omega)] at hu
    simp only [Option.map_some, Option.some.injEq] at hu
    rw [← hu, List.getD, List.getElem?_eq_getElem (by omega)]
    rfl
  rw [e]
  refine ⟨hc, ?_⟩
  have := World.block_lt_of_cell? w (x.add j) hc
  rwa [add_block] at this

theorem bytes_none (w : World) : BytesAt w none 0 0 [] := ⟨fun _ => ⟨rfl, rfl⟩, rfl, fun x hx => (by cases hx)⟩
end Go.Proofs.Qxb6602497a
