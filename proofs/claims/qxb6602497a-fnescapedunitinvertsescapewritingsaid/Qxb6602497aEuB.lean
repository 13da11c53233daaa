import Derived.Test.Qxb6602497aEuA
import Derived.OwnWalk
import Derived.Laws.OwnMore
namespace Go.Proofs.Qxb6602497a
open Go.RowKit
set_option linter.unusedVariables false

/-- It returns a bool. -/
def SomeBool (e : Ending) : Prop := ∃ b : Bool, e = .returned (.bool b)

set_option maxHeartbeats 800000 in
theorem zz8_any (a0 a3 : Option Addr) (n0 c0 n3 c3 : Nat) (x y : Int) (w : World) (h0 : n0 ≤ maxLen) (h3 : n3 ≤ maxLen) :
    Calls Try.prog 8 #[.slice a0 n0 c0, .int .u16 x, .int .u8 y, .slice a3 n3 c3] w fun e w' => SomeBool e ∧ w' = w := by
  unfold maxLen at h0 h3
  by_cases g1 : (1048576 : Int) < (n0 : Int)
  · go_enter Try.func8, Try.ntmps8
    go_wp2
    go_ret
    exact ⟨⟨false, rfl⟩, rfl⟩
  by_cases g2 : (1048576 : Int) < (n3 : Int)
  · go_enter Try.func8, Try.ntmps8
    go_wp2
    go_ret
    exact ⟨⟨false, rfl⟩, rfl⟩
  by_cases g3 : (1048576 : Int) < (n0 : Int) + (n3 : Int)
  · go_enter Try.func8, Try.ntmps8
    go_wp2
    go_ret
    exact ⟨⟨false, rfl⟩, rfl⟩
  · go_enter Try.func8, Try.ntmps8
    go_wp2
    go_ret
    exact ⟨⟨true, rfl⟩, rfl⟩

set_option maxHeartbeats 400000 in
theorem zzunit_any (B n c p : Nat) (d v : Nat → Int) (w : World) (hn : p + 6 ≤ n) (hc : n ≤ c) (hm : c ≤ 2097152)
    (h0 : w.cell? ⟨B, p, none⟩ = some (.int .u8 92)) (h1 : w.cell? ⟨B, p + 1, none⟩ = some (.int .u8 117))
    (hd : ∀ k, k < 4 → w.cell? ⟨B, p + 2 + k, none⟩ = some (.int .u8 (d k))) (hx : ∀ k, k < 4 → Hex (d k) (v k)) :
    Calls Try.prog 6 #[.slice (some ⟨B, 0, none⟩) n c, .int .i64 p] w fun e w' => e = .returned (.tuple #[.int .i32 (upto v 4), .bool true]) ∧ w' = w := by
  go_enter Try.func6, Try.ntmps6
  go_wp2_with (go_at_call 9; refine (unit_any B n c p d v w hn hc hm h0 h1 hd hx).mono ?_; rintro e w' ⟨rfl, rfl⟩)
  go_ret2
  exact ⟨rfl, rfl⟩

/-- the cells of a slice of bytes -/
def bys (zs : List Int) : List Value := zs.map fun z => .int .u8 z

theorem info5 : (Try.prog.info? 5).map (fun i => (i.zero, i.size, i.bytes)) = some (some (.int .u8 0), 1, 1) := by kernel_rfl

theorem bys_one (zs : List Int) : ∀ u ∈ bys zs, u.oneCell' = true := by
  intro u hu
  simp only [bys, List.mem_map] at hu
  obtain ⟨z, _, rfl⟩ := hu
  rfl

/-- what the walk is told of a slice of bytes that came in -/
structure BytesAt (w : World) (a : Option Addr) (n c : Nat) (zs : List Int) : Prop where
  nil : a = none → n = 0 ∧ c = 0
  len : zs.length = n
  cell : ∀ x, a = some x → ∀ j u, (bys zs)[j]? = some u → w.cell? (x.add j) = some u ∧ x.block < w.heap.size

theorem add_block (x : Addr) (j : Nat) : (x.add j).block = x.block := by
  unfold Addr.add; split <;> rfl

theorem BytesAt.below {w w' : World} {a : Option Addr} {n c : Nat} {zs : List Int} (h : BytesAt w a n c zs) (hb : Below w.heap.size w w') : BytesAt w' a n c zs :=
  ⟨h.nil, h.len, fun x hx j u hu => ⟨(hb.cell (by rw [add_block]; exact (h.cell x hx j u hu).2)).trans (h.cell x hx j u hu).1, Nat.lt_of_lt_of_le (h.cell x hx j u hu).2 hb.size⟩⟩

theorem new_cells (W : World) (cs : Array Value) (t : TypeId) (j : Nat) (u : Value) (h : cs.toList[j]? = some u) : (W.alloc (.cells cs t)).cell? ((⟨W.heap.size, 0, none⟩ : Addr).add j) = some u := by
  have e : (⟨W.heap.size, 0, none⟩ : Addr).add j = ⟨W.heap.size, j, none⟩ := by unfold Addr.add; split <;> simp_all
  rw [e, cell_of_row (W.alloc (.cells cs t)) W.heap.size j cs t (0, 0) (heap_alloc_new W _)]
  simpa using h

/-- the first append, behind nothing -/
theorem own_first {W : World} {B n C : Nat} {l : List Value} (h : W.ownsRow B 5 1 (.slice (some ⟨B, 0, none⟩) (0 + n) C) (0 + n) ([] ++ l)) : W.ownsRow B 5 1 (.slice (some ⟨B, 0, none⟩) n C) n l := by
  simpa using h
end Go.Proofs.Qxb6602497a
