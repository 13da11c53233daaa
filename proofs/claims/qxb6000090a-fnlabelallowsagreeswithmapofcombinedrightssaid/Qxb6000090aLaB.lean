import Derived.Test.Qxb6000090aLaA
import Derived.Deep.RegionHeld3
namespace Go.Proofs.Qxb6000090a.La
open Go.RowKit
set_option linter.unusedVariables false

/-- zzWithheld -/
def wh (mask : Int) : Int :=
  let w0 : Int := 0
  let w1 := if (bits .and .u32 mask 1 != 0) = true then bits .or .u32 w0 1073741824 else w0
  let w2 := if (bits .and .u32 mask 2 != 0) = true then bits .or .u32 w1 2147483648 else w1
  if (bits .and .u32 mask 4 != 0) = true then bits .or .u32 w2 536870912 else w2

set_option maxHeartbeats 800000 in
theorem withheld_any (mask : Int) (w : World) :
    Calls Try.prog 13 #[.int .u32 mask] w fun e w' => e = .returned (.int .u32 (wh mask)) ∧ w' = w := by
  go_enter Try.func13, Try.ntmps13
  go_wp2
  all_goals
    go_ret
    refine ⟨ret_int ?_, rfl⟩
    simp only [wh, *, if_true, Bool.false_eq_true, if_false]

/-- what labelAllows leaves to a token that does not dominate -/
def lab (mask r w e : Int) : Int :=
  let a0 := bits .or .u32 r e
  let a1 := if (bits .and .u32 mask 1 != 0) = true then bits .andNot .u32 a0 w else a0
  let a2 := if (bits .and .u32 mask 2 != 0) = true then bits .andNot .u32 a1 r else a1
  if (bits .and .u32 mask 4 != 0) = true then bits .andNot .u32 a2 e else a2

set_option maxHeartbeats 800000 in
theorem mapping_any (rd wr ex al : Int) (w : World) :
    Calls Try.prog 10 #[.int .u32 rd, .int .u32 wr, .int .u32 ex, .int .u32 al] w fun e w' => e = .returned (.agg #[.int .u32 rd, .int .u32 wr, .int .u32 ex, .int .u32 al]) ∧ ∃ c, w' = w.alloc (.cells c 25) := by
  go_enter Try.func10, Try.ntmps10
  go_wp2
  simp [bodyPost, results, Try.results10, go_sem]
  exact ⟨_, rfl⟩

/-- the world has at most new blocks -/
structure GB (w w' : World) : Prop where
  grown : Grown w w'
  below : Below w.heap.size w w'

theorem GB.refl (w : World) : GB w w := ⟨Grown.refl _, Below.refl _ _⟩
theorem GB.alloc {w w' : World} (h : GB w w') (c : Array Value) (t : TypeId) : GB w (w'.alloc (.cells c t)) := ⟨h.grown.alloc c t, h.below.alloc h.below.size _⟩
theorem GB.drew {w w' : World} (h : GB w w') : GB w w'.drew := ⟨h.grown.drew, h.below.drew⟩
theorem GB.trans {a b c : World} (h1 : GB a b) (h2 : GB b c) : GB a c :=
  ⟨⟨World.keptBut_trans h1.grown.1 h2.grown.1, fun x => (h2.grown.2.1 x).trans (h1.grown.2.1 x), Nat.le_trans h1.grown.2.2 h2.grown.2.2⟩, h1.below.trans (h2.below.mono h1.below.size)⟩

set_option maxHeartbeats 1600000 in
theorem label_dom (mask rd wr ex al : Int) (w : World) :
    Calls Try.prog 26 #[.int .u32 mask, .bool true, .agg #[.int .u32 rd, .int .u32 wr, .int .u32 ex, .int .u32 al]] w fun e w' =>
      e = .returned (.int .u32 (bits .or .u32 (bits .or .u32 (mapI rd wr ex al 2147483648) (mapI rd wr ex al 1073741824)) (mapI rd wr ex al 536870912))) ∧ GB w w' := by
  go_enter Try.func26, Try.ntmps26
  go_wp2
  go_region_held3 (fun w' => w'.cell? ⟨w.heap.size, 0, none⟩ = some (.int .u32 rd) ∧ w'.cell? ⟨w.heap.size, 1, none⟩ = some (.int .u32 wr) ∧ w'.cell? ⟨w.heap.size, 2, none⟩ = some (.int .u32 ex) ∧ w'.cell? ⟨w.heap.size, 3, none⟩ = some (.int .u32 al)) (simp [go_sem, World.cell?_alloc_past])
    ((go_at_call 12; refine (map_any rd wr ex al _ _).mono ?_; rintro e w' ⟨rfl, o1, rfl⟩))
  go_wp2
  go_ret
  exact ⟨rfl, by repeat (first | exact GB.refl _ | apply GB.drew | apply GB.alloc)⟩

set_option maxHeartbeats 3200000 in
theorem label_not (mask rd wr ex al : Int) (w : World) :
    Calls Try.prog 26 #[.int .u32 mask, .bool false, .agg #[.int .u32 rd, .int .u32 wr, .int .u32 ex, .int .u32 al]] w fun e w' =>
      e = .returned (.int .u32 (lab mask (mapI rd wr ex al 2147483648) (mapI rd wr ex al 1073741824) (mapI rd wr ex al 536870912))) ∧ GB w w' := by
  go_enter Try.func26, Try.ntmps26
  go_wp2
  go_region_held3 (fun w' => w'.cell? ⟨w.heap.size, 0, none⟩ = some (.int .u32 rd) ∧ w'.cell? ⟨w.heap.size, 1, none⟩ = some (.int .u32 wr) ∧ w'.cell? ⟨w.heap.size, 2, none⟩ = some (.int .u32 ex) ∧ w'.cell? ⟨w.heap.size, 3, none⟩ = some (.int .u32 al)) (simp [go_sem, World.cell?_alloc_past])
    ((go_at_call 12; refine (map_any rd wr ex al _ _).mono ?_; rintro e w' ⟨rfl, o1, rfl⟩))
  go_wp2
  all_goals
    go_ret
    refine ⟨ret_int ?_, by repeat (first | exact GB.refl _ | apply GB.drew | apply GB.alloc)⟩
    simp only [lab, *, if_true, Bool.false_eq_true, if_false]

set_option maxHeartbeats 800000 in
theorem zzlabel_dom (mask rd wr ex al : Int) (w : World) :
    Calls Try.prog 11 #[.int .u32 mask, .bool true, .agg #[.int .u32 rd, .int .u32 wr, .int .u32 ex, .int .u32 al]] w fun e w' =>
      e = .returned (.int .u32 (bits .or .u32 (bits .or .u32 (mapI rd wr ex al 2147483648) (mapI rd wr ex al 1073741824)) (mapI rd wr ex al 536870912))) ∧ GB w w' := by
  go_enter Try.func11, Try.ntmps11
  go_wp2_with (go_at_call 26; refine (label_dom mask rd wr ex al _).mono ?_; rintro e w' ⟨rfl, hg⟩)
  go_ret
  exact ⟨rfl, ((GB.refl w).alloc _ _).trans hg⟩

set_option maxHeartbeats 800000 in
theorem zzlabel_not (mask rd wr ex al : Int) (w : World) :
    Calls Try.prog 11 #[.int .u32 mask, .bool false, .agg #[.int .u32 rd, .int .u32 wr, .int .u32 ex, .int .u32 al]] w fun e w' =>
      e = .returned (.int .u32 (lab mask (mapI rd wr ex al 2147483648) (mapI rd wr ex al 1073741824) (mapI rd wr ex al 536870912))) ∧ GB w w' := by
  go_enter Try.func11, Try.ntmps11
  go_wp2_with (go_at_call 26; refine (label_not mask rd wr ex al _).mono ?_; rintro e w' ⟨rfl, hg⟩)
  go_ret
  exact ⟨rfl, ((GB.refl w).alloc _ _).trans hg⟩
end Go.Proofs.Qxb6000090a.La
