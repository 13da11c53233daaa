import Derived.Test.Qxb6000090aLaC
namespace Go.Proofs.Qxb6000090a.La
open Go.RowKit
set_option linter.unusedVariables false

theorem ret_bool {a b : Bool} (h : a = b) : Ending.returned (.bool a) = .returned (.bool b) := by rw [h]

theorem keep_cells {w w2 : World} {c1 : Array Value} {a b c d : Value} (hg : GB ((w.alloc (.cells c1 25)).alloc (.cells #[a, b, c, d] 25)) w2) :
    GB w w2 ∧ w.heap.size + 1 < w2.heap.size ∧ w2.cell? ⟨w.heap.size + 1, 0, none⟩ = some a ∧ w2.cell? ⟨w.heap.size + 1, 1, none⟩ = some b ∧ w2.cell? ⟨w.heap.size + 1, 2, none⟩ = some c ∧ w2.cell? ⟨w.heap.size + 1, 3, none⟩ = some d := by
  have hsz : ((w.alloc (.cells c1 25)).alloc (.cells #[a, b, c, d] 25)).heap.size = w.heap.size + 1 + 1 := by simp
  have hlt : w.heap.size + 1 < ((w.alloc (.cells c1 25)).alloc (.cells #[a, b, c, d] 25)).heap.size := by rw [hsz]; omega
  have hb := hg.below
  have hk : ∀ j : Nat, w2.cell? ⟨w.heap.size + 1, j, none⟩ = ((w.alloc (.cells c1 25)).alloc (.cells #[a, b, c, d] 25)).cell? ⟨w.heap.size + 1, j, none⟩ := fun j => hb.cell (p := ⟨w.heap.size + 1, j, none⟩) hlt
  refine ⟨(((GB.refl w).alloc _ _).alloc _ _).trans hg, Nat.lt_of_lt_of_le hlt hb.size, ?_, ?_, ?_, ?_⟩
  all_goals
    rw [hk]
    simp [go_sem]

set_option maxHeartbeats 1600000 in
theorem walk_dom (mask rd wr ex al : Int) (w : World)
    (hl : bits .or .u32 (bits .or .u32 (mapI rd wr ex al 2147483648) (mapI rd wr ex al 1073741824)) (mapI rd wr ex al 536870912) = mapI rd wr ex al 3758096384) :
    Calls Try.prog 3 #[.int .u32 mask, .bool true, .int .u32 rd, .int .u32 wr, .int .u32 ex, .int .u32 al] w fun e w' => e = .returned (.bool true) ∧ Grown w w' := by
  have HL : Hid (bits .or .u32 (bits .or .u32 (mapI rd wr ex al 2147483648) (mapI rd wr ex al 1073741824)) (mapI rd wr ex al 536870912) = mapI rd wr ex al 3758096384) := hl
  clear hl
  go_enter Try.func3, Try.ntmps3
  go_wp2_with fail
  refine (mapping_any rd wr ex al _).mono ?_
  rintro e w1 ⟨rfl, c1, rfl⟩
  go_wp2_with fail
  refine (zzlabel_dom mask rd wr ex al _).mono ?_
  rintro e w2 ⟨rfl, hg⟩
  obtain ⟨hg2, hz, q0, q1, q2, q3⟩ := keep_cells hg
  have HG : Hid (GB w w2) := hg2
  clear hg hg2
  go_wp2_with fail
  refine (map_any rd wr ex al _ _).mono ?_
  rintro e w3 ⟨rfl, c2, rfl⟩
  go_wp2
  go_ret
  exact ⟨ret_bool (by rw [HL.out]; simp), (HG.out.alloc _ _).grown⟩

set_option maxHeartbeats 3200000 in
theorem walk_not (mask rd wr ex al : Int) (w : World)
    (hl : lab mask (mapI rd wr ex al 2147483648) (mapI rd wr ex al 1073741824) (mapI rd wr ex al 536870912) = bits .andNot .u32 (mapI rd wr ex al 2684354560) (mapI rd wr ex al (wh mask))) :
    Calls Try.prog 3 #[.int .u32 mask, .bool false, .int .u32 rd, .int .u32 wr, .int .u32 ex, .int .u32 al] w fun e w' => e = .returned (.bool true) ∧ Grown w w' := by
  have HL : Hid (lab mask (mapI rd wr ex al 2147483648) (mapI rd wr ex al 1073741824) (mapI rd wr ex al 536870912) = bits .andNot .u32 (mapI rd wr ex al 2684354560) (mapI rd wr ex al (wh mask))) := hl
  clear hl
  go_enter Try.func3, Try.ntmps3
  go_wp2_with fail
  refine (mapping_any rd wr ex al _).mono ?_
  rintro e w1 ⟨rfl, c1, rfl⟩
  go_wp2_with fail
  refine (zzlabel_not mask rd wr ex al _).mono ?_
  rintro e w2 ⟨rfl, hg⟩
  obtain ⟨hg2, hz, q0, q1, q2, q3⟩ := keep_cells hg
  have HG : Hid (GB w w2) := hg2
  clear hg hg2
  have hz1 : w.heap.size < w2.heap.size := by omega
  go_wp2
  go_region_held3 (fun w' => w'.cell? ⟨w.heap.size + 1, 0, none⟩ = some (.int .u32 rd) ∧ w'.cell? ⟨w.heap.size + 1, 1, none⟩ = some (.int .u32 wr) ∧ w'.cell? ⟨w.heap.size + 1, 2, none⟩ = some (.int .u32 ex) ∧ w'.cell? ⟨w.heap.size + 1, 3, none⟩ = some (.int .u32 al)) (simp [go_sem, World.cell?_alloc_past, hz, hz1, q0, q1, q2, q3])
    ((first
      | (go_at_call 12; refine (map_any rd wr ex al _ _).mono ?_; rintro e w' ⟨rfl, o1, rfl⟩)
      | (go_at_call 13; refine (withheld_any _ _).mono ?_; rintro e w' ⟨rfl, rfl⟩)))
  go_wp2
  go_ret
  exact ⟨ret_bool (by rw [HL.out]; simp), by refine GB.grown (w := w) ?_; repeat (first | exact HG.out | apply GB.drew | apply GB.alloc)⟩
end Go.Proofs.Qxb6000090a.La
