import Derived.Test.Qxb6602493aGtB
import Derived.RegionTactic
import Derived.ChangeAlike
namespace Go.Proofs.Qxb6602493a
open Go.RowKit

theorem info33 : (Try.prog.info? 33).map (fun i => (i.zero, i.size, i.bytes)) = some (some (.agg #[.string ByteArray.empty, .string ByteArray.empty]), 2, 32) := by kernel_rfl

theorem idx_new2 (B n c : Nat) (W : World) (k : Nat) (hk : k < n) : (Instr.indexAt 28 (.slice (some ⟨B, 0, none⟩) n c) (.int .i64 (k : Int))).run Try.prog W = .ok (.pointer (some ⟨B, 2 * k, none⟩)) W := by
  obtain ⟨i, hi, hz⟩ := Option.map_eq_some_iff.1 info33
  simp only [Prod.mk.injEq] at hz
  have hs : (sizeOf 33).run Try.prog W = .ok 2 W := by simp [sizeOf, typeInfo, hi, hz]
  rw [run_indexAt_slice W 28 _ n c .i64 (k : Int) (by kernel_rfl), if_pos (by omega)]
  have he : Try.prog.elem 28 = 33 := by kernel_rfl
  rw [he, hs]
  simp [Result.andThen, Addr.add, Nat.mul_comm]
  omega

/-- A slice of pairs of strings: pair k lies in block B, at 2k and 2k+1. -/
structure AttrsAt (w : World) (a : Option Addr) (n B : Nat) (S V : Nat → ByteArray) : Prop where
  idx : ∀ (c : Nat) (W : World) (k : Nat), k < n → (Instr.indexAt 28 (.slice a n c) (.int .i64 (k : Int))).run Try.prog W = .ok (.pointer (some ⟨B, 2 * k, none⟩)) W
  name : ∀ k, k < n → w.cell? ⟨B, 2 * k, none⟩ = some (.string (S k))
  val : ∀ k, k < n → w.cell? ⟨B, 2 * k + 1, none⟩ = some (.string (V k))
  old : 0 < n → B < w.heap.size
  small : ∀ k, k < n → (S k).size ≤ maxLen

def Laid (w : World) (n : Nat) (S V : Nat → ByteArray) (e : Ending) (w' : World) : Prop :=
  ∃ (a : Option Addr) (c B : Nat), e = .returned (.slice a n c) ∧ AttrsAt w' a n B S V ∧ Below w.heap.size w w'

set_option maxHeartbeats 800000 in
theorem attrs_none (w : World) (S V : Nat → ByteArray) (a : Option Addr) (n c c' : Nat) : Calls Try.prog 13 #[.slice none 0 c', .slice a n c] w fun e w' => Laid w 0 S V e w' := by
  have hq := fun W => Lib.run_eql_slice_nil (P := Try.prog) W 24 9 none 0 c' 0 0 Try.underlying24
  go_enter Try.func13, Try.ntmps13
  go_wp2
  go_ret
  exact ⟨none, 0, 0, rfl, ⟨fun _ _ _ h => absurd h (Nat.not_lt_zero _), fun _ h => absurd h (Nat.not_lt_zero _), fun _ h => absurd h (Nat.not_lt_zero _), fun h => absurd h (Nat.not_lt_zero _), fun _ h => absurd h (Nat.not_lt_zero _)⟩, Below.refl _ _⟩

set_option maxHeartbeats 1600000 in
theorem attrs_some (a a' : Option Addr) (ha : a.isNone = false) (n c c' : Nat) (adr adr' : Nat → Addr) (S V : Nat → ByteArray) (w : World) (hn : n ≤ 4096) (h : StrsAt w a n adr S) (h' : StrsAt w a' n adr' V) :
    Calls Try.prog 13 #[.slice a n c, .slice a' n c'] w fun e w' => Laid w n S V e w' := by
  have hq := fun W => Lib.run_eql_slice_nil (P := Try.prog) W 24 9 a n c 0 0 Try.underlying24
  rw [ha] at hq
  obtain ⟨i0, hi, hz0, hz1, hz2⟩ := info_parts info33
  go_enter Try.func13, Try.ntmps13
  go_wp2_with (at_make; refine wpList_make_full _ rfl _ _ 28 rfl w.heap.size 33 i0 _ 2 Try.underlying28 hi hz0 hz1 _ _ _ _ n rfl rfl rfl rfl (by rw [hz2]; omega) (by unfold maxLen; omega) (Nat.le_refl _) ?_; intro w1 hown hgrow)
  go_loopw [6] (fun i wr => ∃ (k : Nat) (xs : List Value), k ≤ n ∧ i = .int .i64 k ∧ Hid (wr.ownsRow w.heap.size 33 2 (.slice (some ⟨w.heap.size, 0, none⟩) n n) n xs) ∧ Hid (∀ j, j < k → xs[2 * j]? = some (.string (S j)) ∧ xs[2 * j + 1]? = some (.string (V j))) ∧ Hid (Below w.heap.size w wr))
    (fun i _ => n - (intOf i).toNat)
  case atStart => exact ⟨0, _, Nat.zero_le _, rfl, hown, fun j hj => absurd hj (Nat.not_lt_zero _), (Below.refl _ w).grown hgrow (Nat.le_refl _) (fun _ h => by cases h)⟩
  case round =>
    obtain ⟨k, xs, hk, rfl, HO, HX, HB⟩ := hrel
    clear hown hgrow hi hz0 hz1 hz2 hq
    by_cases hlt : k < n
    · have hi := fun W => h.idx c W k hlt
      have hi' := fun W => h'.idx c' W k hlt
      have hc : wr.cell? (adr k) = some (.string (S k)) := (HB.out.cell (h.old k hlt)).trans (h.cell k hlt)
      have hc' : wr.cell? (adr' k) = some (.string (V k)) := (HB.out.cell (h'.old k hlt)).trans (h'.cell k hlt)
      have hi2 := fun W => idx_new2 w.heap.size n n W k hlt
      have hl : xs.length = n * 2 := HO.out.1
      obtain ⟨u, hu⟩ : ∃ u, xs[2 * k]? = some u := ⟨_, List.getElem?_eq_getElem (by omega)⟩
      obtain ⟨u', hu'⟩ : ∃ u', xs[2 * k + 1]? = some u' := ⟨_, List.getElem?_eq_getElem (by omega)⟩
      have hc2 : wr.cell? ⟨w.heap.size, 2 * k, none⟩ = some u := (HO.out.cellAt (2 * k) (by omega)).trans hu
      have hc3 : wr.cell? ⟨w.heap.size, 2 * k + 1, none⟩ = some u' := (HO.out.cellAt (2 * k + 1) (by omega)).trans hu'
      have hf2 : wr.frozen? ⟨w.heap.size, 2 * k, none⟩ = false := HO.out.frozenAt _
      have hf3 : wr.frozen? ⟨w.heap.size, 2 * k + 1, none⟩ = false := HO.out.frozenAt _
      have HN := (HO.out.stored (2 * k) (.string (S k))).1.stored (2 * k + 1) (.string (V k))
      have HO' : Hid (((wr.setCell ⟨w.heap.size, 2 * k, none⟩ (.string (S k))).setCell ⟨w.heap.size, 2 * k + 1, none⟩ (.string (V k))).ownsRow w.heap.size 33 2 (.slice (some ⟨w.heap.size, 0, none⟩) n n) n ((xs.set (2 * k) (.string (S k))).set (2 * k + 1) (.string (V k)))) := HN.1
      have HB' : Hid (Below w.heap.size w ((wr.setCell ⟨w.heap.size, 2 * k, none⟩ (.string (S k))).setCell ⟨w.heap.size, 2 * k + 1, none⟩ (.string (V k)))) := (HB.out.setCell (Nat.le_refl _) _).setCell (Nat.le_refl _) _
      have HX' : Hid (∀ j, j < k + 1 → ((xs.set (2 * k) (.string (S k))).set (2 * k + 1) (.string (V k)))[2 * j]? = some (.string (S j)) ∧ ((xs.set (2 * k) (.string (S k))).set (2 * k + 1) (.string (V k)))[2 * j + 1]? = some (.string (V j))) := by
        intro j hj
        by_cases e : j = k
        · subst e
          rw [getElem?_set_ne' (by omega), List.getElem?_set_self (by omega), List.getElem?_set_self (by rw [List.length_set]; omega)]
          exact ⟨rfl, rfl⟩
        · rw [getElem?_set_ne' (by omega), getElem?_set_ne' (by omega), getElem?_set_ne' (by omega), getElem?_set_ne' (by omega)]
          exact HX.out j (by omega)
      clear HN hl hu hu' h h'
      go_wp2
      go_region
      go_wp2
      go_roundw
      case rel => exact ⟨k + 1, _, by omega, by go_num, HO'.out.drew, HX', HB'.out.drew⟩
      case measure => simp [intOf]; omega
    · have HF : Hid (AttrsAt wr (some ⟨w.heap.size, 0, none⟩) n w.heap.size S V) := by
        refine ⟨fun c W k hk => idx_new2 _ _ _ _ _ hk, fun j hj => ?_, fun j hj => ?_, fun _ => (HO.out.lt w.heap.size rfl).2, h.small⟩
        · exact (HO.out.cellAt (2 * j) (by omega)).trans (HX.out j (by omega)).1
        · exact (HO.out.cellAt (2 * j + 1) (by omega)).trans (HX.out j (by omega)).2
      go_wp2
      go_ret
      exact ⟨some ⟨w.heap.size, 0, none⟩, n, _, rfl, HF.out, HB.out⟩
end Go.Proofs.Qxb6602493a
