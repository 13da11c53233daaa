import Derived.Test.Qxb6602493aGtA
import Derived.Laws.OwnMore
import Derived.Deep.OwnRows
import Derived.Lib.SliceRun
namespace Go.Proofs.Qxb6602493a
open Go.RowKit

theorem info9 : (Try.prog.info? 9).map (fun i => (i.zero, i.size, i.bytes)) = some (some (.string ByteArray.empty), 1, 16) := by kernel_rfl

/-- a slice over the head of a block of one-cell elements, as 'indexAt' sees it -/
theorem idx_new (B n c : Nat) (W : World) (k : Nat) (hk : k < n) : (Instr.indexAt 24 (.slice (some ⟨B, 0, none⟩) n c) (.int .i64 (k : Int))).run Try.prog W = .ok (.pointer (some ⟨B, k, none⟩)) W := by
  obtain ⟨i, hi, hz⟩ := Option.map_eq_some_iff.1 info9
  simp only [Prod.mk.injEq] at hz
  have hs : (sizeOf 9).run Try.prog W = .ok 1 W := by simp [sizeOf, typeInfo, hi, hz]
  rw [run_indexAt_slice W 24 _ n c .i64 (k : Int) (by kernel_rfl), if_pos (by omega)]
  have he : Try.prog.elem 24 = 9 := by kernel_rfl
  rw [he, hs]
  simp [Result.andThen, Addr.add]
  omega

/-- what a clone leaves: a slice with the same strings, in new memory -/
def Cloned (w : World) (nil : Bool) (n : Nat) (S : Nat → ByteArray) (e : Ending) (w' : World) : Prop :=
  ∃ (a : Option Addr) (c : Nat) (adr : Nat → Addr), e = .returned (.slice a n c) ∧ StrsAt w' a n adr S ∧ Below w.heap.size w w' ∧ a.isNone = nil

set_option maxHeartbeats 800000 in
theorem clone_none (w : World) (S : Nat → ByteArray) : Calls Try.prog 12 #[.slice none 0 0] w fun e w' => Cloned w true 0 S e w' := by
  have hq := fun W => Lib.run_eql_slice_nil (P := Try.prog) W 24 9 none 0 0 0 0 Try.underlying24
  go_enter Try.func12, Try.ntmps12
  go_wp2
  go_ret
  exact ⟨none, 0, fun _ => ⟨0, 0, none⟩, rfl, ⟨fun _ _ _ h => absurd h (Nat.not_lt_zero _), fun _ h => absurd h (Nat.not_lt_zero _), fun _ h => absurd h (Nat.not_lt_zero _), fun _ h => absurd h (Nat.not_lt_zero _)⟩, Below.refl _ _, rfl⟩

theorem getElem?_set_ne' {xs : List Value} {j k : Nat} {u : Value} (h : j ≠ k) : (xs.set k u)[j]? = xs[j]? := by
  rw [List.getElem?_set_ne (Ne.symm h)]

set_option maxHeartbeats 800000 in
theorem clone_some (a : Option Addr) (ha : a.isNone = false) (n c : Nat) (adr : Nat → Addr) (S : Nat → ByteArray) (w : World) (hn : n ≤ 4096) (h : StrsAt w a n adr S) :
    Calls Try.prog 12 #[.slice a n c] w fun e w' => Cloned w false n S e w' := by
  have hq := fun W => Lib.run_eql_slice_nil (P := Try.prog) W 24 9 a n c 0 0 Try.underlying24
  rw [ha] at hq
  obtain ⟨i0, hi, hz0, hz1, hz2⟩ := info_parts info9
  go_enter Try.func12, Try.ntmps12
  go_wp2_with (at_make; refine wpList_make_full _ rfl _ _ 24 rfl w.heap.size 9 i0 _ 1 Try.underlying24 hi hz0 hz1 _ _ _ _ n rfl rfl rfl rfl (by rw [hz2]; omega) (by unfold maxLen; omega) (Nat.le_refl _) ?_; intro w1 hown hgrow)
  go_loopw [4] (fun i wr => ∃ (k : Nat) (xs : List Value), k ≤ n ∧ i = .int .i64 k ∧ Hid (wr.ownsRow w.heap.size 9 1 (.slice (some ⟨w.heap.size, 0, none⟩) n n) n xs) ∧ Hid (∀ j, j < k → xs[j]? = some (.string (S j))) ∧ Hid (Below w.heap.size w wr))
    (fun i _ => n - (intOf i).toNat)
  case atStart => exact ⟨0, _, Nat.zero_le _, rfl, hown, fun j hj => absurd hj (Nat.not_lt_zero _), (Below.refl _ w).grown hgrow (Nat.le_refl _) (fun _ h => by cases h)⟩
  case round =>
    obtain ⟨k, xs, hk, rfl, HO, HX, HB⟩ := hrel
    clear hown hgrow hi hz0 hz1 hz2 hq
    by_cases hlt : k < n
    · have hi := fun W => h.idx c W k hlt
      have hc : wr.cell? (adr k) = some (.string (S k)) := (HB.out.cell (h.old k hlt)).trans (h.cell k hlt)
      have hi2 := fun W => idx_new w.heap.size n n W k hlt
      have hl : xs.length = n * 1 := HO.out.1
      obtain ⟨u, hu⟩ : ∃ u, xs[k]? = some u := ⟨_, List.getElem?_eq_getElem (by omega)⟩
      have hc2 : wr.cell? ⟨w.heap.size, k, none⟩ = some u := (HO.out.cellAt k (by omega)).trans hu
      have hf2 : wr.frozen? ⟨w.heap.size, k, none⟩ = false := HO.out.frozenAt k
      have HN := HO.out.stored k (.string (S k))
      have HO' : Hid ((wr.setCell ⟨w.heap.size, k, none⟩ (.string (S k))).ownsRow w.heap.size 9 1 (.slice (some ⟨w.heap.size, 0, none⟩) n n) n (xs.set k (.string (S k)))) := HN.1
      have HB' : Hid (Below w.heap.size w (wr.setCell ⟨w.heap.size, k, none⟩ (.string (S k)))) := HB.out.setCell (Nat.le_refl _) _
      have HX' : Hid (∀ j, j < k + 1 → (xs.set k (.string (S k)))[j]? = some (.string (S j))) := by
        intro j hj
        by_cases e : j = k
        · subst e; rw [List.getElem?_set_self (by omega)]
        · rw [getElem?_set_ne' e]; exact HX.out j (by omega)
      clear HN hl hu h
      go_wp2
      go_roundw
      case rel => exact ⟨k + 1, _, by omega, by go_num, HO', HX', HB'⟩
      case measure => simp [intOf]; omega
    · have hkn : k = n := by omega
      have HF : Hid (StrsAt wr (some ⟨w.heap.size, 0, none⟩) n (fun k => ⟨w.heap.size, k, none⟩) S) := by
        refine ⟨fun c W k hk => idx_new _ _ _ _ _ hk, fun j hj => ?_, fun j hj => ?_, h.small⟩
        · exact (HO.out.cellAt j (by omega)).trans (HX.out j (by omega))
        · exact (HO.out.lt w.heap.size rfl).2
      clear hkn
      go_wp2
      go_ret
      exact ⟨some ⟨w.heap.size, 0, none⟩, n, _, rfl, HF.out, HB.out, rfl⟩
end Go.Proofs.Qxb6602493a
