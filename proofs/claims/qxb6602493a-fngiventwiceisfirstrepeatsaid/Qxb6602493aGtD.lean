import Derived.Test.Qxb6602493aGtC
import Derived.Maps.Own
import Derived.Maps.OwnSet
import Derived.Maps.Views
namespace Go.Proofs.Qxb6602493a
open Go.RowKit Go.WideMaps Go.Maps

theorem keyed9 : Keyed Try.prog 9 := string_keyed Try.underlying9
theorem zero4 (w : World) : (zeroValue 4).run Try.prog w = .ok (.bool false) w := by kernel_rfl

/-- was s among the first k? -/
def seenB (S : Nat → ByteArray) (k : Nat) (s : ByteArray) : Bool := (List.range k).any fun i => (S i).data.toList == s.data.toList

theorem seenB_succ (S : Nat → ByteArray) (k : Nat) (s : ByteArray) : seenB S (k + 1) s = (seenB S k s || (S k).data.toList == s.data.toList) := by
  simp [seenB, List.range_succ]
theorem seenB_iff (S : Nat → ByteArray) (k : Nat) (s : ByteArray) : seenB S k s = true ↔ ∃ i, i < k ∧ S i = s := by
  simp only [seenB, List.any_eq_true, List.mem_range, beq_iff_eq]
  constructor
  · rintro ⟨i, hi, h⟩
    exact ⟨i, hi, by cases hS : S i; cases s; rw [hS] at h; simp at h; rw [h]⟩
  · rintro ⟨i, hi, h⟩
    exact ⟨i, hi, by rw [h]⟩

/-- the map holds just the first k names -/
def MapInv (D : DataW Unit) (S : Nat → ByteArray) (k : Nat) : Prop :=
  IsMap D ∧ ∀ s : ByteArray, D.atKey (.string s.data.toList) (.lit (.bool false)) = .lit (.bool (seenB S k s))

theorem mapInv_start (S : Nat → ByteArray) : MapInv (.map []) S 0 := ⟨isMap_empty, fun _ => rfl⟩
theorem mapInv_step {D : DataW Unit} {S : Nat → ByteArray} {k : Nat} (h : MapInv D S k) : MapInv (D.put (.string (S k).data.toList) (.lit (.bool true))) S (k + 1) := by
  refine ⟨h.1.put _ _, fun s => ?_⟩
  rw [seenB_succ]
  by_cases e : (S k).data.toList = s.data.toList
  · rw [e, atKey_put_same h.1 (by simp [WideAt.IsKeyLit])]; simp
  · rw [atKey_put_other (by intro e'; injection e' with e''; exact e e''.symm), h.2 s]
    rw [show ((S k).data.toList == s.data.toList) = false by simpa using e, Bool.or_false]

theorem lookup_bool {w : World} {b n : Nat} {D : DataW Unit} {s : ByteArray} {x : Bool} (h : w.ownsMap Try.prog 9 (plainElem Try.prog 4) b n D) (hs : s.size ≤ maxLen)
    (hat : D.atKey (.string s.data.toList) (.lit (.bool false)) = .lit (.bool x)) : (Instr.lookup 44 (.map (some b)) (.string s) false).run Try.prog w = .ok (.bool x) w := by
  obtain ⟨v, ps, hrun, hv⟩ := h.lookup keyed9 Try.underlying44 (zero4 w) (plainElem_bool Try.underlying4 false) (keyOf_string_mk Try.underlying9 hs)
  rw [hat] at hv
  unfold plainElem at hv
  rw [Try.underlying4] at hv
  cases v <;> simp at hv
  rw [hrun, hv.1]

theorem make44 (W : World) (n : Nat) : (Instr.makeMap 44 (some (.int .i64 (n : Int)))).run Try.prog W = .ok (.map (some W.heap.size)) (W.alloc (.map #[] 0)) := by kernel_rfl

/-- no name is repeated before j -/
def NoRep (S : Nat → ByteArray) (j : Nat) : Prop := ∀ j', j' < j → seenB S j' (S j') = false
/-- what 'givenTwice' answers -/
def Spec (n : Nat) (S : Nat → ByteArray) (got : ByteArray) (ok : Bool) : Prop :=
  (ok = true ∧ ∃ j, j < n ∧ NoRep S j ∧ seenB S j (S j) = true ∧ got = S j) ∨ (ok = false ∧ got = ByteArray.empty ∧ NoRep S n)
def Found (w : World) (n : Nat) (S : Nat → ByteArray) (e : Ending) (w' : World) : Prop :=
  ∃ (got : ByteArray) (ok : Bool), e = .returned (.tuple #[.string got, .bool ok]) ∧ Below w.heap.size w w' ∧ Spec n S got ok

theorem noRep_step {S : Nat → ByteArray} {k : Nat} (h : NoRep S k) (hk : seenB S k (S k) = false) : NoRep S (k + 1) := by
  intro j hj
  by_cases e : j = k
  · subst e; exact hk
  · exact h j (by omega)

set_option maxHeartbeats 1600000 in
theorem given_any (a : Option Addr) (n c B : Nat) (S V : Nat → ByteArray) (w : World) (hn : n ≤ 4096) (h : AttrsAt w a n B S V) :
    Calls Try.prog 22 #[.slice a n c] w fun e w' => Found w n S e w' := by
  have hmm := make44
  go_enter Try.func22, Try.ntmps22
  go_wp2
  go_loopw [12] (fun i wr => ∃ (k : Nat) (D : DataW Unit), k ≤ n ∧ i = .int .i64 k ∧ Hid (wr.ownsMap Try.prog 9 (plainElem Try.prog 4) w.heap.size k D) ∧ Hid (MapInv D S k) ∧ Hid (NoRep S k) ∧ Hid (Below w.heap.size w wr))
    (fun i _ => n - (intOf i).toNat)
  case atStart => exact ⟨0, .map [], Nat.zero_le _, rfl, World.ownsMap_made _ _ _ _, mapInv_start S, fun j hj => absurd hj (Nat.not_lt_zero _), (Below.refl _ _).alloc (Nat.le_refl _) _⟩
  case round =>
    obtain ⟨k, D, hk, rfl, HO, HM, HR, HB⟩ := hrel
    clear hmm
    by_cases hlt : k < n
    · have hold := h.old (by omega)
      have hi := fun W => h.idx c W k hlt
      have hc : wr.cell? ⟨B, 2 * k, none⟩ = some (.string (S k)) := (HB.out.cell (by exact hold)).trans (h.name k hlt)
      have hc' : wr.cell? ⟨B, 2 * k + 1, none⟩ = some (.string (V k)) := (HB.out.cell (by exact hold)).trans (h.val k hlt)
      have hBr : B < wr.heap.size := Nat.lt_of_lt_of_le hold HB.out.size
      have hs := h.small k hlt
      cases hx : seenB S k (S k)
      · have hlk : ∀ o, (Instr.lookup 44 (.map (some w.heap.size)) (.string (S k)) false).run Try.prog (wr.alloc o) = .ok (.bool false) (wr.alloc o) := fun o => lookup_bool (HO.out.alloc o) hs (by rw [HM.out.2, hx])
        have HM' : Hid (MapInv (D.put (.string (S k).data.toList) (.lit (.bool true))) S (k + 1)) := mapInv_step HM.out
        have HR' : Hid (NoRep S (k + 1)) := noRep_step HR.out hx
        have hkey : keyOf Try.prog 9 (.string (S k)) = some (.string (S k).data.toList) := keyOf_string_mk Try.underlying9 hs
        clear hx h
        generalize S k = s at *
        generalize V k = v at *
        go_wp2_with (at_mapUpdate; refine wpList_mapUpdate_own _ rfl _ _ _ 44 rfl 9 4 keyed9 Try.underlying44 _ w.heap.size k D rfl (HO.out.alloc _) (by unfold maxLen; omega) _ _ _ rfl rfl hkey _ [] (plainElem_bool Try.underlying4 true) ?_; intro w1 hown1 hgrow1)
        have R1 : Hid (w1.ownsMap Try.prog 9 (plainElem Try.prog 4) w.heap.size (k + 1) (D.put (.string s.data.toList) (.lit (.bool true)))) := hown1
        have R2 : Hid (Below w.heap.size w w1) := (HB.out.alloc HB.out.size _).grown hgrow1 (by simp; exact Nat.le_succ_of_le HB.out.size) (fun j hj => by cases hj; exact Nat.le_refl _)
        clear hown1 hgrow1
        go_wp2
        go_roundw
        case rel => exact ⟨k + 1, _, by omega, by go_num, R1, HM', HR', R2⟩
        case measure => simp [intOf]; omega
      · have hlk : ∀ o, (Instr.lookup 44 (.map (some w.heap.size)) (.string (S k)) false).run Try.prog (wr.alloc o) = .ok (.bool true) (wr.alloc o) := fun o => lookup_bool (HO.out.alloc o) hs (by rw [HM.out.2, hx])
        have HS : Hid (Spec n S (S k) true) := Or.inl ⟨rfl, k, hlt, HR.out, hx, rfl⟩
        clear hx
        generalize S k = s at *
        generalize V k = v at *
        go_wp2
        go_ret2
        exact ⟨s, true, rfl, HB.out.alloc HB.out.size _, HS.out⟩
    · have HS : Hid (Spec n S ByteArray.empty false) := Or.inr ⟨rfl, rfl, fun j hj => HR.out j (by omega)⟩
      go_wp2
      go_ret2
      exact ⟨_, _, rfl, HB.out, HS.out⟩
end Go.Proofs.Qxb6602493a
