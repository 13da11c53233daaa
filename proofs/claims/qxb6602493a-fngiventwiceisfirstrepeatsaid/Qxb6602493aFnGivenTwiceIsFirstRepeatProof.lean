/-
  The step from the walk to the given statement, after the shell that the kit writes for slices of integers, turned to slices of strings.
-/
import Derived.Test.Qxb6602493aRows
import Derived.WalkKit
import Derived.ProofKit
import Derived.OpenShut
import Derived.ShutString
import Derived.ChangeOld
import Derived.Below
import Derived.Deep.Strs
import Derived.Test.Qxb6602493aGtF
namespace Go.Proofs.Qxb6602493a.fnGivenTwiceIsFirstRepeat
open Go.ChangeShapes Go.WideShapes Go.ChangeAt Go.RowKit Go.Deep

theorem own : ownKnob Try.prog.godebug = none := by kernel_rfl
theorem laidOut : laidOutB Try.prog = true := by kernel_rfl

theorem idx_at (x : Addr) (n c : Nat) (W : World) (k : Nat) (hk : k < n) : (Instr.indexAt 24 (.slice (some x) n c) (.int .i64 (k : Int))).run Try.prog W = .ok (.pointer (some (x.add k))) W := by
  obtain ⟨i, hi, hz⟩ := Option.map_eq_some_iff.1 info9
  simp only [Prod.mk.injEq] at hz
  have hs : (sizeOf 9).run Try.prog W = .ok 1 W := by simp [sizeOf, typeInfo, hi, hz]
  rw [run_indexAt_slice W 24 _ n c .i64 (k : Int) (by kernel_rfl), if_pos (by omega)]
  have he : Try.prog.elem 24 = 9 := by kernel_rfl
  rw [he, hs]
  simp [Result.andThen]

theorem strs_nil (W : World) : StrsAt W none 0 (fun _ => ⟨0, 0, none⟩) (fun _ => ByteArray.empty) :=
  ⟨fun _ _ _ h => absurd h (Nat.not_lt_zero _), fun _ h => absurd h (Nat.not_lt_zero _), fun _ h => absurd h (Nat.not_lt_zero _), fun _ h => absurd h (Nat.not_lt_zero _)⟩

theorem strs_some (W : World) (x : Addr) (n m : Nat) (S : Nat → ByteArray) (hnm : n ≤ m) (h : ∀ i, i < m → W.cell? (x.add i) = some (.string (S i)) ∧ (S i).size ≤ maxLen) : StrsAt W (some x) n (fun k => x.add k) S :=
  ⟨fun c W k hk => idx_at x n c W k hk, fun k hk => (h k (by omega)).1, fun k hk => World.block_lt_of_cell? W (x.add k) (h k (by omega)).1, fun k hk => (h k (by omega)).2⟩

set_option maxRecDepth 100000 in
theorem lifted (os : Os) (started : os.Started) (H : Type) (enc : TypeId × Value → H) :
    ReturnsInHanded {} Try.checked os 4 .any (Rows.fnGivenTwiceIsFirstRepeatSpec.pre6 enc Try.prog Try.f4 Rows.fnGivenTwiceIsFirstRepeatRow.domain false) (Rows.fnGivenTwiceIsFirstRepeatSpec.post enc Try.prog Try.f4 false true false false) := by
  refine returnsInHanded_of_change (C := Try.checked) own started (by kernel_rfl) Try.func4
    (ChangeSpec.witness6 (enc := enc) (C := Try.checked) false ⟨#[], #[.slice none 0 0, .slice none 0 0], []⟩ 8 (by kernel_rfl) (by kernel_rfl) (by kernel_rfl) (by kernel_rfl)) ?_
  intro W base args ds gs before hval0 hW _ _
  have hval : ∀ (j : Nat) t v, Try.f4.params[j]? = some t → args[j]? = some v → Value.okWide Try.prog W .any base t v := hval0
  have hW' := hW
  obtain ⟨p, q, hA0, hV, rfl, _, _⟩ := hW
  have hA : DataW.TrodAll enc Try.prog W 0 (fun _ => true) true Try.f4.params.toList args.toList ds p := hA0
  rw [Try.params4] at hA hval
  obtain ⟨v0, vs0, d0, ds0, p0, q0, hargs, rfl, rfl, h0, r0⟩ := trodAll_cons hA
  obtain ⟨v1, vs1, d1, ds1, p1, q1, rfl, rfl, rfl, h1, r1⟩ := trodAll_cons r0
  obtain ⟨rfl, rfl, rfl⟩ := trodAll_nil r1
  obtain rfl : args = #[v0, v1] := by cases args; simp_all
  obtain ⟨rfl, rfl⟩ := trodVars_none hV
  obtain ⟨a0, len0, cap0, rfl⟩ := okWide_slice Try.underlying24 (hval 0 24 v0 rfl rfl)
  have k0 := h0
  have lt0 : ∀ x ∈ p0, x.block < W.heap.size := by obtain ⟨m, hm⟩ := k0; exact DataW.trod_lt m _ _ _ hm
  obtain ⟨adr0, S0, w0, n0, z0⟩ : ∃ adr S, StrsAt W a0 len0 adr S ∧ len0 ≤ maxLen ∧ (a0.isNone = true → len0 = 0 ∧ cap0 = 0) := by
    obtain ⟨fuel, hf⟩ := h0
    rcases open_strs Try.underlying24 Try.underlying9 (by kernel_rfl) hf with ⟨hcs, _⟩ | ⟨x, l, c, m, Sx, hcs, _, hl, hm, hmm, _, hcell⟩
    · simp [Value.cells] at hcs
      obtain ⟨rfl, rfl, rfl⟩ := hcs
      exact ⟨_, _, strs_nil W, Nat.zero_le _, fun _ => ⟨rfl, rfl⟩⟩
    · simp [Value.cells] at hcs
      obtain ⟨rfl, rfl, rfl⟩ := hcs
      exact ⟨_, Sx, strs_some W x _ m Sx (by rw [hmm]; simpa using hl) hcell, Nat.le_trans hl hm, fun e => by cases e⟩
  obtain ⟨a1, len1, cap1, rfl⟩ := okWide_slice Try.underlying24 (hval 1 24 v1 rfl rfl)
  have k1 := h1
  have lt1 : ∀ x ∈ p1, x.block < W.heap.size := by obtain ⟨m, hm⟩ := k1; exact DataW.trod_lt m _ _ _ hm
  obtain ⟨adr1, S1, w1, n1, z1⟩ : ∃ adr S, StrsAt W a1 len1 adr S ∧ len1 ≤ maxLen ∧ (a1.isNone = true → len1 = 0 ∧ cap1 = 0) := by
    obtain ⟨fuel, hf⟩ := h1
    rcases open_strs Try.underlying24 Try.underlying9 (by kernel_rfl) hf with ⟨hcs, _⟩ | ⟨x, l, c, m, Sx, hcs, _, hl, hm, hmm, _, hcell⟩
    · simp [Value.cells] at hcs
      obtain ⟨rfl, rfl, rfl⟩ := hcs
      exact ⟨_, _, strs_nil W, Nat.zero_le _, fun _ => ⟨rfl, rfl⟩⟩
    · simp [Value.cells] at hcs
      obtain ⟨rfl, rfl, rfl⟩ := hcs
      exact ⟨_, Sx, strs_some W x _ m Sx (by rw [hmm]; simpa using hl) hcell, Nat.le_trans hl hm, fun e => by cases e⟩
  clear hA0 hval0
  refine (law_over a0 len0 cap0 adr0 S0 a1 len1 cap1 adr1 S1 W n0 n1 w0 w1 z0 z1).mono fun e W' ⟨he, bel⟩ => ?_
  subst he
  exact ⟨_, rfl, _, _, _, [], _, [], hW', trodAll_mk1 (shut_bool Try.underlying4 _), (trodAll_cons_mk (Below.trod laidOut (by kernel_rfl) (of_decide_eq_true (by kernel_rfl)) k0 bel lt0) (trodAll_cons_mk (Below.trod laidOut (by kernel_rfl) (of_decide_eq_true (by kernel_rfl)) k1 bel lt1) trodAll_mk0)), rfl, bel.frame _, fun h => by cases h⟩

theorem over : Rows.fnGivenTwiceIsFirstRepeatRow.holds Try.pinned (OpenSpec.ofChange Rows.fnGivenTwiceIsFirstRepeatSpec) :=
  OpenClaim.holds_of_wide 4 Try.f4 rfl rfl rfl rfl rfl rfl rfl ⟨rfl, rfl, rfl, rfl, rfl⟩ rfl rfl rfl rfl rfl (by kernel_rfl) Try.func4 (by kernel_rfl)
    (of_decide_eq_true (by kernel_rfl)) (by unfold Func.isWrapper; first | (rw [if_pos (by decide +kernel)]; kernel_rfl) | (rw [if_neg (by decide +kernel)]; exact ⟨rfl, rfl⟩))
    (fun os started H enc _ => lifted os started H enc)

/-- THE STATEMENT -/
theorem proved : Rows.FnGivenTwiceIsFirstRepeatSaid := over
end Go.Proofs.Qxb6602493a.fnGivenTwiceIsFirstRepeat
