import Derived.Test.Qxb6602493aGtE
namespace Go.Proofs.Qxb6602493a
open Go.RowKit

theorem strs_drewN {W wr : World} {a : Option Addr} {n B : Nat} {adr : Nat → Addr} {S : Nat → ByteArray} (h : StrsAt wr a n adr S ∧ Below B W wr) (k : Nat) : StrsAt (wr.drewN k) a n adr S ∧ Below B W (wr.drewN k) :=
  ⟨h.1.below (below_drewN (Below.refl _ _) k), below_drewN h.2 k⟩

theorem seen_at {S : Nat → ByteArray} {k j : Nat} (h : seenB S k (S j) = false) (e : k = j) : seenB S j (S j) = false := by
  subst e; exact h

theorem hit_of {S : Nat → ByteArray} {k j : Nat} (h : k < j) (hq : ((S k).toList == (S j).toList) = true) : seenB S j (S j) = true := by
  rw [ByteArray.toList_eq, ByteArray.toList_eq] at hq
  simp only [seenB, List.any_eq_true, List.mem_range]
  exact ⟨k, h, hq⟩

set_option maxHeartbeats 1600000 in
theorem law_over (a : Option Addr) (n c : Nat) (adr : Nat → Addr) (S : Nat → ByteArray) (a' : Option Addr) (n' c' : Nat) (adr' : Nat → Addr) (V : Nat → ByteArray) (w : World)
    (hn : n ≤ maxLen) (hn' : n' ≤ maxLen) (h : StrsAt w a n adr S) (h' : StrsAt w a' n' adr' V) (ha : a.isNone = true → n = 0 ∧ c = 0) (ha' : a'.isNone = true → n' = 0 ∧ c' = 0) :
    Calls Try.prog 4 #[.slice a n c, .slice a' n' c'] w fun e w' => e = .returned (.bool true) ∧ Below w.heap.size w w' := by
  go_enter Try.func4, Try.ntmps4
  go_wp2_with fail
  refine (zzbytes_any a n c adr S a' n' c' adr' V _ hn hn' h h').mono ?_
  rintro e w ⟨⟨b, rfl⟩, rfl⟩
  cases b
  · go_wp2
    go_ret
    exact ⟨rfl, Below.refl _ _⟩
  go_wp2_with fail
  refine (bytes_any a n c adr S _ hn h).mono ?_
  rintro e w ⟨t, ⟨t0, t1⟩, rfl, rfl⟩
  go_wp2_with fail
  refine (bytes_any a' n' c' adr' V _ hn' h').mono ?_
  rintro e w ⟨t', ⟨t0', t1'⟩, rfl, rfl⟩
  by_cases g1 : 1048576 < t + t'
  · go_wp2
    go_ret
    exact ⟨rfl, Below.refl _ _⟩
  unfold maxLen at hn hn'
  by_cases g2 : (4096 : Int) < (n : Int)
  · go_wp2
    go_ret
    exact ⟨rfl, Below.refl _ _⟩
  by_cases g3 : (4096 : Int) < (n' : Int)
  · go_wp2
    go_ret
    exact ⟨rfl, Below.refl _ _⟩
  by_cases g4 : ((n : Int) != (n' : Int)) = true
  · go_wp2
    go_ret
    exact ⟨rfl, Below.refl _ _⟩
  have e : n = n' := by simp at g4; omega
  subst e
  clear g4
  go_wp2_with fail
  refine (clone_any a n c ha adr S _ (by omega) h).mono ?_
  rintro e w1 ⟨a1, c1, adr1, rfl, s1, b1, i1⟩
  have h1' := h'.below b1
  go_wp2_with fail
  refine (clone_any a' n c' ha' adr' V _ (by omega) h1').mono ?_
  rintro e w2 ⟨a2, c2, adr2, rfl, s2, b2, i2⟩
  have s12 := s1.below b2
  have b02 : Below w.heap.size w w2 := b1.trans (b2.mono b1.size)
  have hnil : a1.isNone = true → n = 0 := fun e => (ha (by rw [← i1]; exact e)).1
  clear h h' h1' s1 b1 b2 i1 i2 ha ha' adr adr' t0 t1 t0' t1' g1
  go_wp2_with fail
  refine (attrs_any a1 a2 n c1 c2 hnil adr1 adr2 S V _ (by omega) s12 s2).mono ?_
  rintro e w3 ⟨a3, c3, B, rfl, s3, b3⟩
  have s13 := s12.below b3
  have b03 : Below w.heap.size w w3 := b02.trans (b3.mono b02.size)
  clear s12 s2 b3 b02 hnil
  go_wp2_with fail
  refine (zzgiven_any a3 n c3 B S V _ (by omega) s3).mono ?_
  rintro e w4 ⟨got, ok, rfl, b4, HS0⟩
  have HS : Hid (Spec n S got ok) := HS0
  have H4 : Hid (StrsAt w4 a1 n adr1 S ∧ Below w.heap.size w w4) := ⟨s13.below b4, b03.trans (b4.mono b03.size)⟩
  clear s13 b03 s3 b4 HS0
  go_wp2
  go_loopw [8] (fun i wr => ∃ j : Nat, j ≤ n ∧ i = .int .i64 j ∧ Hid (NoRep S j) ∧ Hid (StrsAt wr a1 n adr1 S ∧ Below w.heap.size w wr)) (fun i _ => n - (intOf i).toNat)
  case atStart => exact ⟨0, Nat.zero_le _, rfl, fun j hj => absurd hj (Nat.not_lt_zero _), H4⟩
  case round =>
    obtain ⟨j, hj, rfl, HR, HW⟩ := hrel
    clear H4
    by_cases hlt : j < n
    · obtain ⟨wo, rfl⟩ : ∃ wo : World, wo = wr := ⟨_, rfl⟩
      go_wp2
      go_loopw [9] (fun i wr => ∃ k : Nat, k ≤ j ∧ i = .int .i64 k ∧ Hid (seenB S k (S j) = false) ∧ Hid (StrsAt wr a1 n adr1 S ∧ Below w.heap.size w wr)) (fun i _ => j - (intOf i).toNat)
      case atStart => exact ⟨0, Nat.zero_le _, rfl, rfl, HW⟩
      case round =>
        obtain ⟨k, hk, rfl, HN, HV⟩ := hrel
        clear HW
        by_cases hlt2 : k < j
        · have hi := fun W => HV.out.1.idx c1 W k (by omega)
          have hi' := fun W => HV.out.1.idx c1 W j hlt
          have hc := HV.out.1.cell k (by omega)
          have hc' := HV.out.1.cell j hlt
          cases hq : ((S k).toList == (S j).toList)
          · have HN' : Hid (seenB S (k + 1) (S j) = false) := by
              show seenB S (k + 1) (S j) = false
              rw [seenB_succ, HN.out, Bool.false_or, ← ByteArray.toList_eq, ← ByteArray.toList_eq]; exact hq
            go_wp2
            go_quiet (fail)
            go_wp2
            go_roundw
            case rel => exact ⟨k + 1, by omega, by go_num, HN', strs_drewN HV.out _⟩
            case measure => simp [intOf]; omega
          · have hT := spec_hit HS.out hlt HR.out (hit_of hlt2 hq)
            have hok : ok = true := hT.1
            have hg : (got.toList == (S j).toList) = true := by rw [hT.2]; simp
            clear hT
            subst hok
            go_wp2
            go_quiet (fail)
            go_wp2
            go_ret
            exact ⟨rfl, below_drewN HV.out.2 _⟩
        · have HR' : Hid (NoRep S (j + 1)) := noRep_step HR.out (seen_at HN.out (by omega))
          go_wp2
          go_roundw
          case rel => exact ⟨j + 1, by omega, by go_num, HR', HV⟩
          case measure => simp [intOf]; omega
    · have hT := spec_miss HS.out (fun i hi => HR.out i (by omega))
      obtain ⟨hok, hg⟩ := hT
      subst hok hg
      go_wp2
      go_ret
      exact ⟨rfl, HW.out.2⟩
end Go.Proofs.Qxb6602493a
