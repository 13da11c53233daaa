import Derived.Test.Qxb6000090aLaB
import Derived.Laws.BitsAllLaws
namespace Go.Proofs.Qxb6000090a.La
set_option linter.unusedVariables false

/-! ### words of 32 bits -/
abbrev W32 := BitVec 32
def I (a : W32) : Int := (a.toNat : Int)

theorem lt32 (a : W32) : a.toNat < 4294967296 := a.isLt
theorem and_I (a b : W32) : bits .and .u32 (I a) (I b) = I (a &&& b) := by
  unfold I; rw [u32_and_nat _ _ (lt32 a) (lt32 b), BitVec.toNat_and]
theorem or_I (a b : W32) : bits .or .u32 (I a) (I b) = I (a ||| b) := by
  unfold I; rw [u32_or_nat _ _ (lt32 a) (lt32 b), BitVec.toNat_or]
theorem andNot_I (a b : W32) : bits .andNot .u32 (I a) (I b) = I (a &&& ~~~b) := by
  unfold I; rw [u32_andNot_nat _ _ (lt32 a) (lt32 b), BitVec.toNat_and, BitVec.toNat_not]
theorem ne_I (a : W32) : (I a != 0) = (a != 0#32) := by
  unfold I
  rw [Bool.eq_iff_iff]
  simp only [bne_iff_ne, ne_eq]
  constructor
  · intro h e; exact h (by rw [e]; rfl)
  · intro h e; exact h (BitVec.eq_of_toNat_eq (by simpa using e))
theorem I_of (x : Int) (h0 : 0 ≤ x) (h1 : x ≤ 4294967295) : ∃ a : W32, x = I a := by
  refine ⟨BitVec.ofNat 32 x.toNat, ?_⟩
  unfold I
  rw [BitVec.toNat_ofNat]
  omega

def stepB (b r m : W32) : W32 := if (m &&& b != 0#32) = true then (m &&& ~~~b) ||| r else m
theorem step_I (b r m : W32) : step (I b) (I r) (I m) = I (stepB b r m) := by
  unfold step stepB
  rw [and_I, ne_I, andNot_I, or_I]
  split <;> rfl

def mapB (rd wr ex al m : W32) : W32 := stepB 268435456#32 al (stepB 536870912#32 ex (stepB 1073741824#32 wr (stepB 2147483648#32 rd m)))
theorem map_I (rd wr ex al m : W32) : mapI (I rd) (I wr) (I ex) (I al) (I m) = I (mapB rd wr ex al m) := by
  unfold mapI mapB
  have c1 : (2147483648 : Int) = I 2147483648#32 := rfl
  have c2 : (1073741824 : Int) = I 1073741824#32 := rfl
  have c3 : (536870912 : Int) = I 536870912#32 := rfl
  have c4 : (268435456 : Int) = I 268435456#32 := rfl
  rw [c1, c2, c3, c4, step_I, step_I, step_I, step_I]

/-! ### each step, and so Map, makes a union a union -/
theorem hit (i : Nat) (hi : i < 32) (m : W32) : (m &&& BitVec.twoPow 32 i != 0#32) = m.getLsbD i := by
  rw [BitVec.and_twoPow]
  cases h : m.getLsbD i
  · simp
  · have : BitVec.twoPow 32 i ≠ 0#32 := by
      intro e
      have := congrArg (fun x => x.getLsbD i) e
      simp [hi] at this
    simpa using this

theorem stepB_or (i : Nat) (hi : i < 32) (r a b : W32) : stepB (BitVec.twoPow 32 i) r (a ||| b) = stepB (BitVec.twoPow 32 i) r a ||| stepB (BitVec.twoPow 32 i) r b := by
  unfold stepB
  rw [hit i hi, hit i hi, hit i hi, BitVec.getLsbD_or]
  cases ha : a.getLsbD i <;> cases hb : b.getLsbD i
  · simp
  all_goals
    simp only [Bool.or_true, Bool.or_self, Bool.or_false, if_true, Bool.false_eq_true, if_false]
    apply BitVec.eq_of_getLsbD_eq
    intro j hj
    simp only [BitVec.getLsbD_or, BitVec.getLsbD_and, BitVec.getLsbD_not, BitVec.getLsbD_twoPow]
    by_cases e : i = j
    · subst e
      rw [ha, hb, decide_eq_true hi, decide_eq_true (rfl : i = i)]
      cases r.getLsbD i <;> rfl
    · rw [decide_eq_true hi, decide_eq_true hj, decide_eq_false e]
      cases a.getLsbD j <;> cases b.getLsbD j <;> cases r.getLsbD j <;> rfl

theorem stepB_zero (b r : W32) : stepB b r 0#32 = 0#32 := by unfold stepB; simp

theorem mapB_or (rd wr ex al a b : W32) : mapB rd wr ex al (a ||| b) = mapB rd wr ex al a ||| mapB rd wr ex al b := by
  unfold mapB
  have p1 : (2147483648#32 : W32) = BitVec.twoPow 32 31 := rfl
  have p2 : (1073741824#32 : W32) = BitVec.twoPow 32 30 := rfl
  have p3 : (536870912#32 : W32) = BitVec.twoPow 32 29 := rfl
  have p4 : (268435456#32 : W32) = BitVec.twoPow 32 28 := rfl
  rw [p1, p2, p3, p4, stepB_or 31 (by decide), stepB_or 30 (by decide), stepB_or 29 (by decide), stepB_or 28 (by decide)]
theorem mapB_zero (rd wr ex al : W32) : mapB rd wr ex al 0#32 = 0#32 := by
  unfold mapB
  rw [stepB_zero, stepB_zero, stepB_zero, stepB_zero]

/-! ### the two laws -/
theorem law_dom (rd wr ex al : W32) :
    bits .or .u32 (bits .or .u32 (mapI (I rd) (I wr) (I ex) (I al) 2147483648) (mapI (I rd) (I wr) (I ex) (I al) 1073741824)) (mapI (I rd) (I wr) (I ex) (I al) 536870912) = mapI (I rd) (I wr) (I ex) (I al) 3758096384 := by
  have c1 : (2147483648 : Int) = I 2147483648#32 := rfl
  have c2 : (1073741824 : Int) = I 1073741824#32 := rfl
  have c3 : (536870912 : Int) = I 536870912#32 := rfl
  have c5 : (3758096384 : Int) = I ((2147483648#32 ||| 1073741824#32) ||| 536870912#32) := rfl
  rw [c1, c2, c3, c5, map_I, map_I, map_I, map_I, or_I, or_I, mapB_or, mapB_or]

def whB (b1 b2 b4 : Bool) : W32 :=
  let w1 : W32 := if b1 = true then 0#32 ||| 1073741824#32 else 0#32
  let w2 := if b2 = true then w1 ||| 2147483648#32 else w1
  if b4 = true then w2 ||| 536870912#32 else w2
def labB (b1 b2 b4 : Bool) (r w e : W32) : W32 :=
  let a0 := r ||| e
  let a1 := if b1 = true then a0 &&& ~~~w else a0
  let a2 := if b2 = true then a1 &&& ~~~r else a1
  if b4 = true then a2 &&& ~~~e else a2

theorem wh_I (mask : Int) : wh mask = I (whB (bits .and .u32 mask 1 != 0) (bits .and .u32 mask 2 != 0) (bits .and .u32 mask 4 != 0)) := by
  unfold wh whB
  have c0 : (0 : Int) = I 0#32 := rfl
  have c1 : (2147483648 : Int) = I 2147483648#32 := rfl
  have c2 : (1073741824 : Int) = I 1073741824#32 := rfl
  have c3 : (536870912 : Int) = I 536870912#32 := rfl
  generalize (bits .and .u32 mask 1 != 0) = b1
  generalize (bits .and .u32 mask 2 != 0) = b2
  generalize (bits .and .u32 mask 4 != 0) = b4
  rw [c0, c1, c2, c3]
  cases b1 <;> cases b2 <;> cases b4 <;> simp only [if_true, Bool.false_eq_true, if_false, or_I]

theorem lab_I (mask : Int) (r w e : W32) : lab mask (I r) (I w) (I e) = I (labB (bits .and .u32 mask 1 != 0) (bits .and .u32 mask 2 != 0) (bits .and .u32 mask 4 != 0) r w e) := by
  unfold lab labB
  generalize (bits .and .u32 mask 1 != 0) = b1
  generalize (bits .and .u32 mask 2 != 0) = b2
  generalize (bits .and .u32 mask 4 != 0) = b4
  cases b1 <;> cases b2 <;> cases b4 <;> simp only [if_true, Bool.false_eq_true, if_false, or_I, andNot_I]

theorem law_bits (b1 b2 b4 : Bool) (rd wr ex al : W32) :
    labB b1 b2 b4 (mapB rd wr ex al 2147483648#32) (mapB rd wr ex al 1073741824#32) (mapB rd wr ex al 536870912#32) =
      mapB rd wr ex al (2147483648#32 ||| 536870912#32) &&& ~~~(mapB rd wr ex al (whB b1 b2 b4)) := by
  unfold labB whB
  cases b1 <;> cases b2 <;> cases b4
  all_goals
    simp only [if_true, Bool.false_eq_true, if_false, mapB_or, mapB_zero]
    apply BitVec.eq_of_getLsbD_eq
    intro j hj
    simp only [BitVec.getLsbD_or, BitVec.getLsbD_and, BitVec.getLsbD_not, BitVec.getLsbD_zero, decide_eq_true hj]
    generalize (mapB rd wr ex al 2147483648#32).getLsbD j = x
    generalize (mapB rd wr ex al 1073741824#32).getLsbD j = y
    generalize (mapB rd wr ex al 536870912#32).getLsbD j = z
    cases x <;> cases y <;> cases z <;> rfl

theorem law_not (mask : Int) (rd wr ex al : W32) :
    lab mask (mapI (I rd) (I wr) (I ex) (I al) 2147483648) (mapI (I rd) (I wr) (I ex) (I al) 1073741824) (mapI (I rd) (I wr) (I ex) (I al) 536870912) =
      bits .andNot .u32 (mapI (I rd) (I wr) (I ex) (I al) 2684354560) (mapI (I rd) (I wr) (I ex) (I al) (wh mask)) := by
  have c1 : (2147483648 : Int) = I 2147483648#32 := rfl
  have c2 : (1073741824 : Int) = I 1073741824#32 := rfl
  have c3 : (536870912 : Int) = I 536870912#32 := rfl
  have c5 : (2684354560 : Int) = I (2147483648#32 ||| 536870912#32) := rfl
  rw [wh_I, c1, c2, c3, c5, map_I, map_I, map_I, map_I, map_I, lab_I, andNot_I, law_bits]
end Go.Proofs.Qxb6000090a.La
