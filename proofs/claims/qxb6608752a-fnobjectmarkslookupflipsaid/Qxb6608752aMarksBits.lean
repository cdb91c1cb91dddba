import Derived.Test.Qxb6608752aMarks
import Derived.Laws.Bits64b
namespace Go.Proofs.Qxb6608752a.Marks
open Go.RowKit

/-! ### Bits of a word -/
def maskOf (j : Int) : Int := IntKind.u64.wrap (2 ^ (j % 64).toNat)
def setBit (x j : Int) : Int := bits BinOp.or IntKind.u64 x (maskOf j)
def clrBit (x j : Int) : Int := bits BinOp.andNot IntKind.u64 x (maskOf j)
def bv (x : Int) : BitVec 64 := BitVec.ofInt 64 x

theorem wrap_toNat (v : BitVec 64) : IntKind.u64.wrap (v.toNat : Int) = (v.toNat : Int) := by
  have h := v.isLt
  rw [IntKind.wrap_u64]
  omega
theorem bv_toNat (v : BitVec 64) : bv (v.toNat : Int) = v := by
  unfold bv
  rw [BitVec.ofInt_natCast, BitVec.ofNat_toNat, BitVec.setWidth_eq]
theorem toNat_bv {x : Int} (h0 : 0 ≤ x) (h1 : x < 18446744073709551616) : ((bv x).toNat : Int) = x := by
  unfold bv
  obtain ⟨a, rfl⟩ := Int.eq_ofNat_of_zero_le h0
  rw [BitVec.ofInt_natCast, BitVec.toNat_ofNat, Nat.mod_eq_of_lt (by omega)]
theorem and_is (x y : Int) : bits BinOp.and IntKind.u64 x y = ((bv x &&& bv y).toNat : Int) := wrap_toNat _
theorem or_is (x y : Int) : bits BinOp.or IntKind.u64 x y = ((bv x ||| bv y).toNat : Int) := wrap_toNat _
theorem andNot_is (x y : Int) : bits BinOp.andNot IntKind.u64 x y = ((bv x &&& ~~~bv y).toNat : Int) := wrap_toNat _

theorem bv_mask (j : Int) : bv (maskOf j) = BitVec.twoPow 64 (j % 64).toNat := by
  have h : (j % 64).toNat < 64 := by omega
  unfold maskOf
  generalize (j % 64).toNat = i at h
  have e : (2 : Int) ^ i = ((BitVec.twoPow 64 i).toNat : Int) := by
    rw [BitVec.toNat_twoPow, Nat.mod_eq_of_lt (Nat.pow_lt_pow_right (by decide) h)]
    simp
  rw [e, wrap_toNat, bv_toNat]

theorem bitAt_is (x j : Int) : bitAt x j = (bv x).getLsbD (j % 64).toNat := by
  have h : (j % 64).toNat < 64 := by omega
  show (bits BinOp.and IntKind.u64 x (maskOf j) != 0) = _
  rw [and_is, bv_mask]
  generalize (j % 64).toNat = i at h
  rw [BitVec.and_twoPow]
  cases hb : (bv x).getLsbD i
  · simp
  · rw [if_pos rfl, BitVec.toNat_twoPow, Nat.mod_eq_of_lt (Nat.pow_lt_pow_right (by decide) h)]
    have hp := Nat.two_pow_pos i
    generalize 2 ^ i = p at hp
    simp
    omega

theorem bv_set (x j : Int) : bv (setBit x j) = bv x ||| BitVec.twoPow 64 (j % 64).toNat := by
  unfold setBit
  rw [or_is, bv_toNat, bv_mask]
theorem bv_clr (x j : Int) : bv (clrBit x j) = bv x &&& ~~~BitVec.twoPow 64 (j % 64).toNat := by
  unfold clrBit
  rw [andNot_is, bv_toNat, bv_mask]

theorem bit_set (x j : Int) : bitAt (setBit x j) j = true := by
  have h : (j % 64).toNat < 64 := by omega
  rw [bitAt_is, bv_set]
  simp [h]
theorem bit_clr (x j : Int) : bitAt (clrBit x j) j = false := by
  have h : (j % 64).toNat < 64 := by omega
  rw [bitAt_is, bv_clr]
  simp [h]
theorem bit_other (x j i : Int) (hne : j % 64 ≠ i % 64) : bitAt (setBit x j) i = bitAt (clrBit x j) i := by
  have h : (i % 64).toNat < 64 := by omega
  have hn : ¬ (i % 64).toNat = (j % 64).toNat := by omega
  rw [bitAt_is, bitAt_is, bv_set, bv_clr]
  simp [hn, h]
theorem bit_same (x j : Int) (h0 : 0 ≤ x) (h1 : x < 18446744073709551616) : (x == setBit x j) = bitAt x j := by
  have h : (j % 64).toNat < 64 := by omega
  cases hb : bitAt x j
  · have : x ≠ setBit x j := by
      intro e
      have := bit_set x j
      rw [← e, hb] at this
      cases this
    simpa using this
  · rw [bitAt_is] at hb
    have e : bv (setBit x j) = bv x := by
      rw [bv_set]
      apply BitVec.eq_of_getLsbD_eq
      intro i hi
      rw [BitVec.getLsbD_or, BitVec.getLsbD_twoPow]
      by_cases hij : (j % 64).toNat = i
      · subst hij; simp [hb]
      · simp [hij]
    have e2 : ((bv (setBit x j)).toNat : Int) = setBit x j := by
      have : setBit x j = ((bv x ||| bv (maskOf j)).toNat : Int) := or_is _ _
      rw [this, bv_toNat]
    rw [e, toNat_bv h0 h1] at e2
    simpa using e2

/-! ### What lookup says behind a bit's setting, and behind its clearing -/
theorem getD_set (zs : List Int) (i k : Nat) (x : Int) (h : i < zs.length) : (zs.set i x).getD k 0 = if i = k then x else zs.getD k 0 := by
  simp only [List.getD, List.getElem?_set]
  by_cases e : i = k
  · subst e; simp [h]
  · simp [e]

theorem named_at (f t : Int) (zs : List Int) (j : Int) (h1 : f ≤ j) (h2 : j < t) (hlt : (j - f) / 64 < (zs.length : Int)) : named f t zs j = bitAt (zs.getD ((j - f) / 64).toNat 0) (j - f) := by
  unfold named
  rw [inside_true h1 h2, decide_eq_true hlt, Bool.true_and, Bool.true_and]

theorem named_put (f t : Int) (zs : List Int) (j v : Int) (h1 : f ≤ j) (h2 : j < t) (hlt : (j - f) / 64 < (zs.length : Int)) : named f t (zs.set ((j - f) / 64).toNat v) j = bitAt v (j - f) := by
  rw [named_at f t _ j h1 h2 (by simpa using hlt), getD_set _ _ _ _ (by omega), if_pos rfl]

theorem named_other (f t : Int) (zs : List Int) (j i : Int) (x : Int) (h1 : f ≤ j) (hlt : (j - f) / 64 < (zs.length : Int)) (hne : i ≠ j) :
    named f t (zs.set ((j - f) / 64).toNat (setBit x (j - f))) i = named f t (zs.set ((j - f) / 64).toNat (clrBit x (j - f))) i := by
  unfold named
  by_cases hi : f ≤ i
  · rw [getD_set _ _ _ _ (by omega), getD_set _ _ _ _ (by omega), List.length_set, List.length_set]
    by_cases e : ((j - f) / 64).toNat = ((i - f) / 64).toNat
    · rw [if_pos e, if_pos e, bit_other _ _ _ (by omega)]
    · rw [if_neg e, if_neg e]
  · rw [inside_false (.inl (by omega))]
    simp

theorem named_inside {f t : Int} {zs : List Int} {j : Int} (h : inside f t j = false) : named f t zs j = false := by
  unfold named
  rw [h, Bool.false_and]

/-- w' is w but for the block g, which holds o. -/
structure Put (w w' : World) (g : Nat) (o : Obj) : Prop where
  os : w'.os = w.os
  tape : w'.tape = w.tape
  output : w'.output = w.output
  size : w'.heap.size = w.heap.size
  block : w'.heap[g]? = some o
  others : ∀ b, b ≠ g → w'.heap[b]? = w.heap[b]?

theorem put_word {w : World} {g : Nat} {zs : List Int} (i : Nat) (v : Int) (hg : w.heap[g]? = some (.cells (row zs) 37 (0, 0))) :
    Put w (w.setCell ⟨g, i, none⟩ (.int .u64 v)) g (.cells (row (zs.set i v)) 37 (0, 0)) := by
  refine ⟨rfl, rfl, rfl, by simp [World.setCell], ?_, fun b hb => Below.heap_setCell _ _ _ _ hb⟩
  simp only [World.setCell, Array.getElem?_modify, hg]
  simp [row_set]

theorem Put.below {w0 w w' : World} {g B : Nat} {o : Obj} (h : Put w w' g o) (hb : Below B w0 w) (hg : B ≤ g) : Below B w0 w' :=
  ⟨h.os.trans hb.os, h.tape.trans hb.tape, h.output.trans hb.output, by rw [h.size]; exact hb.size, fun k hk => by rw [h.others k (by omega)]; exact hb.block k hk⟩
end Go.Proofs.Qxb6608752a.Marks
