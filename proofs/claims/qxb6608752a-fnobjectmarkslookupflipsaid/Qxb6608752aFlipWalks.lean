/-
  THE WALKS of 'zzlaws_value_b1.FnObjectMarksLookupFlip' (function 5), over the contracts of Qxb6608752aMarks.lean and the plain laws of Qxb6608752aMarksBits.lean: the offset in the stretch with a word of its own ('core_in'), behind the last word ('core_short'), outside ('core_out'); the early ways out ('early').
-/
import Derived.Test.Qxb6608752aMarksBits
namespace Go.Proofs.Qxb6608752a.fnObjectMarksLookupFlip
open Go.ChangeShapes Go.WideShapes Go.ChangeAt Go.RowKit Go.Proofs.Qxb6608752a.Marks
set_option linter.unusedVariables false

set_option maxRecDepth 100000 in
set_option maxHeartbeats 4000000 in
theorem core_in (f t : Int) (a : Option Addr) (n c : Nat) (zs : List Int) (j i : Int) (w : World) (hg : Given w a n c zs) (hn : n ≤ 131072) (hw : ∀ x ∈ zs, 0 ≤ x ∧ x < 18446744073709551616)
    (hf : 0 ≤ f) (ht : f ≤ t) (ht2 : t ≤ 9223372036854775807) (h1 : f ≤ j) (h2 : j < t) (hlt : (j - f) / 64 < (n : Int)) (io : Bool) (hio : decide (f ≤ i) = io) (iq : Bool) (hiq : (io && decide (i < t)) = iq) :
    Calls Try.prog 5 #[.int .i64 f, .int .i64 t, .slice a n c, .int .i64 j, .int .i64 i] w fun e w' => e = .returned (.bool true) ∧ Below w.heap.size w w' := by
  have hd : 0 ≤ j - f := by omega
  have hd2 : 0 ≤ (j - f) / 64 := by omega
  have hz := hg.1
  have HI : Hid (inside f t i = iq) := by
    show inside f t i = iq
    unfold inside
    rw [hio, hiq]
  obtain ⟨x, hx⟩ : ∃ x, zs.getD ((j - f) / 64).toNat 0 = x := ⟨_, rfl⟩
  have hxb : 0 ≤ x ∧ x < 18446744073709551616 := by
    have hl : ((j - f) / 64).toNat < zs.length := by omega
    rw [← hx]
    simp only [List.getD, List.getElem?_eq_getElem hl, Option.getD_some]
    exact hw _ (List.getElem_mem hl)
  have HX : Hid (zs.getD ((j - f) / 64).toNat 0 = x) := hx
  clear hx hw
  have HZ : Hid (zs.length = n) := hz
  clear hz
  have hltz : (j - f) / 64 < (zs.length : Int) := by rw [HZ.out]; exact hlt
  obtain ⟨b0, hb0⟩ : ∃ b0, named f t zs j = b0 := ⟨_, rfl⟩
  have HB : Hid (named f t zs j = b0) := hb0
  have HB2 : Hid ((x == bits BinOp.or IntKind.u64 x (IntKind.u64.wrap (2 ^ ((j - f) % 64).toNat))) = b0) := by
    show (x == setBit x (j - f)) = b0
    rw [bit_same x _ hxb.1 hxb.2, ← hb0, named_at f t zs j h1 h2 hltz, HX.out]
  clear hb0
  have HG : Hid (Given w a n c zs) := hg
  clear hg hxb
  have HLZ : Hid ((j - f) / 64 < (zs.length : Int)) := hltz
  clear hltz
  -- what the last four lookups say
  obtain ⟨sb, has⟩ : ∃ sb, named f t (zs.set ((j - f) / 64).toNat (setBit x (j - f))) i = sb := ⟨_, rfl⟩
  obtain ⟨cb, hac⟩ : ∃ cb, named f t (zs.set ((j - f) / 64).toNat (clrBit x (j - f))) i = cb := ⟨_, rfl⟩
  have HAS : Hid (named f t (zs.set ((j - f) / 64).toNat (setBit x (j - f))) i = sb) := has
  have HAC : Hid (named f t (zs.set ((j - f) / 64).toNat (clrBit x (j - f))) i = cb) := hac
  have HNE : Hid (i ≠ j → sb = cb) := by
    show i ≠ j → sb = cb
    intro hne
    rw [← has, ← hac, named_other f t zs j i x h1 HLZ.out hne]
  have HIN : Hid (iq = false → sb = false) := by
    show iq = false → sb = false
    intro h
    rw [← has]
    exact named_inside (by rw [HI.out, h])
  clear has hac
  have HNS : Hid (named f t (zs.set ((j - f) / 64).toNat (setBit x (j - f))) j = true) := by
    show _ = _
    rw [named_put f t zs j _ h1 h2 HLZ.out, bit_set]
  have HNC : Hid (named f t (zs.set ((j - f) / 64).toNat (clrBit x (j - f))) j = false) := by
    show _ = _
    rw [named_put f t zs j _ h1 h2 HLZ.out, bit_clr]
  cases io
  all_goals (
  simp only [Bool.false_and, Bool.true_and] at hiq
  try subst hiq
  go_enter Try.func5, Try.ntmps5
  go_wp2_with (go_at_call 15; go_in)
  refine (clone_arg a n c zs w (by omega) HG.out).mono ?_
  rintro e w1 ⟨a1, rfl, W1, B1⟩
  obtain ⟨g1, rfl, G1⟩ : ∃ g1, a1 = some ⟨g1, 0, none⟩ ∧ Hid (w1.heap[g1]? = some (.cells (row zs) 37 (0, 0))) := by
    obtain ⟨_, ⟨_, h0⟩ | ⟨g, e, h⟩⟩ := W1.out
    · omega
    · exact ⟨g, e, h⟩
  go_wp2_with fail
  refine (clone_any _ n zs w1 (by omega) W1.out).mono ?_
  rintro e w2 ⟨a2, rfl, W2, B2, _⟩
  go_wp2_with fail
  refine (new_marks f t a2 n n w2.heap.size w2 rfl).mono ?_
  rintro e w3 ⟨rfl, P3⟩
  have W23 : Hid (Words w3 a2 n zs) := W2.out.kept P3.out.below
  go_wp2_with fail
  refine (look_any w2.heap.size n a2 zs f t j w3 P3.out.block W23.out hf ht2 (by omega) b0 true HB.out (inside_true h1 h2)).mono ?_
  rintro e w4 ⟨rfl, A4⟩
  have G4 : Hid (w4.heap[g1]? = some (.cells (row zs) 37 (0, 0))) := kept_block (kept_block (kept_block G1.out B2.out) P3.out.below) A4.out.below
  have L4 : Hid (w.heap.size ≤ w4.heap.size ∧ w.heap.size ≤ w1.heap.size) := by
    have s1 := B1.out.size
    have s2 := B2.out.size
    have s3 := P3.out.below.size
    have s4 := A4.out.below.size
    exact ⟨by omega, s1⟩
  have B4 : Hid (Below w.heap.size w w4) := by
    have s1 := B1.out.size
    have s2 := B2.out.size
    have s3 := P3.out.below.size
    exact ((B1.out.trans (B2.out.mono s1)).trans (P3.out.below.mono (by omega))).trans (A4.out.below.mono (by omega))
  clear B1 B2 P3 W2 W23 W1 G1 A4 HG
  have c4 : w4.cell? ⟨g1, ((j - f) / 64).toNat, none⟩ = some (.int .u64 x) := by
    rw [cell_of G4.out, row_get _ _ (by have := HLZ.out; omega), HX.out]
  have hb2 := HB2.out
  go_wp2_with fail
  go_quiet (fail)
  clear hb2 c4
  have A5 : Hid (Marks.Alike w4 (w4.drewN nq)) := alike_drew _ _
  generalize w4.drewN nq = w5 at A5 ⊢
  have G5 : Hid (w5.heap[g1]? = some (.cells (row zs) 37 (0, 0))) := kept_block G4.out A5.out.below
  have B5 : Hid (Below w.heap.size w w5) := B4.out.trans (A5.out.below.mono L4.out.1)
  clear G4 A5 B4 L4
  go_wp2_with fail
  refine (clone_any _ n zs w5 (by omega) ⟨HZ.out, .inr ⟨g1, rfl, G5.out⟩⟩).mono ?_
  rintro e w6 ⟨a6, rfl, W6, B6, E6⟩
  obtain rfl := E6.out (by omega)
  have G6 : Hid (w6.heap[w5.heap.size]? = some (.cells (row zs) 37 (0, 0))) := by
    obtain ⟨_, ⟨h0, _⟩ | ⟨g, e, h⟩⟩ := W6.out
    · cases h0
    · simp only [Option.some.injEq, Addr.mk.injEq] at e
      rw [e.1]; exact h
  have c6 : w6.cell? ⟨w5.heap.size, ((j - f) / 64).toNat, none⟩ = some (.int .u64 x) := by
    rw [cell_of G6.out, row_get _ _ (by have := HLZ.out; omega), HX.out]
  have f6 := unfrozen_of G6.out ((j - f) / 64).toNat
  have G16 : Hid (w6.heap[g1]? = some (.cells (row zs) 37 (0, 0))) := kept_block G5.out B6.out
  have B6' : Hid (Below w.heap.size w w6) := B5.out.trans (B6.out.mono B5.out.size)
  have L6 : Hid (w.heap.size ≤ w5.heap.size ∧ g1 < w5.heap.size) := ⟨B5.out.size, lt_of_block G5.out⟩
  go_wp2_with fail
  have P7 : Hid (Put w6 (w6.setCell ⟨w5.heap.size, ((j - f) / 64).toNat, none⟩ (.int .u64 (bits BinOp.or IntKind.u64 x (IntKind.u64.wrap (2 ^ ((j - f) % 64).toNat))))) w5.heap.size (.cells (row (zs.set ((j - f) / 64).toNat (setBit x (j - f)))) 37 (0, 0))) := put_word _ _ G6.out
  generalize (w6.setCell ⟨w5.heap.size, ((j - f) / 64).toNat, none⟩ (.int .u64 (bits BinOp.or IntKind.u64 x (IntKind.u64.wrap (2 ^ ((j - f) % 64).toNat))))) = w7 at P7 ⊢
  have G17 : Hid (w7.heap[g1]? = some (.cells (row zs) 37 (0, 0))) := by
    show _ = _
    rw [P7.out.others g1 (by have := L6.out.2; omega)]; exact G16.out
  have B7 : Hid (Below w.heap.size w w7) := P7.out.below B6'.out L6.out.1
  clear c6 f6 G6 W6 E6 B6 G16 B6' G5 B5
  refine (clone_any _ n zs w7 (by omega) ⟨HZ.out, .inr ⟨g1, rfl, G17.out⟩⟩).mono ?_
  rintro e w8 ⟨a8, rfl, W8, B8, E8⟩
  obtain rfl := E8.out (by omega)
  have G8 : Hid (w8.heap[w7.heap.size]? = some (.cells (row zs) 37 (0, 0))) := by
    obtain ⟨_, ⟨h0, _⟩ | ⟨g, e, h⟩⟩ := W8.out
    · cases h0
    · simp only [Option.some.injEq, Addr.mk.injEq] at e
      rw [e.1]; exact h
  have c8 : w8.cell? ⟨w7.heap.size, ((j - f) / 64).toNat, none⟩ = some (.int .u64 x) := by
    rw [cell_of G8.out, row_get _ _ (by have := HLZ.out; omega), HX.out]
  have f8 := unfrozen_of G8.out ((j - f) / 64).toNat
  have S8 : Hid (w8.heap[w5.heap.size]? = some (.cells (row (zs.set ((j - f) / 64).toNat (setBit x (j - f)))) 37 (0, 0))) := kept_block P7.out.block B8.out
  have B8' : Hid (Below w.heap.size w w8) := B7.out.trans (B8.out.mono B7.out.size)
  have L8 : Hid (w.heap.size ≤ w7.heap.size ∧ w5.heap.size < w7.heap.size) := ⟨B7.out.size, lt_of_block P7.out.block⟩
  go_wp2_with fail
  have P9 : Hid (Put w8 (w8.setCell ⟨w7.heap.size, ((j - f) / 64).toNat, none⟩ (.int .u64 (bits BinOp.andNot IntKind.u64 x (IntKind.u64.wrap (2 ^ ((j - f) % 64).toNat))))) w7.heap.size (.cells (row (zs.set ((j - f) / 64).toNat (clrBit x (j - f)))) 37 (0, 0))) := put_word _ _ G8.out
  generalize (w8.setCell ⟨w7.heap.size, ((j - f) / 64).toNat, none⟩ (.int .u64 (bits BinOp.andNot IntKind.u64 x (IntKind.u64.wrap (2 ^ ((j - f) % 64).toNat))))) = w9 at P9 ⊢
  have S9 : Hid (w9.heap[w5.heap.size]? = some (.cells (row (zs.set ((j - f) / 64).toNat (setBit x (j - f)))) 37 (0, 0))) := by
    show _ = _
    rw [P9.out.others _ (by have := L8.out.2; omega)]; exact S8.out
  have C9 : Hid (w9.heap[w7.heap.size]? = some (.cells (row (zs.set ((j - f) / 64).toNat (clrBit x (j - f)))) 37 (0, 0))) := P9.out.block
  have B9 : Hid (Below w.heap.size w w9) := P9.out.below B8'.out L8.out.1
  clear c8 f8 G8 W8 E8 B8 S8 B8' P7 P9 G17 L6 L8 B7
  refine (new_marks f t (some ⟨w5.heap.size, 0, none⟩) n n w9.heap.size w9 rfl).mono ?_
  rintro e w10 ⟨rfl, P10⟩
  go_wp2_with fail
  refine (new_marks f t (some ⟨w7.heap.size, 0, none⟩) n n w10.heap.size w10 rfl).mono ?_
  rintro e w11 ⟨rfl, P11⟩
  have S11 : Hid (Words w11 (some ⟨w5.heap.size, 0, none⟩) n (zs.set ((j - f) / 64).toNat (setBit x (j - f)))) :=
    ⟨by rw [List.length_set]; exact HZ.out, .inr ⟨_, rfl, kept_block (kept_block S9.out P10.out.below) P11.out.below⟩⟩
  have C11 : Hid (Words w11 (some ⟨w7.heap.size, 0, none⟩) n (zs.set ((j - f) / 64).toNat (clrBit x (j - f)))) :=
    ⟨by rw [List.length_set]; exact HZ.out, .inr ⟨_, rfl, kept_block (kept_block C9.out P10.out.below) P11.out.below⟩⟩
  have M11 : Hid (w11.heap[w9.heap.size]? = some (.cells (marks f t (some ⟨w5.heap.size, 0, none⟩) n n) 58 (0, 0))) := kept_block P10.out.block P11.out.below
  have N11 : Hid (w11.heap[w10.heap.size]? = some (.cells (marks f t (some ⟨w7.heap.size, 0, none⟩) n n) 58 (0, 0))) := P11.out.block
  have B11 : Hid (Below w.heap.size w w11) := (B9.out.trans (P10.out.below.mono B9.out.size)).trans (P11.out.below.mono (Nat.le_trans B9.out.size P10.out.below.size))
  clear S9 C9 B9 P10 P11
  go_wp2_with fail
  refine (look_any w9.heap.size n _ _ f t j w11 M11.out S11.out hf ht2 (by omega) true true HNS.out (inside_true h1 h2)).mono ?_
  rintro e w12 ⟨rfl, A12⟩
  have C12 : Hid (Words w12 (some ⟨w7.heap.size, 0, none⟩) n (zs.set ((j - f) / 64).toNat (clrBit x (j - f)))) := C11.out.kept A12.out.below
  have S12 : Hid (Words w12 (some ⟨w5.heap.size, 0, none⟩) n (zs.set ((j - f) / 64).toNat (setBit x (j - f)))) := S11.out.kept A12.out.below
  have M12 : Hid (w12.heap[w9.heap.size]? = some (.cells (marks f t (some ⟨w5.heap.size, 0, none⟩) n n) 58 (0, 0))) := kept_block M11.out A12.out.below
  have N12 : Hid (w12.heap[w10.heap.size]? = some (.cells (marks f t (some ⟨w7.heap.size, 0, none⟩) n n) 58 (0, 0))) := kept_block N11.out A12.out.below
  have B12 : Hid (Below w.heap.size w w12) := B11.out.trans (A12.out.below.mono B11.out.size)
  clear S11 C11 M11 N11 B11 A12
  go_wp2_with fail
  refine (look_any w10.heap.size n _ _ f t j w12 N12.out C12.out hf ht2 (by omega) false true HNC.out (inside_true h1 h2)).mono ?_
  rintro e w13 ⟨rfl, A13⟩
  have C13 : Hid (Words w13 (some ⟨w7.heap.size, 0, none⟩) n (zs.set ((j - f) / 64).toNat (clrBit x (j - f)))) := C12.out.kept A13.out.below
  have S13 : Hid (Words w13 (some ⟨w5.heap.size, 0, none⟩) n (zs.set ((j - f) / 64).toNat (setBit x (j - f)))) := S12.out.kept A13.out.below
  have M13 : Hid (w13.heap[w9.heap.size]? = some (.cells (marks f t (some ⟨w5.heap.size, 0, none⟩) n n) 58 (0, 0))) := kept_block M12.out A13.out.below
  have N13 : Hid (w13.heap[w10.heap.size]? = some (.cells (marks f t (some ⟨w7.heap.size, 0, none⟩) n n) 58 (0, 0))) := kept_block N12.out A13.out.below
  have B13 : Hid (Below w.heap.size w w13) := B12.out.trans (A13.out.below.mono B12.out.size)
  clear S12 C12 M12 N12 B12 A13
  go_wp2_with fail
  refine (look_any w9.heap.size n _ _ f t i w13 M13.out S13.out hf ht2 (by omega) sb _ HAS.out HI.out).mono ?_
  rintro e w14 ⟨rfl, A14⟩
  have C14 : Hid (Words w14 (some ⟨w7.heap.size, 0, none⟩) n (zs.set ((j - f) / 64).toNat (clrBit x (j - f)))) := C13.out.kept A14.out.below
  have N14 : Hid (w14.heap[w10.heap.size]? = some (.cells (marks f t (some ⟨w7.heap.size, 0, none⟩) n n) 58 (0, 0))) := kept_block N13.out A14.out.below
  have B14 : Hid (Below w.heap.size w w14) := B13.out.trans (A14.out.below.mono B13.out.size)
  clear S13 C13 M13 N13 B13 A14
  go_wp2_with fail
  refine (look_any w10.heap.size n _ _ f t i w14 N14.out C14.out hf ht2 (by omega) cb _ HAC.out HI.out).mono ?_
  rintro e w15 ⟨rfl, A15⟩
  have B15 : Hid (Below w.heap.size w w15) := B14.out.trans (A15.out.below.mono B14.out.size)
  clear C14 N14 B14 A15 HAS HAC HB HB2 HNS HNC HX HLZ HI)
  · -- the other offset lies ahead of the stretch
    obtain rfl : sb = false := HIN.out (by first | trivial | rfl)
    have hne : i ≠ j := by have := of_decide_eq_false hio; omega
    obtain rfl : false = cb := HNE.out hne
    clear HIN HNE
    have hne2 : (i != j) = true := by simpa using hne
    clear hne
    go_wp2
    go_ret
    exact ⟨rfl, B15.out⟩
  · have hfi : f ≤ i := of_decide_eq_true hio
    by_cases hit : i < t
    · by_cases hij : i = j
      · subst hij
        clear HIN HNE
        have hit2 : decide (i < t) = true := decide_eq_true hit
        cases sb
        all_goals
          go_wp2
          go_ret
          exact ⟨rfl, B15.out⟩
      · obtain rfl : sb = cb := HNE.out hij
        clear HIN HNE
        have hne2 : (i != j) = true := by simpa using hij
        have hit2 : decide (i < t) = true := decide_eq_true hit
        clear hij
        cases sb
        all_goals
          go_wp2
          go_ret
          exact ⟨rfl, B15.out⟩
    · have hit2 : decide (i < t) = false := decide_eq_false hit
      obtain rfl : sb = false := HIN.out hit2
      have hne : i ≠ j := by omega
      obtain rfl : false = cb := HNE.out hne
      clear HIN HNE
      have hne2 : (i != j) = true := by simpa using hne
      clear hne
      go_wp2
      go_ret
      exact ⟨rfl, B15.out⟩

set_option maxRecDepth 100000 in
set_option maxHeartbeats 2000000 in
/-- The offset lies in the stretch, behind the last word. -/
theorem core_short (f t : Int) (a : Option Addr) (n c : Nat) (zs : List Int) (j i : Int) (w : World) (hg : Given w a n c zs) (hn : n ≤ 131072)
    (hf : 0 ≤ f) (ht : f ≤ t) (ht2 : t ≤ 9223372036854775807) (h1 : f ≤ j) (h2 : j < t) (hlt : (n : Int) ≤ (j - f) / 64) (io : Bool) (hio : decide (f ≤ i) = io) :
    Calls Try.prog 5 #[.int .i64 f, .int .i64 t, .slice a n c, .int .i64 j, .int .i64 i] w fun e w' => e = .returned (.bool true) ∧ Below w.heap.size w w' := by
  have hd : 0 ≤ j - f := by omega
  have hd2 : 0 ≤ (j - f) / 64 := by omega
  have HB : Hid (named f t zs j = false) := by
    show named f t zs j = false
    unfold named
    rw [hg.1, decide_eq_false (by omega), Bool.false_and, Bool.and_false]
  have HG : Hid (Given w a n c zs) := hg
  clear hg
  cases io
  all_goals
    go_enter Try.func5, Try.ntmps5
    go_wp2_with (go_at_call 15; go_in)
    refine (clone_arg a n c zs w (by omega) HG.out).mono ?_
    rintro e w1 ⟨a1, rfl, W1, B1⟩
    go_wp2_with fail
    refine (clone_any _ n zs w1 (by omega) W1.out).mono ?_
    rintro e w2 ⟨a2, rfl, W2, B2, _⟩
    go_wp2_with fail
    refine (new_marks f t a2 n n w2.heap.size w2 rfl).mono ?_
    rintro e w3 ⟨rfl, P3⟩
    have W23 : Hid (Words w3 a2 n zs) := W2.out.kept P3.out.below
    go_wp2_with fail
    refine (look_any w2.heap.size n a2 zs f t j w3 P3.out.block W23.out hf ht2 (by omega) false true HB.out (inside_true h1 h2)).mono ?_
    rintro e w4 ⟨rfl, A4⟩
    have B4 : Hid (Below w.heap.size w w4) := by
      have s1 := B1.out.size
      have s2 := B2.out.size
      have s3 := P3.out.below.size
      exact ((B1.out.trans (B2.out.mono s1)).trans (P3.out.below.mono (by omega))).trans (A4.out.below.mono (by omega))
    clear B1 B2 P3 W2 W23 W1 A4 HG
    go_wp2
    go_ret
    exact ⟨rfl, B4.out⟩

set_option maxRecDepth 100000 in
set_option maxHeartbeats 2000000 in
/-- The offset lies outside the stretch. -/
theorem core_out (f t : Int) (a : Option Addr) (n c : Nat) (zs : List Int) (j i : Int) (w : World) (hg : Given w a n c zs) (hn : n ≤ 131072)
    (hf : 0 ≤ f) (ht : f ≤ t) (ht2 : t ≤ 9223372036854775807) (jo : Bool) (hjo : decide (f ≤ j) = jo) (hjq : (jo && decide (j < t)) = false) (io : Bool) (hio : decide (f ≤ i) = io) (iq : Bool) (hiq : (io && decide (i < t)) = iq) :
    Calls Try.prog 5 #[.int .i64 f, .int .i64 t, .slice a n c, .int .i64 j, .int .i64 i] w fun e w' => e = .returned (.bool true) ∧ Below w.heap.size w w' := by
  have HJ : Hid (inside f t j = false) := by
    show inside f t j = false
    unfold inside
    rw [hjo, hjq]
  have HI : Hid (inside f t i = iq) := by
    show inside f t i = iq
    unfold inside
    rw [hio, hiq]
  obtain ⟨b1, hb1⟩ : ∃ b1, named f t zs i = b1 := ⟨_, rfl⟩
  have HB : Hid (named f t zs i = b1) := hb1
  have HBI : Hid (iq = false → b1 = false) := by
    show iq = false → b1 = false
    intro h
    rw [← hb1]
    exact named_inside (by rw [HI.out, h])
  clear hb1
  have HG : Hid (Given w a n c zs) := hg
  clear hg
  cases io <;> cases jo
  all_goals (
    simp only [Bool.false_and, Bool.true_and] at hiq hjq
    try subst hiq
    go_enter Try.func5, Try.ntmps5
    go_wp2_with (go_at_call 15; go_in)
    refine (clone_arg a n c zs w (by omega) HG.out).mono ?_
    rintro e w1 ⟨a1, rfl, W1, B1⟩
    go_wp2_with fail
    refine (clone_any _ n zs w1 (by omega) W1.out).mono ?_
    rintro e w2 ⟨a2, rfl, W2, B2, _⟩
    go_wp2_with fail
    refine (new_marks f t a2 n n w2.heap.size w2 rfl).mono ?_
    rintro e w3 ⟨rfl, P3⟩
    have W23 : Hid (Words w3 a2 n zs) := W2.out.kept P3.out.below
    go_wp2_with fail
    refine (look_any w2.heap.size n a2 zs f t j w3 P3.out.block W23.out hf ht2 (by omega) false false (named_inside HJ.out) HJ.out).mono ?_
    rintro e w4 ⟨rfl, A4⟩
    have W24 : Hid (Words w4 a2 n zs) := W23.out.kept A4.out.below
    have M4 : Hid (w4.heap[w2.heap.size]? = some (.cells (marks f t a2 n n) 58 (0, 0))) := kept_block P3.out.block A4.out.below
    have B4 : Hid (Below w.heap.size w w4) := by
      have s1 := B1.out.size
      have s2 := B2.out.size
      have s3 := P3.out.below.size
      exact ((B1.out.trans (B2.out.mono s1)).trans (P3.out.below.mono (by omega))).trans (A4.out.below.mono (by omega))
    clear B1 B2 P3 W2 W23 W1 A4 HG
    go_wp2_with fail
    refine (look_any w2.heap.size n a2 zs f t i w4 M4.out W24.out hf ht2 (by omega) b1 _ HB.out HI.out).mono ?_
    rintro e w5 ⟨rfl, A5⟩
    have B5 : Hid (Below w.heap.size w w5) := B4.out.trans (A5.out.below.mono B4.out.size)
    clear W24 M4 B4 A5 HB HI HJ)
  · obtain rfl : b1 = false := HBI.out (by first | trivial | rfl)
    clear HBI
    go_wp2
    go_ret
    exact ⟨rfl, B5.out⟩
  · obtain rfl : b1 = false := HBI.out (by first | trivial | rfl)
    clear HBI
    go_wp2
    go_ret
    exact ⟨rfl, B5.out⟩
  all_goals
    by_cases hit : i < t
    · have hit2 : decide (i < t) = true := decide_eq_true hit
      clear HBI
      cases b1
      all_goals
        go_wp2
        go_ret
        exact ⟨rfl, B5.out⟩
    · have hit2 : decide (i < t) = false := decide_eq_false hit
      obtain rfl : b1 = false := HBI.out hit2
      clear HBI
      go_wp2
      go_ret
      exact ⟨rfl, B5.out⟩

set_option maxRecDepth 100000 in
set_option maxHeartbeats 2000000 in
theorem early (f t : Int) (a : Option Addr) (n c : Nat) (j i : Int) (w : World) (hm : n ≤ 9223372036854775807)
    (h : 131072 < n ∨ f < 0 ∨ t < f) :
    Calls Try.prog 5 #[.int .i64 f, .int .i64 t, .slice a n c, .int .i64 j, .int .i64 i] w fun e w' => e = .returned (.bool true) ∧ Below w.heap.size w w' := by
  by_cases h1 : 131072 < n
  · clear h
    go_enter Try.func5, Try.ntmps5
    go_wp2
    all_goals (go_ret; exact ⟨rfl, Below.refl _ _⟩)
  by_cases h2 : f < 0
  · clear h
    go_enter Try.func5, Try.ntmps5
    go_wp2
    all_goals (go_ret; exact ⟨rfl, Below.refl _ _⟩)
  have h3 : t < f := by omega
  clear h
  go_enter Try.func5, Try.ntmps5
  go_wp2
  all_goals (go_ret; exact ⟨rfl, Below.refl _ _⟩)
end Go.Proofs.Qxb6608752a.fnObjectMarksLookupFlip
