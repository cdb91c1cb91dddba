/-
  'Rows.FnObjectMarksLookupShiftSaid' PROVED. The frame (from 'lifted' on) is the seat's shell, written by program; the walk is this seat's own, over the contracts of Qxb6608752aMarks.lean.
-/
import Derived.Test.Qxb6608752aMarks
namespace Go.Proofs.Qxb6608752a.fnObjectMarksLookupShift
open Go.ChangeShapes Go.WideShapes Go.ChangeAt Go.RowKit Go.Proofs.Qxb6608752a.Marks
open Go.ChangeMaps (open_string shut_string)
set_option linter.unusedVariables false

theorem own : ownKnob Try.prog.godebug = none := by kernel_rfl
theorem laidOut : laidOutB Try.prog = true := by kernel_rfl

/-- WHAT THE WALK IS TOLD OF A SLICE OF INTEGERS THAT CAME IN: it is nil; or it leads to a row of 'cap' cells, the numbers 'zs' (the first 'len' are its elements, the rest its spare room), each fitting its kind. -/
def IsRow (k : IntKind) (w : World) (a : Option Addr) (len cap : Nat) (zs : List Int) : Prop :=
  (a = none ∧ len = 0 ∧ cap = 0 ∧ zs = []) ∨
  ∃ x, a = some x ∧ len ≤ cap ∧ cap ≤ maxLen ∧ zs.length = cap ∧ (∀ i, i < zs.length → w.cell? (x.add i) = some (.int k (zs.getD i 0))) ∧ ∀ n ∈ zs, (Lit.int k n).wf = true


/-- From the frame's word on the slice to the contracts'. -/
theorem given_of {w : World} {a : Option Addr} {n c : Nat} {zs : List Int} (h : IsRow .u64 w a n c zs) : n ≤ maxLen ∧ Given w a n c (zs.take n) := by
  rcases h with ⟨rfl, rfl, rfl, rfl⟩ | ⟨x, rfl, hl, hm, hz, hc, _⟩
  · exact ⟨Nat.zero_le _, rfl, .inl ⟨rfl, rfl, rfl⟩⟩
  · refine ⟨Nat.le_trans hl hm, by simp; omega, .inr ⟨x, rfl, fun i hi => ?_⟩⟩
    rw [hc i (by omega)]
    simp [List.getD, hi]

theorem bounds {x : Int} (h : (Lit.int .i64 x).wf = true) : -9223372036854775808 ≤ x ∧ x ≤ 9223372036854775807 := bounds_i64 h

theorem inside_shift (f t j k : Int) : inside (f + k) (t + k) (j + k) = inside f t j := by
  unfold inside
  congr 1 <;> (rw [decide_eq_decide]; omega)
theorem named_shift (f t j k : Int) (zs : List Int) : named (f + k) (t + k) zs (j + k) = named f t zs j := by
  unfold named
  rw [inside_shift, show j + k - (f + k) = j - f from by omega]

set_option maxHeartbeats 1000000 in
theorem core (f t : Int) (a : Option Addr) (n c : Nat) (zs : List Int) (j k : Int) (w : World) (hg : Given w a n c zs) (hn : n ≤ 131072)
    (hf : 0 ≤ f) (ht : f ≤ t) (hk : 0 ≤ k) (hk2 : k ≤ 9223372036854775807 - t) (hj : j ≤ 9223372036854775807 - k) (hj2 : -9223372036854775808 ≤ j) (ht2 : t ≤ 9223372036854775807) :
    Calls Try.prog 6 #[.int .i64 f, .int .i64 t, .slice a n c, .int .i64 j, .int .i64 k] w fun e w' => e = .returned (.bool true) ∧ Below w.heap.size w w' := by
  go_enter Try.func6, Try.ntmps6
  go_wp2_with (go_at_call 19; go_in)
  refine (clone_arg a n c zs w (by omega) hg).mono ?_
  rintro e w1 ⟨a1, rfl, W1, B1⟩
  go_wp2_with fail
  refine (clone_any a1 n zs w1 (by omega) W1.out).mono ?_
  rintro e w2 ⟨a2, rfl, W2, B2, _⟩
  go_wp2_with fail
  refine (new_marks f t a2 n n w2.heap.size w2 rfl).mono ?_
  rintro e w3 ⟨rfl, P3⟩
  have W13 : Hid (Words w3 a1 n zs) := (W1.out.kept B2.out).kept P3.out.below
  go_wp2_with fail
  refine (clone_any a1 n zs w3 (by omega) W13.out).mono ?_
  rintro e w4 ⟨a4, rfl, W4, B4, _⟩
  go_wp2_with fail
  refine (new_marks (f + k) (t + k) a4 n n w4.heap.size w4 rfl).mono ?_
  rintro e w5 ⟨rfl, P5⟩
  have m5 : Hid (w5.heap[w2.heap.size]? = some (.cells (marks f t a2 n n) 58 (0, 0))) := kept_block (kept_block P3.out.block B4.out) P5.out.below
  have W25 : Hid (Words w5 a2 n zs) := ((W2.out.kept P3.out.below).kept B4.out).kept P5.out.below
  have W45 : Hid (Words w5 a4 n zs) := W4.out.kept P5.out.below
  obtain ⟨b, hb⟩ : ∃ b, named f t zs j = b := ⟨_, rfl⟩
  obtain ⟨ok, hok⟩ : ∃ ok, inside f t j = ok := ⟨_, rfl⟩
  have HB : Hid (named f t zs j = b) := hb
  have HO : Hid (inside f t j = ok) := hok
  clear hb hok
  go_wp2_with fail
  refine (look_any w2.heap.size n a2 zs f t j w5 m5.out W25.out hf ht2 (by omega) b ok HB.out HO.out).mono ?_
  rintro e w6 ⟨rfl, A6⟩
  have m6 : Hid (w6.heap[w4.heap.size]? = some (.cells (marks (f + k) (t + k) a4 n n) 58 (0, 0))) := kept_block P5.out.block A6.out.below
  have W46 : Hid (Words w6 a4 n zs) := W45.out.kept A6.out.below
  go_wp2_with fail
  refine (look_any w4.heap.size n a4 zs (f + k) (t + k) (j + k) w6 m6.out W46.out (by omega) (by omega) (by omega) b ok (by rw [named_shift]; exact HB.out) (by rw [inside_shift]; exact HO.out)).mono ?_
  rintro e w7 ⟨rfl, A7⟩
  have BB : Hid (Below w.heap.size w w7) := by
    have s1 := B1.out.size
    have s2 := B2.out.size
    have s3 := P3.out.below.size
    have s4 := B4.out.size
    have s5 := P5.out.below.size
    have s6 := A6.out.below.size
    exact (((((B1.out.trans (B2.out.mono s1)).trans (P3.out.below.mono (by omega))).trans (B4.out.mono (by omega))).trans (P5.out.below.mono (by omega))).trans (A6.out.below.mono (by omega))).trans (A7.out.below.mono (by omega))
  clear B1 B2 P3 B4 P5 m5 m6 W1 W2 W13 W4 W25 W45 W46 A6 A7 hg
  by_cases h1 : f ≤ j
  · by_cases h2 : j < t
    · have ho := HO.out
      rw [inside_true h1 h2] at ho
      subst ho
      clear HO HB
      cases b
      all_goals
        go_wp2
        go_ret
        exact ⟨rfl, BB.out⟩
    · have hd : decide (j < t) = false := decide_eq_false h2
      have ho := HO.out
      rw [inside_false (.inr (by omega))] at ho
      have hb := HB.out
      unfold named at hb
      rw [inside_false (.inr (by omega))] at hb
      subst ho
      simp only [Bool.false_and] at hb
      subst hb
      clear HO HB
      go_wp2
      go_ret
      exact ⟨rfl, BB.out⟩
  · have ho := HO.out
    rw [inside_false (.inl (by omega))] at ho
    have hb := HB.out
    unfold named at hb
    rw [inside_false (.inl (by omega))] at hb
    subst ho
    simp only [Bool.false_and] at hb
    subst hb
    clear HO HB
    go_wp2
    go_ret
    exact ⟨rfl, BB.out⟩

theorem early (f t : Int) (a : Option Addr) (n c : Nat) (j k : Int) (w : World) (hm : n ≤ 9223372036854775807) (hk3 : k ≤ 9223372036854775807) (ht2 : t ≤ 9223372036854775807)
    (h : 131072 < n ∨ f < 0 ∨ t < f ∨ k < 0 ∨ 9223372036854775807 - t < k ∨ 9223372036854775807 - k < j) :
    Calls Try.prog 6 #[.int .i64 f, .int .i64 t, .slice a n c, .int .i64 j, .int .i64 k] w fun e w' => e = .returned (.bool true) ∧ Below w.heap.size w w' := by
  by_cases h1 : 131072 < n
  · clear h
    go_enter Try.func6, Try.ntmps6
    go_wp2
    all_goals (go_ret; exact ⟨rfl, Below.refl _ _⟩)
  by_cases h2 : f < 0
  · clear h
    go_enter Try.func6, Try.ntmps6
    go_wp2
    all_goals (go_ret; exact ⟨rfl, Below.refl _ _⟩)
  by_cases h3 : t < f
  · clear h
    go_enter Try.func6, Try.ntmps6
    go_wp2
    all_goals (go_ret; exact ⟨rfl, Below.refl _ _⟩)
  by_cases h4 : k < 0
  · clear h
    go_enter Try.func6, Try.ntmps6
    go_wp2
    all_goals (go_ret; exact ⟨rfl, Below.refl _ _⟩)
  by_cases h5 : 9223372036854775807 - t < k
  · clear h
    go_enter Try.func6, Try.ntmps6
    go_wp2
    all_goals (go_ret; exact ⟨rfl, Below.refl _ _⟩)
  have h6 : 9223372036854775807 - k < j := by omega
  clear h
  go_enter Try.func6, Try.ntmps6
  go_wp2
  all_goals (go_ret; exact ⟨rfl, Below.refl _ _⟩)

theorem walk (a0 : Int) (a1 : Int) (a2 : Option Addr) (len2 cap2 : Nat) (z2 : List Int) (a3 : Int) (a4 : Int) (w : World) (w0 : (Lit.int .i64 a0).wf = true) (w1 : (Lit.int .i64 a1).wf = true) (w2 : IsRow .u64 w a2 len2 cap2 z2) (w3 : (Lit.int .i64 a3).wf = true) (w4 : (Lit.int .i64 a4).wf = true) :
    Calls Try.prog 6 #[.int .i64 a0, .int .i64 a1, .slice a2 len2 cap2, .int .i64 a3, .int .i64 a4] w fun e w' => e = .returned (.bool true) ∧ Below w.heap.size w w' := by
  obtain ⟨hm, hg⟩ := given_of w2
  unfold maxLen at hm
  have b0 := bounds w0
  have b1 := bounds w1
  have b3 := bounds w3
  have b4 := bounds w4
  by_cases h : 131072 < len2 ∨ a0 < 0 ∨ a1 < a0 ∨ a4 < 0 ∨ 9223372036854775807 - a1 < a4 ∨ 9223372036854775807 - a4 < a3
  · exact early a0 a1 a2 len2 cap2 a3 a4 w (by omega) b4.2 b1.2 h
  · exact core a0 a1 a2 len2 cap2 (z2.take len2) a3 a4 w hg (by omega) (by omega) (by omega) (by omega) (by omega) (by omega) b3.1 b1.2

/-! ### THE ROW's STEP: WRITTEN OUT: LEAVE IT -/
set_option maxRecDepth 100000 in
theorem lifted (os : Os) (started : os.Started) (H : Type) (enc : TypeId × Value → H) :
    ReturnsInHanded {} Try.checked os 6 .any (Rows.fnObjectMarksLookupShiftSpec.pre6 enc Try.prog Try.f6 Rows.fnObjectMarksLookupShiftRow.domain false) (Rows.fnObjectMarksLookupShiftSpec.post enc Try.prog Try.f6 false true false false) := by
  refine returnsInHanded_of_change (C := Try.checked) own started (by kernel_rfl) Try.func6
    (ChangeSpec.witness6 (enc := enc) (C := Try.checked) false ⟨#[], #[.int .i64 0, .int .i64 0, .slice none 0 0, .int .i64 0, .int .i64 0], []⟩ 8 (by kernel_rfl) (by kernel_rfl) (by kernel_rfl) (by kernel_rfl)) ?_
  intro W base args ds gs before hval0 hW hcnd _
  have hval : ∀ (j : Nat) t v, Try.f6.params[j]? = some t → args[j]? = some v → Value.okWide Try.prog W .any base t v := hval0
  have hW' := hW
  obtain ⟨p, q, hA0, hV, rfl, hfz, hnd⟩ := hW
  have hA : DataW.TrodAll enc Try.prog W 0 (fun _ => true) true Try.f6.params.toList args.toList ds p := hA0
  rw [Try.params6] at hA hval
  obtain ⟨v0, vs0, d0, ds0, p0, q0, hargs, rfl, rfl, h0, r0⟩ := trodAll_cons hA
  obtain ⟨v1, vs1, d1, ds1, p1, q1, rfl, rfl, rfl, h1, r1⟩ := trodAll_cons r0
  obtain ⟨v2, vs2, d2, ds2, p2, q2, rfl, rfl, rfl, h2, r2⟩ := trodAll_cons r1
  obtain ⟨v3, vs3, d3, ds3, p3, q3, rfl, rfl, rfl, h3, r3⟩ := trodAll_cons r2
  obtain ⟨v4, vs4, d4, ds4, p4, q4, rfl, rfl, rfl, h4, r4⟩ := trodAll_cons r3
  obtain ⟨rfl, rfl, rfl⟩ := trodAll_nil r4
  obtain rfl : args = #[v0, v1, v2, v3, v4] := by cases args; simp_all
  obtain ⟨rfl, rfl⟩ := trodVars_none hV
  obtain ⟨a0, rfl, rfl, rfl, w0⟩ := open_int Try.underlying3 (hval 0 3 v0 rfl rfl) h0
  obtain ⟨a1, rfl, rfl, rfl, w1⟩ := open_int Try.underlying3 (hval 1 3 v1 rfl rfl) h1
  obtain ⟨a2, len2, cap2, rfl⟩ := okWide_slice Try.underlying30 (hval 2 30 v2 rfl rfl)
  have k2 := h2
  have lt2 : ∀ x ∈ p2, x.block < W.heap.size := by obtain ⟨m, hm⟩ := k2; exact DataW.trod_lt m _ _ _ hm
  obtain ⟨z2, w2⟩ : ∃ zs, IsRow .u64 W a2 len2 cap2 zs := by
    obtain ⟨fuel, hf⟩ := h2
    rcases open_ints Try.underlying30 Try.underlying37 (by kernel_rfl) hf with ⟨hcs, _⟩ | ⟨x, l, c, zs, hcs, _, hl, hm, hz, _, hcell, hwz⟩
    · simp [Value.cells] at hcs
      obtain ⟨rfl, rfl, rfl⟩ := hcs
      exact ⟨[], .inl ⟨rfl, rfl, rfl, rfl⟩⟩
    · simp [Value.cells] at hcs
      obtain ⟨rfl, rfl, rfl⟩ := hcs
      exact ⟨zs, .inr ⟨_, rfl, hl, hm, by simpa using hz, hcell, hwz⟩⟩
  obtain ⟨a3, rfl, rfl, rfl, w3⟩ := open_int Try.underlying3 (hval 3 3 v3 rfl rfl) h3
  obtain ⟨a4, rfl, rfl, rfl, w4⟩ := open_int Try.underlying3 (hval 4 3 v4 rfl rfl) h4
  clear hA0 hval0
  refine (walk a0 a1 a2 len2 cap2 z2 a3 a4 W w0 w1 w2 w3 w4).mono fun e W' ⟨he, bel⟩ => ?_
  subst he
  exact ⟨_, rfl, _, _, _, [], _, [], hW', trodAll_mk1 (shut_bool Try.underlying4 _), (trodAll_cons_mk (shut_int Try.underlying3 w0) (trodAll_cons_mk (shut_int Try.underlying3 w1) (trodAll_cons_mk (Below.trod laidOut (by kernel_rfl) (of_decide_eq_true (by kernel_rfl)) k2 bel lt2) (trodAll_cons_mk (shut_int Try.underlying3 w3) (trodAll_cons_mk (shut_int Try.underlying3 w4) trodAll_mk0))))), rfl, bel.frame _, fun h => by cases h⟩

theorem over : Rows.fnObjectMarksLookupShiftRow.holds Try.pinned (OpenSpec.ofChange Rows.fnObjectMarksLookupShiftSpec) :=
  OpenClaim.holds_of_wide 6 Try.f6 rfl rfl rfl rfl rfl rfl rfl ⟨rfl, rfl, rfl, rfl, rfl⟩ rfl rfl rfl rfl rfl (by kernel_rfl) Try.func6 (by kernel_rfl)
    (of_decide_eq_true (by kernel_rfl)) (by unfold Func.isWrapper; first | (rw [if_pos (by decide +kernel)]; kernel_rfl) | (rw [if_neg (by decide +kernel)]; exact ⟨rfl, rfl⟩))
    (fun os started H enc _ => lifted os started H enc)

/-- ████ THE STATEMENT ████ -/
theorem proved : Rows.FnObjectMarksLookupShiftSaid := over
#print axioms proved
end Go.Proofs.Qxb6608752a.fnObjectMarksLookupShift
