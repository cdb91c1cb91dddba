/-
  'Rows.FnBoundLiftNestedPairRestoresFreeReadingCardSaid' PROVED: the row, then the tied card. The walk is this seat's own, over the contracts of Qxb6608773aDoorReads, ReadUp, Bounds, Clone, Laid; the frame follows the guide's worked examples (the slice law's shell; a row that lists a variable; a tied card).
-/
import Derived.Test.Qxb6608773aDoorNestedPairWalks
import Derived.Test.Qxb6608773aDoorTie
import Derived.Test.Qxb6608773aDoorCards
import Derived.SevenTiedAt
namespace Go.Proofs.Qxb6608773aDoor.fnBoundLiftNestedPairRestoresFreeReading
open Go.ChangeShapes Go.WideShapes Go.ChangeAt Go.RowKit Go.Proofs.Qxb6608773aDoor.Hess
set_option linter.unusedVariables false


theorem early (a : Option Addr) (n c : Nat) (ou q k k2 : Int) (w : World) (hm : n ≤ 9223372036854775807) (h : 1048576 < n) :
    Calls Tryd.prog 6 #[.slice a n c, .int .i64 ou, .int .i64 q, .int .i64 k, .int .i64 k2] w fun e w' => e = .returned (.bool true) ∧ Below w.heap.size w w' := by
  go_enter Tryd.func6, Tryd.ntmps6
  go_wp2
  all_goals (go_ret; exact ⟨rfl, Below.refl _ _⟩)

theorem walk (a0 : Option Addr) (len0 cap0 : Nat) (z0 : List Int) (a1 a2 a3 a4 : Int) (u : TypeId) (x : Value) (w : World) (w0 : IsRow .u8 w a0 len0 cap0 z0) (w1 : (Lit.int .i64 a1).wf = true) (w2 : (Lit.int .i64 a2).wf = true) (w3 : (Lit.int .i64 a3).wf = true) (w4 : (Lit.int .i64 a4).wf = true) (he : Eof w u x) :
    Calls Tryd.prog 6 #[.slice a0 len0 cap0, .int .i64 a1, .int .i64 a2, .int .i64 a3, .int .i64 a4] w fun e w' => e = .returned (.bool true) ∧ Below w.heap.size w w' := by
  obtain ⟨hm, hg⟩ := given_of w0
  unfold maxLen at hm
  have b1 := bounds_i64 w1
  have b2 := bounds_i64 w2
  have b3 := bounds_i64 w3
  have b4 := bounds_i64 w4
  by_cases h : 1048576 < len0
  · exact early a0 len0 cap0 a1 a2 a3 a4 w (by omega) h
  obtain ⟨O, hO⟩ : ∃ O, (if a1 < 0 then 0 else a1) = O := ⟨_, rfl⟩
  obtain ⟨Q, hQ⟩ : ∃ Q, (if a2 < 0 then 0 else a2) = Q := ⟨_, rfl⟩
  obtain ⟨K, hK⟩ : ∃ K, (if a3 < 0 then 0 else a3) = K := ⟨_, rfl⟩
  obtain ⟨K2, hK2⟩ : ∃ K2, (if a4 < 0 then 0 else a4) = K2 := ⟨_, rfl⟩
  have o0 : 0 ≤ O := by rw [← hO]; split <;> omega
  have q0 : 0 ≤ Q := by rw [← hQ]; split <;> omega
  have k0 : 0 ≤ K := by rw [← hK]; split <;> omega
  have j0 : 0 ≤ K2 := by rw [← hK2]; split <;> omega
  obtain ⟨I, hI⟩ : ∃ I, (if O < Q then O else Q) = I := ⟨_, rfl⟩
  have i0 : 0 ≤ I ∧ I ≤ O := by rw [← hI]; split <;> omega
  obtain ⟨M, hM⟩ : ∃ M, (if I < K then I else K) = M := ⟨_, rfl⟩
  have m0 : 0 ≤ M ∧ M ≤ I := by rw [← hM]; split <;> omega
  obtain ⟨T, hT⟩ := Int.eq_ofNat_of_zero_le (show 0 ≤ (if (len0 : Int) < M then (len0 : Int) else M) by split <;> omega)
  have t0 : (T : Int) ≤ M ∧ (T : Int) ≤ (len0 : Int) := by rw [← hT]; split <;> omega
  obtain ⟨M2, hM2⟩ : ∃ M2, (if O - (T : Int) < K2 then O - (T : Int) else K2) = M2 := ⟨_, rfl⟩
  have m1 : 0 ≤ M2 := by rw [← hM2]; split <;> omega
  obtain ⟨T2, hT2⟩ := Int.eq_ofNat_of_zero_le (show 0 ≤ (if (len0 : Int) - (T : Int) < M2 then (len0 : Int) - (T : Int) else M2) by split <;> omega)
  exact core a0 len0 cap0 a1 a2 a3 a4 (z0.take len0) u x w hg (by omega) he b1.2 b2.2 b3.2 b4.2 O Q K I M K2 M2 T T2 hO hQ hI hK hM hT hK2 hM2 hT2


/-! ### The row -/
set_option maxRecDepth 100000 in
theorem lifted (os : Os) (started : os.Started) (H : Type) (enc : TypeId × Value → H) :
    ReturnsInHanded {} Tryd.checked os 6 .any (fun w args => (Rows.fnBoundLiftNestedPairRestoresFreeReadingSpec.pre enc Tryd.prog Tryd.f6 [] false w args ∧ laidMetH Tryd.prog listed w) ∧ sizedMet enc Tryd.prog Tryd.f6 (OpenSpec.ofChange Rows.fnBoundLiftNestedPairRestoresFreeReadingSpec) false w args)
      (Rows.fnBoundLiftNestedPairRestoresFreeReadingSpec.post enc Tryd.prog Tryd.f6 false true false false) := by
  refine returnsInHanded_of_change_and (C := Tryd.checked) (X := fun w _ => laidMetH Tryd.prog listed w) (fun _ _ _ hh h => h.of_heap hh) own started (by kernel_rfl) Tryd.func6
    (ChangeSpec.witness_shaped (enc := enc) (C := Tryd.checked) (os := os) (X := fun w _ => laidMetH Tryd.prog listed w) false (World.doorLaid Tryd.prog 400 os) #[.slice none 0 0, .int .i64 0, .int .i64 0, .int .i64 0, .int .i64 0] 8 rfl (World.shaped_of_RefB (by kernel_rfl) (by kernel_rfl)) (by kernel_rfl) (by kernel_rfl) (by kernel_rfl) (door_met os _)) ?_
  intro W base args ds gs before hval0 hW _ _ hL _
  have hval : ∀ (j : Nat) t v, Tryd.f6.params[j]? = some t → args[j]? = some v → Value.okWide Tryd.prog W .any base t v := hval0
  have hW' := hW
  obtain ⟨p, q, hA0, hV, rfl, hfz, hnd⟩ := hW
  have hA : DataW.TrodAll enc Tryd.prog W 0 (fun _ => true) true Tryd.f6.params.toList args.toList ds p := hA0
  rw [Tryd.params6] at hA hval
  obtain ⟨v0, vs0, d0, ds0, p0, q0, hargs, rfl, rfl, h0, r0⟩ := trodAll_cons hA
  obtain ⟨v1, vs1, d1, ds1, p1, q1, rfl, rfl, rfl, h1, r1⟩ := trodAll_cons r0
  obtain ⟨v2, vs2, d2, ds2, p2, q2, rfl, rfl, rfl, h2, r2⟩ := trodAll_cons r1
  obtain ⟨v3, vs3, d3, ds3, p3, q3, rfl, rfl, rfl, h3, r3⟩ := trodAll_cons r2
  obtain ⟨v4, vs4, d4, ds4, p4, q4, rfl, rfl, rfl, h4, r4⟩ := trodAll_cons r3
  obtain ⟨rfl, rfl, rfl⟩ := trodAll_nil r4
  obtain rfl : args = #[v0, v1, v2, v3, v4] := by cases args; simp_all
  obtain ⟨rfl, rfl⟩ := trodVars_none hV
  obtain ⟨a0, len0, cap0, rfl⟩ := okWide_slice Tryd.underlying22 (hval 0 22 v0 rfl rfl)
  have k0 := h0
  have lt0 : ∀ x ∈ p0, x.block < W.heap.size := by obtain ⟨m, hm⟩ := k0; exact DataW.trod_lt m _ _ _ hm
  obtain ⟨z0, w0⟩ := row_of h0
  obtain ⟨a1, rfl, rfl, rfl, w1⟩ := open_int Tryd.underlying3 (hval 1 3 v1 rfl rfl) h1
  obtain ⟨a2, rfl, rfl, rfl, w2⟩ := open_int Tryd.underlying3 (hval 2 3 v2 rfl rfl) h2
  obtain ⟨a3, rfl, rfl, rfl, w3⟩ := open_int Tryd.underlying3 (hval 3 3 v3 rfl rfl) h3
  obtain ⟨a4, rfl, rfl, rfl, w4⟩ := open_int Tryd.underlying3 (hval 4 3 v4 rfl rfl) h4
  obtain ⟨u, x, he⟩ := eof_of_laid hL
  clear hA0 hval0
  refine (walk a0 len0 cap0 z0 a1 a2 a3 a4 u x W w0 w1 w2 w3 w4 he).mono fun e W' ⟨he', bel⟩ => ?_
  subst he'
  exact ⟨_, rfl, _, _, _, [], _, [], hW', trodAll_mk1 (shut_bool Tryd.underlying4 _), (trodAll_cons_mk (Below.trod laidOut (by kernel_rfl) (of_decide_eq_true (by kernel_rfl)) k0 bel lt0) (trodAll_cons_mk (shut_int Tryd.underlying3 w1) (trodAll_cons_mk (shut_int Tryd.underlying3 w2) (trodAll_cons_mk (shut_int Tryd.underlying3 w3) (trodAll_cons_mk (shut_int Tryd.underlying3 w4) trodAll_mk0))))), rfl, bel.frame _, fun h => by cases h⟩

theorem holds : Rows.FnBoundLiftNestedPairRestoresFreeReadingSaid :=
  OpenClaim.holds_of_wide 6 Tryd.f6 rfl rfl rfl rfl rfl rfl rfl ⟨rfl, rfl, rfl, rfl, rfl⟩ rfl rfl rfl rfl rfl (by kernel_rfl) Tryd.func6 (by kernel_rfl)
    (of_decide_eq_true (by kernel_rfl)) (by unfold Func.isWrapper; first | (rw [if_pos (by decide +kernel)]; kernel_rfl) | (rw [if_neg (by decide +kernel)]; exact ⟨rfl, rfl⟩))
    (fun os started H enc _ => lifted os started H enc)

/-- ████ THE STATEMENT: THE TIED CARD ████ -/
theorem proved : Rows.FnBoundLiftNestedPairRestoresFreeReadingCardSaid :=
  Claim7.holds_tied_plain_at .later [] [.sentinel] true Rows.fnBoundLiftNestedPairRestoresFreeReadingCard.stood.harness false
    holds (fun _ h => by cases h) (by kernel_rfl) (fun _ h => by cases h) fnBoundLiftNestedPairRestoresFreeReading_row_tie rfl ⟨rfl, rfl⟩ (by kernel_rfl) rfl
    (fun f fn hf hfn => by
      obtain rfl : f = 6 := Option.some.inj ((show Tryd.prog.funcNamed Rows.fnBoundLiftNestedPairRestoresFreeReadingRow.func = some 6 by kernel_rfl).symm.trans hf) |>.symm
      obtain rfl : fn = Tryd.f6 := (Option.some.inj (Tryd.func6.symm.trans hfn)).symm
      exact ⟨by kernel_rfl, fun j t ht => by
        rw [Tryd.params6] at ht
        have hm : t ∈ [22, 3, 3, 3, 3] := by simpa using Array.mem_of_getElem? ht
        have hall : ([22, 3, 3, 3, 3].all fun u => !Tryd.prog.wantsStandIn u) = true := by kernel_rfl
        exact (show Tryd.prog.wantsStandIn t = false by simpa using List.all_eq_true.1 hall t hm)⟩)
    (by kernel_rfl)
#print axioms proved
end Go.Proofs.Qxb6608773aDoor.fnBoundLiftNestedPairRestoresFreeReading
