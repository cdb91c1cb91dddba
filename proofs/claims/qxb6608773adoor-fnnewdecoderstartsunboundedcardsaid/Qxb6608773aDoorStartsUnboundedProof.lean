/-
  'Rows.FnNewDecoderStartsUnboundedCardSaid' PROVED: the row, then the tied card. The walk is this seat's own, over the contracts of Qxb6608773aDoorReads, ReadUp, Bounds, Clone, Laid; the frame follows the guide's worked examples (the slice law's shell; a row that lists a variable; a tied card).
-/
import Derived.Test.Qxb6608773aDoorLaid
import Derived.Test.Qxb6608773aDoorTie
import Derived.Test.Qxb6608773aDoorCards
import Derived.SevenTiedAt
namespace Go.Proofs.Qxb6608773aDoor.fnNewDecoderStartsUnbounded
open Go.ChangeShapes Go.WideShapes Go.ChangeAt Go.RowKit Go.Proofs.Qxb6608773aDoor.Hess
set_option linter.unusedVariables false

set_option maxRecDepth 100000 in
set_option maxHeartbeats 2000000 in
theorem core (a : Option Addr) (n c : Nat) (q : Int) (zs : List Int) (u : TypeId) (x : Value) (w : World) (hg : Given w a n c zs) (hn : n ≤ 1048576) (he : Eof w u x) (hq : q ≤ 9223372036854775807) :
    Calls Tryd.prog 4 #[.slice a n c, .int .i64 q] w fun e w' => e = .returned (.bool true) ∧ Below w.heap.size w w' := by
  have HG : Hid (Given w a n c zs) := hg
  have HE : Hid (Eof w u x) := he
  clear hg he
  go_enter Tryd.func4, Tryd.ntmps4
  go_wp2_with (go_at_call 13; go_in)
  refine (clone_arg a n c zs w hn HG.out).mono ?_
  rintro e w1 ⟨a1, rfl, O1, B1⟩
  go_wp2_with fail
  refine (clone_own a1 n zs w1 hn O1.out).mono ?_
  rintro e w2 ⟨a2, rfl, O2, B2⟩
  go_wp2_with fail
  refine (new_dec a2 n w2).mono ?_
  rintro e w3 ⟨rfl, D3, N3⟩
  have L : Hid (Laid w w3 w2.heap.size a1 a2 n zs u x) := laid_of HE.out O1.out B1.out O2.out B2.out D3.out N3.out
  clear O1 B1 O2 B2 D3 N3 HG HE
  generalize w2.heap.size = D at L ⊢
  go_wp2_with (go_at_call 10; go_in)
  refine (bound_any D n 0 a2 false 0 q w3 L.out.dec (by simp)).mono ?_
  rintro e w4 ⟨rfl, D4, N4⟩
  have HN : Hid (0 ≠ D) := L.out.ne
  have Y : Hid (Bytes w4 D a2 n zs) := L.out.bytes.kept N4.out
  have Y2 : Hid (Bytes w4 D a1 n zs) := L.out.bytes2.kept N4.out
  have E4 : Hid (Eof w4 u x) := L.out.eof.kept N4.out L.out.ne
  have B4 : Hid (Below w.heap.size w w4) := N4.out.below L.out.below L.out.le L.out.lt
  have G4 : Hid (w.heap.size ≤ D ∧ w.heap.size ≤ w4.heap.size) := ⟨L.out.le, Nat.le_trans L.out.lt N4.out.size⟩
  have HH : Hid (hold false 0 q = max q 0) := rfl
  generalize hold false 0 q = h4 at D4 HH ⊢
  clear L N4
  by_cases h1 : q < 0
  · have e1 : h4 = 0 := by have := HH.out; omega
    have HX : Hid (h4 = 0) := e1
    clear e1
    go_wp2_with fail
    refine (read_up D n 0 a2 a1 true h4 zs u x ((n : Int) + 1) w4 D4.out Y.out Y2.out hn (by have := HX.out; omega) (by omega) E4.out HN.out (by have := HX.out; omega) 0 (by have := HX.out; simp [room, this])).mono ?_
    rintro e w5 ⟨rfl, D5, N5⟩
    have BB : Hid (Below w.heap.size w w5) := N5.out.below B4.out G4.out.1 G4.out.2
    clear D4 D5 N5 Y Y2 E4 B4 G4 HH HX
    go_wp2
    go_ret
    exact ⟨rfl, BB.out⟩
  · by_cases h2 : (n : Int) < q
    · have HX : Hid (h4 = q) := by have := HH.out; show h4 = q; omega
      go_wp2_with fail
      refine (read_up D n 0 a2 a1 true h4 zs u x ((n : Int) + 1) w4 D4.out Y.out Y2.out hn (by have := HX.out; omega) (by omega) E4.out HN.out (by have := HX.out; omega) n (by have := HX.out; simp [room]; omega)).mono ?_
      rintro e w5 ⟨rfl, D5, N5⟩
      have BB : Hid (Below w.heap.size w w5) := N5.out.below B4.out G4.out.1 G4.out.2
      clear D4 D5 N5 Y Y2 E4 B4 G4 HH HX
      go_wp2
      go_ret
      exact ⟨rfl, BB.out⟩
    · have HX : Hid (h4 = q) := by have := HH.out; show h4 = q; omega
      obtain ⟨m, rfl⟩ := Int.eq_ofNat_of_zero_le (show 0 ≤ q by omega)
      go_wp2_with fail
      refine (read_up D n 0 a2 a1 true h4 zs u x ((n : Int) + 1) w4 D4.out Y.out Y2.out hn (by have := HX.out; omega) (by omega) E4.out HN.out (by have := HX.out; omega) m (by have := HX.out; simp [room]; omega)).mono ?_
      rintro e w5 ⟨rfl, D5, N5⟩
      have BB : Hid (Below w.heap.size w w5) := N5.out.below B4.out G4.out.1 G4.out.2
      clear D4 D5 N5 Y Y2 E4 B4 G4 HH HX
      go_wp2
      go_ret
      exact ⟨rfl, BB.out⟩

theorem early (a : Option Addr) (n c : Nat) (q : Int) (w : World) (hm : n ≤ 9223372036854775807) (h : 1048576 < n) :
    Calls Tryd.prog 4 #[.slice a n c, .int .i64 q] w fun e w' => e = .returned (.bool true) ∧ Below w.heap.size w w' := by
  go_enter Tryd.func4, Tryd.ntmps4
  go_wp2
  all_goals (go_ret; exact ⟨rfl, Below.refl _ _⟩)

theorem walk (a0 : Option Addr) (len0 cap0 : Nat) (z0 : List Int) (a1 : Int) (u : TypeId) (x : Value) (w : World) (w0 : IsRow .u8 w a0 len0 cap0 z0) (w1 : (Lit.int .i64 a1).wf = true) (he : Eof w u x) :
    Calls Tryd.prog 4 #[.slice a0 len0 cap0, .int .i64 a1] w fun e w' => e = .returned (.bool true) ∧ Below w.heap.size w w' := by
  obtain ⟨hm, hg⟩ := given_of w0
  unfold maxLen at hm
  have b1 := bounds_i64 w1
  by_cases h : 1048576 < len0
  · exact early a0 len0 cap0 a1 w (by omega) h
  · exact core a0 len0 cap0 a1 (z0.take len0) u x w hg (by omega) he b1.2


/-! ### The row -/
set_option maxRecDepth 100000 in
theorem lifted (os : Os) (started : os.Started) (H : Type) (enc : TypeId × Value → H) :
    ReturnsInHanded {} Tryd.checked os 4 .any (fun w args => (Rows.fnNewDecoderStartsUnboundedSpec.pre enc Tryd.prog Tryd.f4 [] false w args ∧ laidMetH Tryd.prog listed w) ∧ sizedMet enc Tryd.prog Tryd.f4 (OpenSpec.ofChange Rows.fnNewDecoderStartsUnboundedSpec) false w args)
      (Rows.fnNewDecoderStartsUnboundedSpec.post enc Tryd.prog Tryd.f4 false true false false) := by
  refine returnsInHanded_of_change_and (C := Tryd.checked) (X := fun w _ => laidMetH Tryd.prog listed w) (fun _ _ _ hh h => h.of_heap hh) own started (by kernel_rfl) Tryd.func4
    (ChangeSpec.witness_shaped (enc := enc) (C := Tryd.checked) (os := os) (X := fun w _ => laidMetH Tryd.prog listed w) false (World.doorLaid Tryd.prog 400 os) #[.slice none 0 0, .int .i64 0] 8 rfl (World.shaped_of_RefB (by kernel_rfl) (by kernel_rfl)) (by kernel_rfl) (by kernel_rfl) (by kernel_rfl) (door_met os _)) ?_
  intro W base args ds gs before hval0 hW _ _ hL _
  have hval : ∀ (j : Nat) t v, Tryd.f4.params[j]? = some t → args[j]? = some v → Value.okWide Tryd.prog W .any base t v := hval0
  have hW' := hW
  obtain ⟨p, q, hA0, hV, rfl, hfz, hnd⟩ := hW
  have hA : DataW.TrodAll enc Tryd.prog W 0 (fun _ => true) true Tryd.f4.params.toList args.toList ds p := hA0
  rw [Tryd.params4] at hA hval
  obtain ⟨v0, vs0, d0, ds0, p0, q0, hargs, rfl, rfl, h0, r0⟩ := trodAll_cons hA
  obtain ⟨v1, vs1, d1, ds1, p1, q1, rfl, rfl, rfl, h1, r1⟩ := trodAll_cons r0
  obtain ⟨rfl, rfl, rfl⟩ := trodAll_nil r1
  obtain rfl : args = #[v0, v1] := by cases args; simp_all
  obtain ⟨rfl, rfl⟩ := trodVars_none hV
  obtain ⟨a0, len0, cap0, rfl⟩ := okWide_slice Tryd.underlying22 (hval 0 22 v0 rfl rfl)
  have k0 := h0
  have lt0 : ∀ x ∈ p0, x.block < W.heap.size := by obtain ⟨m, hm⟩ := k0; exact DataW.trod_lt m _ _ _ hm
  obtain ⟨z0, w0⟩ := row_of h0
  obtain ⟨a1, rfl, rfl, rfl, w1⟩ := open_int Tryd.underlying3 (hval 1 3 v1 rfl rfl) h1
  obtain ⟨u, x, he⟩ := eof_of_laid hL
  clear hA0 hval0
  refine (walk a0 len0 cap0 z0 a1 u x W w0 w1 he).mono fun e W' ⟨he', bel⟩ => ?_
  subst he'
  exact ⟨_, rfl, _, _, _, [], _, [], hW', trodAll_mk1 (shut_bool Tryd.underlying4 _), (trodAll_cons_mk (Below.trod laidOut (by kernel_rfl) (of_decide_eq_true (by kernel_rfl)) k0 bel lt0) (trodAll_cons_mk (shut_int Tryd.underlying3 w1) trodAll_mk0)), rfl, bel.frame _, fun h => by cases h⟩

theorem holds : Rows.FnNewDecoderStartsUnboundedSaid :=
  OpenClaim.holds_of_wide 4 Tryd.f4 rfl rfl rfl rfl rfl rfl rfl ⟨rfl, rfl, rfl, rfl, rfl⟩ rfl rfl rfl rfl rfl (by kernel_rfl) Tryd.func4 (by kernel_rfl)
    (of_decide_eq_true (by kernel_rfl)) (by unfold Func.isWrapper; first | (rw [if_pos (by decide +kernel)]; kernel_rfl) | (rw [if_neg (by decide +kernel)]; exact ⟨rfl, rfl⟩))
    (fun os started H enc _ => lifted os started H enc)

/-- ████ THE STATEMENT: THE TIED CARD ████ -/
theorem proved : Rows.FnNewDecoderStartsUnboundedCardSaid :=
  Claim7.holds_tied_plain_at .later [] [.sentinel] true Rows.fnNewDecoderStartsUnboundedCard.stood.harness false
    holds (fun _ h => by cases h) (by kernel_rfl) (fun _ h => by cases h) fnNewDecoderStartsUnbounded_row_tie rfl ⟨rfl, rfl⟩ (by kernel_rfl) rfl
    (fun f fn hf hfn => by
      obtain rfl : f = 4 := Option.some.inj ((show Tryd.prog.funcNamed Rows.fnNewDecoderStartsUnboundedRow.func = some 4 by kernel_rfl).symm.trans hf) |>.symm
      obtain rfl : fn = Tryd.f4 := (Option.some.inj (Tryd.func4.symm.trans hfn)).symm
      exact ⟨by kernel_rfl, fun j t ht => by
        rw [Tryd.params4] at ht
        have hm : t ∈ [22, 3] := by simpa using Array.mem_of_getElem? ht
        have hall : ([22, 3].all fun u => !Tryd.prog.wantsStandIn u) = true := by kernel_rfl
        exact (show Tryd.prog.wantsStandIn t = false by simpa using List.all_eq_true.1 hall t hm)⟩)
    (by kernel_rfl)
#print axioms proved
end Go.Proofs.Qxb6608773aDoor.fnNewDecoderStartsUnbounded
