/-
  'Rows.FnNewDecoderOwnReaderReadsEveryByteInOrderCardSaid' PROVED: the row, then the tied card. The walk is this seat's own, over the contracts of Qxb6608773aDoorReads, ReadUp, Bounds, Clone, Laid; the frame follows the guide's worked examples (the slice law's shell; a row that lists a variable; a tied card).
-/
import Derived.Test.Qxb6608773aDoorLaid
import Derived.Test.Qxb6608773aDoorTie
import Derived.Test.Qxb6608773aDoorCards
import Derived.SevenTiedAt
namespace Go.Proofs.Qxb6608773aDoor.fnNewDecoderOwnReaderReadsEveryByteInOrder
open Go.ChangeShapes Go.WideShapes Go.ChangeAt Go.RowKit Go.Proofs.Qxb6608773aDoor.Hess
set_option linter.unusedVariables false

set_option maxRecDepth 100000 in
set_option maxHeartbeats 1000000 in
theorem every_byte (a : Option Addr) (n c : Nat) (zs : List Int) (u : TypeId) (x : Value) (w : World) (hg : Given w a n c zs) (hn : n ≤ 1048576) (he : Eof w u x) :
    Calls Tryd.prog 3 #[.slice a n c] w fun e w' => e = .returned (.bool true) ∧ Below w.heap.size w w' := by
  have HG : Hid (Given w a n c zs) := hg
  have HE : Hid (Eof w u x) := he
  clear hg he
  go_enter Tryd.func3, Tryd.ntmps3
  go_wp2_with (go_at_call 7; go_in)
  refine (clone_arg a n c zs w hn HG.out).mono ?_
  rintro e w1 ⟨a1, rfl, O1, B1⟩
  go_wp2_with fail
  refine (clone_own a1 n zs w1 hn O1.out).mono ?_
  rintro e w2 ⟨a2, rfl, O2, B2⟩
  go_wp2_with fail
  refine (new_dec a2 n w2).mono ?_
  rintro e w3 ⟨rfl, D3, N3⟩
  have L : Hid (Laid w w3 w2.heap.size a1 a2 n zs u x) := laid_of HE.out O1.out B1.out O2.out B2.out D3.out N3.out
  clear O1 B1 O2 B2 D3 N3 HG HE
  generalize w2.heap.size = D at L ⊢
  go_wp2_with (go_at_call 10; go_in)
  refine (read_up D n 0 a2 a1 false 0 zs u x ((n : Int) + 1) w3 L.out.dec L.out.bytes L.out.bytes2 hn (by omega) (by omega) L.out.eof L.out.ne (by omega) n (by simp [room])).mono ?_
  rintro e w4 ⟨rfl, D4, N4⟩
  have c4 : w4.cell? ⟨D, 2, none⟩ = some (.int .i64 n) := by have := dec_off D4.out; rw [Nat.zero_add] at this; exact this
  have BB : Hid (Below w.heap.size w w4) := N4.out.below L.out.below L.out.le L.out.lt
  clear L D4 N4
  go_wp2
  go_ret
  exact ⟨rfl, BB.out⟩

theorem early (a : Option Addr) (n c : Nat) (w : World) (hm : n ≤ 9223372036854775807) (h : 1048576 < n) :
    Calls Tryd.prog 3 #[.slice a n c] w fun e w' => e = .returned (.bool true) ∧ Below w.heap.size w w' := by
  go_enter Tryd.func3, Tryd.ntmps3
  go_wp2
  all_goals (go_ret; exact ⟨rfl, Below.refl _ _⟩)

theorem walk (a0 : Option Addr) (len0 cap0 : Nat) (z0 : List Int) (u : TypeId) (x : Value) (w : World) (w0 : IsRow .u8 w a0 len0 cap0 z0) (he : Eof w u x) :
    Calls Tryd.prog 3 #[.slice a0 len0 cap0] w fun e w' => e = .returned (.bool true) ∧ Below w.heap.size w w' := by
  obtain ⟨hm, hg⟩ := given_of w0
  unfold maxLen at hm
  by_cases h : 1048576 < len0
  · exact early a0 len0 cap0 w (by omega) h
  · exact every_byte a0 len0 cap0 (z0.take len0) u x w hg (by omega) he


/-! ### The row -/
set_option maxRecDepth 100000 in
theorem lifted (os : Os) (started : os.Started) (H : Type) (enc : TypeId × Value → H) :
    ReturnsInHanded {} Tryd.checked os 3 .any (fun w args => (Rows.fnNewDecoderOwnReaderReadsEveryByteInOrderSpec.pre enc Tryd.prog Tryd.f3 [] false w args ∧ laidMetH Tryd.prog listed w) ∧ sizedMet enc Tryd.prog Tryd.f3 (OpenSpec.ofChange Rows.fnNewDecoderOwnReaderReadsEveryByteInOrderSpec) false w args)
      (Rows.fnNewDecoderOwnReaderReadsEveryByteInOrderSpec.post enc Tryd.prog Tryd.f3 false true false false) := by
  refine returnsInHanded_of_change_and (C := Tryd.checked) (X := fun w _ => laidMetH Tryd.prog listed w) (fun _ _ _ hh h => h.of_heap hh) own started (by kernel_rfl) Tryd.func3
    (ChangeSpec.witness_shaped (enc := enc) (C := Tryd.checked) (os := os) (X := fun w _ => laidMetH Tryd.prog listed w) false (World.doorLaid Tryd.prog 400 os) #[.slice none 0 0] 8 rfl (World.shaped_of_RefB (by kernel_rfl) (by kernel_rfl)) (by kernel_rfl) (by kernel_rfl) (by kernel_rfl) (door_met os _)) ?_
  intro W base args ds gs before hval0 hW _ _ hL _
  have hval : ∀ (j : Nat) t v, Tryd.f3.params[j]? = some t → args[j]? = some v → Value.okWide Tryd.prog W .any base t v := hval0
  have hW' := hW
  obtain ⟨p, q, hA0, hV, rfl, hfz, hnd⟩ := hW
  have hA : DataW.TrodAll enc Tryd.prog W 0 (fun _ => true) true Tryd.f3.params.toList args.toList ds p := hA0
  rw [Tryd.params3] at hA hval
  obtain ⟨v0, vs0, d0, ds0, p0, q0, hargs, rfl, rfl, h0, r0⟩ := trodAll_cons hA
  obtain ⟨rfl, rfl, rfl⟩ := trodAll_nil r0
  obtain rfl : args = #[v0] := by cases args; simp_all
  obtain ⟨rfl, rfl⟩ := trodVars_none hV
  obtain ⟨a0, len0, cap0, rfl⟩ := okWide_slice Tryd.underlying22 (hval 0 22 v0 rfl rfl)
  have k0 := h0
  have lt0 : ∀ x ∈ p0, x.block < W.heap.size := by obtain ⟨m, hm⟩ := k0; exact DataW.trod_lt m _ _ _ hm
  obtain ⟨z0, w0⟩ := row_of h0
  obtain ⟨u, x, he⟩ := eof_of_laid hL
  clear hA0 hval0
  refine (walk a0 len0 cap0 z0 u x W w0 he).mono fun e W' ⟨he', bel⟩ => ?_
  subst he'
  exact ⟨_, rfl, _, _, _, [], _, [], hW', trodAll_mk1 (shut_bool Tryd.underlying4 _), (trodAll_cons_mk (Below.trod laidOut (by kernel_rfl) (of_decide_eq_true (by kernel_rfl)) k0 bel lt0) trodAll_mk0), rfl, bel.frame _, fun h => by cases h⟩

theorem holds : Rows.FnNewDecoderOwnReaderReadsEveryByteInOrderSaid :=
  OpenClaim.holds_of_wide 3 Tryd.f3 rfl rfl rfl rfl rfl rfl rfl ⟨rfl, rfl, rfl, rfl, rfl⟩ rfl rfl rfl rfl rfl (by kernel_rfl) Tryd.func3 (by kernel_rfl)
    (of_decide_eq_true (by kernel_rfl)) (by unfold Func.isWrapper; first | (rw [if_pos (by decide +kernel)]; kernel_rfl) | (rw [if_neg (by decide +kernel)]; exact ⟨rfl, rfl⟩))
    (fun os started H enc _ => lifted os started H enc)

/-- ████ THE STATEMENT: THE TIED CARD ████ -/
theorem proved : Rows.FnNewDecoderOwnReaderReadsEveryByteInOrderCardSaid :=
  Claim7.holds_tied_plain_at .later [] [.sentinel] true Rows.fnNewDecoderOwnReaderReadsEveryByteInOrderCard.stood.harness false
    holds (fun _ h => by cases h) (by kernel_rfl) (fun _ h => by cases h) fnNewDecoderOwnReaderReadsEveryByteInOrder_row_tie rfl ⟨rfl, rfl⟩ (by kernel_rfl) rfl
    (fun f fn hf hfn => by
      obtain rfl : f = 3 := Option.some.inj ((show Tryd.prog.funcNamed Rows.fnNewDecoderOwnReaderReadsEveryByteInOrderRow.func = some 3 by kernel_rfl).symm.trans hf) |>.symm
      obtain rfl : fn = Tryd.f3 := (Option.some.inj (Tryd.func3.symm.trans hfn)).symm
      exact ⟨by kernel_rfl, fun j t ht => by
        rw [Tryd.params3] at ht
        have hm : t ∈ [22] := by simpa using Array.mem_of_getElem? ht
        have hall : ([22].all fun u => !Tryd.prog.wantsStandIn u) = true := by kernel_rfl
        exact (show Tryd.prog.wantsStandIn t = false by simpa using List.all_eq_true.1 hall t hm)⟩)
    (by kernel_rfl)
#print axioms proved
end Go.Proofs.Qxb6608773aDoor.fnNewDecoderOwnReaderReadsEveryByteInOrder
