/-
  THE WALKS of 'zzlaws_internal_hessian_b1.FnBoundLiftRestoresTheOuterHold' (function 5): no outer Bound stands ('core_free'), one stands ('core_held').
-/
import Derived.Test.Qxb6608773aDoorSteps
namespace Go.Proofs.Qxb6608773aDoor.fnBoundLiftRestoresTheOuterHold
open Go.ChangeShapes Go.WideShapes Go.ChangeAt Go.RowKit Go.Proofs.Qxb6608773aDoor.Hess
set_option linter.unusedVariables false

set_option maxRecDepth 100000 in
set_option maxHeartbeats 2000000 in
/-- No outer Bound stands. -/
theorem core_free (a : Option Addr) (n c : Nat) (ou q k : Int) (zs : List Int) (u : TypeId) (x : Value) (w : World) (hg : Given w a n c zs) (hn : n ≤ 1048576) (he : Eof w u x) (hq : q ≤ 9223372036854775807) (hk : k ≤ 9223372036854775807)
   (Q K M : Int) (T : Nat) (hQ : (if q < 0 then 0 else q) = Q) (hK : (if k < 0 then 0 else k) = K) (hM : (if Q < K then Q else K) = M) (hT : (if (n : Int) < M then (n : Int) else M) = (T : Int)) :
    Calls Tryd.prog 5 #[.slice a n c, .bool false, .int .i64 ou, .int .i64 q, .int .i64 k] w fun e w' => e = .returned (.bool true) ∧ Below w.heap.size w w' := by
  have HG : Hid (Given w a n c zs) := hg
  have HE : Hid (Eof w u x) := he
  have HH : Hid (hold false 0 q = Q) := by show _ = Q; rw [hold_free]; omega
  have HT : Hid (T = min k.toNat (room n 0 true Q)) := by show T = _; rw [room_held]; omega
  have HR : Hid ((T : Int) ≤ Q ∧ 0 ≤ Q ∧ Q ≤ 9223372036854775807) := by
    show (T : Int) ≤ Q ∧ 0 ≤ Q ∧ Q ≤ 9223372036854775807
    omega
  have hTn : (T : Int) ≤ (n : Int) := by omega
  have vQ : Hid ((if q < 0 then 0 else q) = Q) := hQ
  have vK : Hid ((if k < 0 then 0 else k) = K) := hK
  have vM : Hid ((if Q < K then Q else K) = M) := hM
  have vT : Hid ((if (n : Int) < M then (n : Int) else M) = (T : Int)) := hT
  clear hg he hQ hK hM hT
  go_enter Tryd.func5, Tryd.ntmps5
  go_wp2_with (go_at_call 15; go_in)
  refine (clone_arg a n c zs w hn HG.out).mono ?_
  rintro e w1 ⟨a1, rfl, O1, B1⟩
  go_wp2_with fail
  refine (clone_own a1 n zs w1 hn O1.out).mono ?_
  rintro e w2 ⟨a2, rfl, O2, B2⟩
  go_wp2_with fail
  refine (new_dec a2 n w2).mono ?_
  rintro e w3 ⟨rfl, D3, N3⟩
  have S3 : Hid (St w w3 w2.heap.size a1 a2 n zs u x 0 false 0) := St.of_laid (laid_of HE.out O1.out B1.out O2.out B2.out D3.out N3.out)
  clear O1 B1 O2 B2 D3 N3 HG HE
  generalize w2.heap.size = D at S3 ⊢
  have hQ := vQ.out
  go_wp2_with (go_at_call 10; go_in)
  clear hQ
  refine (st_bound D n 0 a2 a1 false 0 q zs u x w w3 S3.out (by simp) Q HH.out).mono ?_
  rintro e w4 ⟨rfl, S4, N4⟩
  clear S3 N4
  have hK := vK.out
  have hM := vM.out
  have hT := vT.out
  go_wp2_with fail
  clear hK hM hT
  have V5 : Hid (_ ∧ _ ∧ _) := st_var S4.out 0 Q false
  generalize w4.alloc (.cells #[.pointer (some ⟨D, 0, none⟩), .int .i64 0, .int .i64 Q, .bool false] 34) = w5 at V5 ⊢
  generalize w4.heap.size = g at V5 ⊢
  clear S4
  refine (st_read D n 0 a2 a1 true Q zs u x k w w5 V5.out.1 hn HR.out.2.2 (by omega) (by have := HR.out; omega) T HT.out).mono ?_
  rintro e w6 ⟨rfl, S6, N6⟩
  have K6 : Hid (Keep w6 D g 0 Q false) := V5.out.2.2.kept N6.out
  have k0 := K6.out.cell0
  have k1 := K6.out.cell1
  have k2 := K6.out.cell2
  have k3 := K6.out.cell3
  have S6' : Hid (St w w6 D a1 a2 n zs u x T true (Q - T)) := by have := S6.out; rw [aft_held, Nat.zero_add] at this; exact this
  clear V5 N6 S6 K6
  go_wp2_with fail
  refine (st_lift D n T a2 a1 0 Q (Q - T) false true zs u x w w6 S6'.out (by omega) (by omega) (by omega) (by omega) (-(T : Int)) (by omega)).mono ?_
  rintro e w7 ⟨rfl, S7, N7⟩
  clear k0 k1 k2 k3 S6' N7
  have HT2 : Hid (n - T = min ((n : Int) + 1).toNat (room n T false (-(T : Int)))) := by show n - T = _; rw [room_free]; omega
  have hc : ((n - T : Nat) : Int) = (n : Int) - (T : Int) := by omega
  go_wp2_with fail
  refine (st_read D n T a2 a1 false (-(T : Int)) zs u x ((n : Int) + 1) w w7 S7.out hn (by omega) (by omega) (by omega) (n - T) HT2.out).mono ?_
  rintro e w8 ⟨rfl, S8, N8⟩
  have BB : Hid (Below w.heap.size w w8) := S8.out.below
  clear S7 S8 N8 HT HT2 HH HR vQ vK vM vT
  go_wp2
  go_ret
  exact ⟨rfl, BB.out⟩

set_option maxRecDepth 100000 in
set_option maxHeartbeats 4000000 in
/-- An outer Bound stands. O: what it holds to; I: what the inner one holds to; T: what is read inside; T2: what is read behind the Lift. -/
theorem core_held (a : Option Addr) (n c : Nat) (ou q k : Int) (zs : List Int) (u : TypeId) (x : Value) (w : World) (hg : Given w a n c zs) (hn : n ≤ 1048576) (he : Eof w u x) (ho : ou ≤ 9223372036854775807) (hq : q ≤ 9223372036854775807) (hk : k ≤ 9223372036854775807)
   (O Q K I M : Int) (T T2 : Nat) (hO : (if ou < 0 then 0 else ou) = O) (hQ : (if q < 0 then 0 else q) = Q) (hK : (if k < 0 then 0 else k) = K) (hI : (if O < Q then O else Q) = I) (hM : (if I < K then I else K) = M) (hT : (if (n : Int) < M then (n : Int) else M) = (T : Int))
   (hT2 : (if O - (T : Int) < (n : Int) - (T : Int) then O - (T : Int) else (n : Int) - (T : Int)) = (T2 : Int)) :
    Calls Tryd.prog 5 #[.slice a n c, .bool true, .int .i64 ou, .int .i64 q, .int .i64 k] w fun e w' => e = .returned (.bool true) ∧ Below w.heap.size w w' := by
  have HG : Hid (Given w a n c zs) := hg
  have HE : Hid (Eof w u x) := he
  have HO : Hid (hold false 0 ou = O) := by show _ = O; rw [hold_free]; omega
  have HH : Hid (hold true O q = I) := by show _ = I; rw [hold_held]; omega
  have HT : Hid (T = min k.toNat (room n 0 true I)) := by show T = _; rw [room_held]; omega
  have HR : Hid ((T : Int) ≤ I ∧ 0 ≤ I ∧ I ≤ O ∧ 0 ≤ O ∧ O ≤ 9223372036854775807) := by
    show (T : Int) ≤ I ∧ 0 ≤ I ∧ I ≤ O ∧ 0 ≤ O ∧ O ≤ 9223372036854775807
    omega
  have hO0 : 0 ≤ O := by omega
  have hO1 : O ≤ 9223372036854775807 := by omega
  have hTO : (T : Int) ≤ O := by omega
  have hTn : (T : Int) ≤ (n : Int) := by omega
  have HT2 : Hid (T2 = min ((n : Int) + 1).toNat (room n T true (O - T))) := by show T2 = _; rw [room_held]; omega
  have HI : Hid ((if O < Q then O else Q) = I) := hI
  have HX2 : Hid ((if O - (T : Int) < (n : Int) - (T : Int) then O - (T : Int) else (n : Int) - (T : Int)) = (T2 : Int)) := hT2
  have vO : Hid ((if ou < 0 then 0 else ou) = O) := hO
  have vQ : Hid ((if q < 0 then 0 else q) = Q) := hQ
  have vK : Hid ((if k < 0 then 0 else k) = K) := hK
  have vM : Hid ((if I < K then I else K) = M) := hM
  have vT : Hid ((if (n : Int) < M then (n : Int) else M) = (T : Int)) := hT
  clear hg he hI hT2 hO hQ hK hM hT
  by_cases h1 : O < Q
  · obtain rfl : I = O := by have := HI.out; rw [if_pos h1] at this; exact this.symm
    go_enter Tryd.func5, Tryd.ntmps5
    go_wp2_with (go_at_call 15; go_in)
    refine (clone_arg a n c zs w hn HG.out).mono ?_
    rintro e w1 ⟨a1, rfl, O1, B1⟩
    go_wp2_with fail
    refine (clone_own a1 n zs w1 hn O1.out).mono ?_
    rintro e w2 ⟨a2, rfl, O2, B2⟩
    go_wp2_with fail
    refine (new_dec a2 n w2).mono ?_
    rintro e w3 ⟨rfl, D3, N3⟩
    have S3 : Hid (St w w3 w2.heap.size a1 a2 n zs u x 0 false 0) := St.of_laid (laid_of HE.out O1.out B1.out O2.out B2.out D3.out N3.out)
    clear O1 B1 O2 B2 D3 N3 HG HE
    generalize w2.heap.size = D at S3 ⊢
    go_wp2_with (go_at_call 10; go_in)
    refine (st_bound D n 0 a2 a1 false 0 ou zs u x w w3 S3.out (by simp) I HO.out).mono ?_
    rintro e w4 ⟨rfl, S4, N4⟩
    clear S3 N4
    have hO := vO.out
    have hQ := vQ.out
    go_wp2_with fail
    clear hO hQ h1
    refine (st_bound D n 0 a2 a1 true I q zs u x w w4 S4.out (fun _ => hO0) I HH.out).mono ?_
    rintro e w4' ⟨rfl, S4', N4'⟩
    clear S4 N4'
    have hK := vK.out
    have hM := vM.out
    have hT := vT.out
    go_wp2_with fail
    clear hK hM hT
    have V5 : Hid (_ ∧ _ ∧ _) := st_var S4'.out I I true
    generalize w4'.alloc (.cells #[.pointer (some ⟨D, 0, none⟩), .int .i64 I, .int .i64 I, .bool true] 34) = w5 at V5 ⊢
    generalize w4'.heap.size = g at V5 ⊢
    clear S4'
    refine (st_read D n 0 a2 a1 true I zs u x k w w5 V5.out.1 hn (by have := HR.out; omega) (by omega) (by have := HR.out; omega) T HT.out).mono ?_
    rintro e w6 ⟨rfl, S6, N6⟩
    have K6 : Hid (Keep w6 D g I I true) := V5.out.2.2.kept N6.out
    have k0 := K6.out.cell0
    have k1 := K6.out.cell1
    have k2 := K6.out.cell2
    have k3 := K6.out.cell3
    have S6' : Hid (St w w6 D a1 a2 n zs u x T true (I - T)) := by have := S6.out; rw [aft_held, Nat.zero_add] at this; exact this
    clear V5 N6 S6 K6
    go_wp2_with fail
    refine (st_lift D n T a2 a1 I I (I - T) true true zs u x w w6 S6'.out (by omega) (by omega) (by omega) (by omega) (I - (T : Int)) (by omega)).mono ?_
    rintro e w7 ⟨rfl, S7, N7⟩
    clear k0 k1 k2 k3 S6' N7 vO vQ vK vM vT HT HH HR HI HO
    by_cases h2 : I - (T : Int) < (n : Int) - (T : Int)
    · have E2 : Hid (I - (T : Int) = (T2 : Int)) := by have := HX2.out; rw [if_pos h2] at this; exact this
      go_wp2_with fail
      refine (st_read D n T a2 a1 true (I - (T : Int)) zs u x ((n : Int) + 1) w w7 S7.out hn (by omega) (by omega) (by omega) T2 HT2.out).mono ?_
      rintro e w8 ⟨rfl, S8, N8⟩
      have BB : Hid (Below w.heap.size w w8) := S8.out.below
      have e2 := E2.out
      clear S7 S8 N8 HT2 HX2 E2
      go_wp2
      go_ret
      exact ⟨rfl, BB.out⟩
    · have E2 : Hid ((n : Int) - (T : Int) = (T2 : Int)) := by have := HX2.out; rw [if_neg h2] at this; exact this
      go_wp2_with fail
      refine (st_read D n T a2 a1 true (I - (T : Int)) zs u x ((n : Int) + 1) w w7 S7.out hn (by omega) (by omega) (by omega) T2 HT2.out).mono ?_
      rintro e w8 ⟨rfl, S8, N8⟩
      have BB : Hid (Below w.heap.size w w8) := S8.out.below
      have e2 := E2.out
      clear S7 S8 N8 HT2 HX2 E2
      go_wp2
      go_ret
      exact ⟨rfl, BB.out⟩
  · obtain rfl : I = Q := by have := HI.out; rw [if_neg h1] at this; exact this.symm
    go_enter Tryd.func5, Tryd.ntmps5
    go_wp2_with (go_at_call 15; go_in)
    refine (clone_arg a n c zs w hn HG.out).mono ?_
    rintro e w1 ⟨a1, rfl, O1, B1⟩
    go_wp2_with fail
    refine (clone_own a1 n zs w1 hn O1.out).mono ?_
    rintro e w2 ⟨a2, rfl, O2, B2⟩
    go_wp2_with fail
    refine (new_dec a2 n w2).mono ?_
    rintro e w3 ⟨rfl, D3, N3⟩
    have S3 : Hid (St w w3 w2.heap.size a1 a2 n zs u x 0 false 0) := St.of_laid (laid_of HE.out O1.out B1.out O2.out B2.out D3.out N3.out)
    clear O1 B1 O2 B2 D3 N3 HG HE
    generalize w2.heap.size = D at S3 ⊢
    go_wp2_with (go_at_call 10; go_in)
    refine (st_bound D n 0 a2 a1 false 0 ou zs u x w w3 S3.out (by simp) O HO.out).mono ?_
    rintro e w4 ⟨rfl, S4, N4⟩
    clear S3 N4
    have hO := vO.out
    have hQ := vQ.out
    go_wp2_with fail
    clear hO hQ h1
    refine (st_bound D n 0 a2 a1 true O q zs u x w w4 S4.out (fun _ => hO0) I HH.out).mono ?_
    rintro e w4' ⟨rfl, S4', N4'⟩
    clear S4 N4'
    have hK := vK.out
    have hM := vM.out
    have hT := vT.out
    go_wp2_with fail
    clear hK hM hT
    have V5 : Hid (_ ∧ _ ∧ _) := st_var S4'.out O I true
    generalize w4'.alloc (.cells #[.pointer (some ⟨D, 0, none⟩), .int .i64 O, .int .i64 I, .bool true] 34) = w5 at V5 ⊢
    generalize w4'.heap.size = g at V5 ⊢
    clear S4'
    refine (st_read D n 0 a2 a1 true I zs u x k w w5 V5.out.1 hn (by have := HR.out; omega) (by omega) (by have := HR.out; omega) T HT.out).mono ?_
    rintro e w6 ⟨rfl, S6, N6⟩
    have K6 : Hid (Keep w6 D g O I true) := V5.out.2.2.kept N6.out
    have k0 := K6.out.cell0
    have k1 := K6.out.cell1
    have k2 := K6.out.cell2
    have k3 := K6.out.cell3
    have S6' : Hid (St w w6 D a1 a2 n zs u x T true (I - T)) := by have := S6.out; rw [aft_held, Nat.zero_add] at this; exact this
    clear V5 N6 S6 K6
    go_wp2_with fail
    refine (st_lift D n T a2 a1 O I (I - T) true true zs u x w w6 S6'.out (by omega) (by omega) (by omega) (by omega) (O - (T : Int)) (by omega)).mono ?_
    rintro e w7 ⟨rfl, S7, N7⟩
    clear k0 k1 k2 k3 S6' N7 vO vQ vK vM vT HT HH HR HI HO
    by_cases h2 : O - (T : Int) < (n : Int) - (T : Int)
    · have E2 : Hid (O - (T : Int) = (T2 : Int)) := by have := HX2.out; rw [if_pos h2] at this; exact this
      go_wp2_with fail
      refine (st_read D n T a2 a1 true (O - (T : Int)) zs u x ((n : Int) + 1) w w7 S7.out hn (by omega) (by omega) (by omega) T2 HT2.out).mono ?_
      rintro e w8 ⟨rfl, S8, N8⟩
      have BB : Hid (Below w.heap.size w w8) := S8.out.below
      have e2 := E2.out
      clear S7 S8 N8 HT2 HX2 E2
      go_wp2
      go_ret
      exact ⟨rfl, BB.out⟩
    · have E2 : Hid ((n : Int) - (T : Int) = (T2 : Int)) := by have := HX2.out; rw [if_neg h2] at this; exact this
      go_wp2_with fail
      refine (st_read D n T a2 a1 true (O - (T : Int)) zs u x ((n : Int) + 1) w w7 S7.out hn (by omega) (by omega) (by omega) T2 HT2.out).mono ?_
      rintro e w8 ⟨rfl, S8, N8⟩
      have BB : Hid (Below w.heap.size w w8) := S8.out.below
      have e2 := E2.out
      clear S7 S8 N8 HT2 HX2 E2
      go_wp2
      go_ret
      exact ⟨rfl, BB.out⟩
end Go.Proofs.Qxb6608773aDoor.fnBoundLiftRestoresTheOuterHold
