/-
  THE WALK of 'zzlaws_internal_hessian_b1.FnBoundLiftNestedPairRestoresFreeReading' (function 6).
-/
import Derived.Test.Qxb6608773aDoorSteps
namespace Go.Proofs.Qxb6608773aDoor.fnBoundLiftNestedPairRestoresFreeReading
open Go.ChangeShapes Go.WideShapes Go.ChangeAt Go.RowKit Go.Proofs.Qxb6608773aDoor.Hess
set_option linter.unusedVariables false

set_option maxRecDepth 100000 in
set_option maxHeartbeats 4000000 in
/-- O: what the outer Bound holds to; I: what the inner one holds to; T1, T2, T3: the three readings. -/
theorem core (a : Option Addr) (n c : Nat) (ou q k k2 : Int) (zs : List Int) (u : TypeId) (x : Value) (w : World) (hg : Given w a n c zs) (hn : n ≤ 1048576) (he : Eof w u x) (ho : ou ≤ 9223372036854775807) (hq : q ≤ 9223372036854775807) (hk : k ≤ 9223372036854775807) (hk2 : k2 ≤ 9223372036854775807)
   (O Q K I M K2 M2 : Int) (T T2 : Nat) (hO : (if ou < 0 then 0 else ou) = O) (hQ : (if q < 0 then 0 else q) = Q) (hI : (if O < Q then O else Q) = I) (hK : (if k < 0 then 0 else k) = K) (hM : (if I < K then I else K) = M) (hT : (if (n : Int) < M then (n : Int) else M) = (T : Int))
   (hK2 : (if k2 < 0 then 0 else k2) = K2) (hM2 : (if O - (T : Int) < K2 then O - (T : Int) else K2) = M2) (hT2 : (if (n : Int) - (T : Int) < M2 then (n : Int) - (T : Int) else M2) = (T2 : Int)) :
    Calls Tryd.prog 6 #[.slice a n c, .int .i64 ou, .int .i64 q, .int .i64 k, .int .i64 k2] w fun e w' => e = .returned (.bool true) ∧ Below w.heap.size w w' := by
  have HG : Hid (Given w a n c zs) := hg
  have HE : Hid (Eof w u x) := he
  have o0 : 0 ≤ O ∧ O ≤ 9223372036854775807 := by rw [← hO]; split <;> omega
  have q0 : 0 ≤ Q ∧ Q ≤ 9223372036854775807 := by rw [← hQ]; split <;> omega
  have i0 : 0 ≤ I ∧ I ≤ O ∧ I ≤ Q ∧ (I = O ∨ I = Q) := by rw [← hI]; split <;> omega
  have c0 : 0 ≤ K ∧ k ≤ K ∧ (K = 0 ∨ K = k) := by rw [← hK]; split <;> omega
  have m0 : M ≤ I ∧ M ≤ K ∧ (M = I ∨ M = K) := by rw [← hM]; split <;> omega
  have t0 : (T : Int) ≤ (n : Int) ∧ (T : Int) ≤ M ∧ ((T : Int) = n ∨ (T : Int) = M) := by rw [← hT]; split <;> omega
  have c1 : 0 ≤ K2 ∧ k2 ≤ K2 ∧ (K2 = 0 ∨ K2 = k2) := by rw [← hK2]; split <;> omega
  have m1 : M2 ≤ O - T ∧ M2 ≤ K2 ∧ (M2 = O - T ∨ M2 = K2) := by rw [← hM2]; split <;> omega
  have t1 : (T2 : Int) ≤ (n : Int) - T ∧ (T2 : Int) ≤ M2 ∧ ((T2 : Int) = n - T ∨ (T2 : Int) = M2) := by rw [← hT2]; split <;> omega
  have HO : Hid (hold false 0 ou = O) := by show _ = O; rw [hold_free, ← hO]; split <;> omega
  have HH : Hid (hold true O q = I) := by show _ = I; rw [hold_held, ← hI, ← hQ]; split <;> split <;> omega
  have HT : Hid (T = min k.toNat (room n 0 true I)) := by show T = _; rw [room_held]; omega
  have HT2 : Hid (T2 = min k2.toNat (room n T true (O - T))) := by show T2 = _; rw [room_held]; omega
  have HT3 : Hid (n - T - T2 = min ((n : Int) + 1).toNat (room n (T + T2) false (0 - ((T : Int) + T2)))) := by show _ = min _ _; rw [room_free]; omega
  have hO0 : 0 ≤ O := o0.1
  have hO1 : O ≤ 9223372036854775807 := o0.2
  have hTO : (T : Int) ≤ O := by omega
  have hTI : Hid ((T : Int) ≤ I ∧ 0 ≤ I ∧ I ≤ 9223372036854775807) := by show (T : Int) ≤ I ∧ 0 ≤ I ∧ I ≤ 9223372036854775807; omega
  have hTn : (T : Int) ≤ (n : Int) := by omega
  have hT2n : (T2 : Int) ≤ (n : Int) - (T : Int) := by omega
  have hT2O : (T2 : Int) ≤ O - (T : Int) := by omega
  have vO : Hid ((if ou < 0 then 0 else ou) = O) := hO
  have vQ : Hid ((if q < 0 then 0 else q) = Q) := hQ
  have vI : Hid ((if O < Q then O else Q) = I) := hI
  have vK : Hid ((if k < 0 then 0 else k) = K) := hK
  have vM : Hid ((if I < K then I else K) = M) := hM
  have vT : Hid ((if (n : Int) < M then (n : Int) else M) = (T : Int)) := hT
  have vK2 : Hid ((if k2 < 0 then 0 else k2) = K2) := hK2
  have vM2 : Hid ((if O - (T : Int) < K2 then O - (T : Int) else K2) = M2) := hM2
  have vT2 : Hid ((if (n : Int) - (T : Int) < M2 then (n : Int) - (T : Int) else M2) = (T2 : Int)) := hT2
  clear hg he hO hQ hI hK hM hT hK2 hM2 hT2 o0 q0 i0 c0 m0 t0 c1 m1 t1
  go_enter Tryd.func6, Tryd.ntmps6
  go_wp2_with (go_at_call 17; go_in)
  refine (clone_arg a n c zs w hn HG.out).mono ?_
  rintro e w1 ⟨a1, rfl, O1, B1⟩
  go_wp2_with fail
  refine (clone_own a1 n zs w1 hn O1.out).mono ?_
  rintro e w2 ⟨a2, rfl, O2, B2⟩
  go_wp2_with fail
  refine (new_dec a2 n w2).mono ?_
  rintro e w3 ⟨rfl, D3, N3⟩
  have S3 : Hid (St w w3 w2.heap.size a1 a2 n zs u x 0 false 0) := St.of_laid (laid_of HE.out O1.out B1.out O2.out B2.out D3.out N3.out)
  clear O1 B1 O2 B2 D3 N3 HG HE
  generalize w2.heap.size = D at S3 ⊢
  have hO := vO.out
  have hQ := vQ.out
  have hI := vI.out
  go_wp2_with (go_at_call 10; go_in)
  clear hO hQ hI vO vQ vI
  refine (st_bound D n 0 a2 a1 false 0 ou zs u x w w3 S3.out (by simp) O HO.out).mono ?_
  rintro e w4 ⟨rfl, S4, N4⟩
  clear S3 N4
  go_wp2_with fail
  have V5 : Hid (_ ∧ _ ∧ _) := st_var S4.out 0 O false
  generalize w4.alloc (.cells #[.pointer (some ⟨D, 0, none⟩), .int .i64 0, .int .i64 O, .bool false] 34) = w5 at V5 ⊢
  generalize w4.heap.size = g at V5 ⊢
  clear S4
  refine (st_bound D n 0 a2 a1 true O q zs u x w w5 V5.out.1 (fun _ => hO0) I HH.out).mono ?_
  rintro e w6 ⟨rfl, S6, N6⟩
  have K6 : Hid (Keep w6 D g 0 O false) := V5.out.2.2.kept N6.out
  clear V5 N6
  have hK := vK.out
  have hM := vM.out
  have hT := vT.out
  go_wp2_with fail
  clear hK hM hT vK vM vT
  have V7 : Hid (_ ∧ _ ∧ _) := st_var S6.out O I true
  generalize w6.alloc (.cells #[.pointer (some ⟨D, 0, none⟩), .int .i64 O, .int .i64 I, .bool true] 34) = w7 at V7 ⊢
  generalize w6.heap.size = g2 at V7 ⊢
  have K7 : Hid (Keep w7 D g 0 O false) := K6.out.kept V7.out.2.1
  clear S6 K6
  refine (st_read D n 0 a2 a1 true I zs u x k w w7 V7.out.1 hn (by have := hTI.out; omega) (by omega) (by have := hTI.out; omega) T HT.out).mono ?_
  rintro e w8 ⟨rfl, S8, N8⟩
  have K8 : Hid (Keep w8 D g 0 O false) := K7.out.kept N8.out
  have J8 : Hid (Keep w8 D g2 O I true) := V7.out.2.2.kept N8.out
  have k0 := J8.out.cell0
  have k1 := J8.out.cell1
  have k2' := J8.out.cell2
  have k3 := J8.out.cell3
  have S8' : Hid (St w w8 D a1 a2 n zs u x T true (I - T)) := by have := S8.out; rw [aft_held, Nat.zero_add] at this; exact this
  clear V7 N8 S8 K7 J8
  go_wp2_with fail
  refine (st_lift D n T a2 a1 O I (I - T) true true zs u x w w8 S8'.out (by omega) (by omega) (by omega) (by omega) (O - (T : Int)) (by omega)).mono ?_
  rintro e w9 ⟨rfl, S9, N9⟩
  have K9 : Hid (Keep w9 D g 0 O false) := K8.out.kept N9.out
  clear k0 k1 k2' k3 S8' N9 K8
  have hK2 := vK2.out
  have hM2 := vM2.out
  have hT2 := vT2.out
  go_wp2_with fail
  clear hK2 hM2 hT2 vK2 vM2 vT2
  refine (st_read D n T a2 a1 true (O - (T : Int)) zs u x k2 w w9 S9.out hn (by omega) (by omega) (by omega) T2 HT2.out).mono ?_
  rintro e w10 ⟨rfl, S10, N10⟩
  have K10 : Hid (Keep w10 D g 0 O false) := K9.out.kept N10.out
  have k0 := K10.out.cell0
  have k1 := K10.out.cell1
  have k2' := K10.out.cell2
  have k3 := K10.out.cell3
  have S10' : Hid (St w w10 D a1 a2 n zs u x (T + T2) true (O - T - T2)) := by have := S10.out; rw [aft_held] at this; exact this
  clear N10 S10 K10 K9 S9
  go_wp2_with fail
  refine (st_lift D n (T + T2) a2 a1 0 O (O - T - T2) false true zs u x w w10 S10'.out (by omega) (by omega) (by omega) (by omega) (0 - ((T : Int) + T2)) (by omega)).mono ?_
  rintro e w11 ⟨rfl, S11, N11⟩
  clear k0 k1 k2' k3 S10' N11
  have hc3 : Hid (((n - T - T2 : Nat) : Int) = (n : Int) - (T : Int) - (T2 : Int)) := by show _ = _; omega
  have hca : Hid ((T : Int) + (T2 : Int) = ((T + T2 : Nat) : Int)) := by show _ = _; omega
  go_wp2_with fail
  rw [hca.out]
  refine (st_read D n (T + T2) a2 a1 false (0 - ((T : Int) + T2)) zs u x ((n : Int) + 1) w w11 S11.out hn (by omega) (by omega) (by omega) (n - T - T2) HT3.out).mono ?_
  rintro e w12 ⟨rfl, S12, N12⟩
  have BB : Hid (Below w.heap.size w w12) := S12.out.below
  have e3 := hc3.out
  clear S11 S12 N12 HT HT2 HT3 HH HO hTI hc3 hca
  go_wp2
  go_ret
  exact ⟨rfl, BB.out⟩
end Go.Proofs.Qxb6608773aDoor.fnBoundLiftNestedPairRestoresFreeReading
