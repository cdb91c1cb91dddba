import Derived.Test.Qxb6608773aDoorReadUp
namespace Go.Proofs.Qxb6608773aDoor.Hess
open Go.ChangeShapes Go.WideShapes Go.ChangeAt Go.RowKit
set_option linter.unusedVariables false



set_option maxRecDepth 100000 in
set_option maxHeartbeats 1000000 in
theorem bound_free (D : Nat) (lf q m : Int) (w : World) (hD : D < w.heap.size) (c1 : w.cell? ⟨D, 1, none⟩ = some (.pointer (some ⟨D, 0, none⟩))) (c86 : w.cell? ⟨D, 86, none⟩ = some (.bool false)) (c87 : w.cell? ⟨D, 87, none⟩ = some (.int .i64 lf)) (f86 : w.frozen? ⟨D, 86, none⟩ = false) (f87 : w.frozen? ⟨D, 87, none⟩ = false) (hm : m = max q 0) :
    Calls Tryd.prog 14 #[.pointer (some ⟨D, 1, none⟩), .int .i64 q] w fun e w' => e = .returned (.agg #[.pointer (some ⟨D, 0, none⟩), .int .i64 lf, .int .i64 m, .bool false]) ∧
      w' = ((((w.setCell ⟨D, 87, none⟩ (.int .i64 m)).setCell ⟨D, 86, none⟩ (.bool true)).alloc (.cells #[.pointer (some ⟨D, 0, none⟩), .int .i64 lf, .int .i64 m, .bool false] 34)).alloc (.cells #[.pointer (some ⟨D, 0, none⟩), .int .i64 lf, .int .i64 m, .bool false] 34)).drew := by
  by_cases hq : q < 0
  · obtain rfl : m = 0 := by omega
    clear hm
    go_enter Tryd.func14, Tryd.ntmps14
    go_wp2
    go_region
    go_wp2
    exact bodyPost_ret (v := .agg #[.pointer (some ⟨D, 0, none⟩), .int .i64 lf, .int .i64 0, .bool false]) (by simp [results, Tryd.results14, go_sem]) rfl ⟨rfl, rfl⟩
  · obtain rfl : m = q := by omega
    clear hm
    go_enter Tryd.func14, Tryd.ntmps14
    go_wp2
    go_region
    go_wp2
    exact bodyPost_ret (v := .agg #[.pointer (some ⟨D, 0, none⟩), .int .i64 lf, .int .i64 m, .bool false]) (by simp [results, Tryd.results14, go_sem]) rfl ⟨rfl, rfl⟩

set_option maxRecDepth 100000 in
set_option maxHeartbeats 1000000 in
theorem bound_held (D : Nat) (lf q m r : Int) (w : World) (hD : D < w.heap.size) (c1 : w.cell? ⟨D, 1, none⟩ = some (.pointer (some ⟨D, 0, none⟩))) (c86 : w.cell? ⟨D, 86, none⟩ = some (.bool true)) (c87 : w.cell? ⟨D, 87, none⟩ = some (.int .i64 lf)) (f86 : w.frozen? ⟨D, 86, none⟩ = false) (f87 : w.frozen? ⟨D, 87, none⟩ = false) (hm : m = max q 0) (hr : r = min m lf) (hlf : 0 ≤ lf) :
    Calls Tryd.prog 14 #[.pointer (some ⟨D, 1, none⟩), .int .i64 q] w fun e w' => e = .returned (.agg #[.pointer (some ⟨D, 0, none⟩), .int .i64 lf, .int .i64 r, .bool true]) ∧
      w' = (((((w.setCell ⟨D, 87, none⟩ (.int .i64 m)).setCell ⟨D, 86, none⟩ (.bool true)).setCell ⟨D, 87, none⟩ (.int .i64 r)).alloc (.cells #[.pointer (some ⟨D, 0, none⟩), .int .i64 lf, .int .i64 r, .bool true] 34)).alloc (.cells #[.pointer (some ⟨D, 0, none⟩), .int .i64 lf, .int .i64 r, .bool true] 34)).drew.drew := by
  by_cases hq : q < 0
  · obtain rfl : m = 0 := by omega
    obtain rfl : r = 0 := by omega
    have hn : ¬ lf < 0 := by omega
    clear hm hr
    go_enter Tryd.func14, Tryd.ntmps14
    go_wp2
    go_region
    go_wp2
    go_region
    go_wp2
    exact bodyPost_ret (v := .agg #[.pointer (some ⟨D, 0, none⟩), .int .i64 lf, .int .i64 0, .bool true]) (by simp [results, Tryd.results14, go_sem]) rfl ⟨rfl, rfl⟩
  · obtain rfl : m = q := by omega
    by_cases hlt : lf < m
    · obtain rfl : r = lf := by omega
      clear hm hr
      go_enter Tryd.func14, Tryd.ntmps14
      go_wp2
      go_region
      go_wp2
      go_region
      go_wp2
      exact bodyPost_ret (v := .agg #[.pointer (some ⟨D, 0, none⟩), .int .i64 r, .int .i64 r, .bool true]) (by simp [results, Tryd.results14, go_sem]) rfl ⟨rfl, rfl⟩
    · obtain rfl : r = m := by omega
      clear hm hr
      go_enter Tryd.func14, Tryd.ntmps14
      go_wp2
      go_region
      go_wp2
      go_region
      go_wp2
      exact bodyPost_ret (v := .agg #[.pointer (some ⟨D, 0, none⟩), .int .i64 lf, .int .i64 r, .bool true]) (by simp [results, Tryd.results14, go_sem]) rfl ⟨rfl, rfl⟩

set_option maxRecDepth 100000 in
set_option maxHeartbeats 1000000 in
theorem lift (D : Nat) (ou nn lf : Int) (ob bd : Bool) (w : World) (hD : D < w.heap.size) (c86 : w.cell? ⟨D, 86, none⟩ = some (.bool bd)) (c87 : w.cell? ⟨D, 87, none⟩ = some (.int .i64 lf)) (f86 : w.frozen? ⟨D, 86, none⟩ = false) (f87 : w.frozen? ⟨D, 87, none⟩ = false)
   (h1 : 0 ≤ nn - lf) (h2 : nn - lf ≤ 9223372036854775807) (h3 : -9223372036854775808 ≤ ou - (nn - lf)) (h4 : ou - (nn - lf) ≤ 9223372036854775807) :
    Calls Tryd.prog 16 #[.agg #[.pointer (some ⟨D, 0, none⟩), .int .i64 ou, .int .i64 nn, .bool ob]] w fun e w' => e = .returned (.tuple #[]) ∧
      ∃ nq, w' = ((((w.alloc (.cells #[.pointer (some ⟨D, 0, none⟩), .int .i64 ou, .int .i64 nn, .bool ob] 34)).drewN nq).setCell ⟨D, 87, none⟩ (.int .i64 (ou - (nn - lf)))).setCell ⟨D, 86, none⟩ (.bool ob)) := by
  go_enter Tryd.func16, Tryd.ntmps16
  go_wp2
  go_quiet (fail)
  go_wp2
  go_region
  go_end0
  exact ⟨rfl, _, rfl⟩

/-! ### Over 'Dec' -/
/-- What a Bound of q holds the readers to. -/
def hold (bd : Bool) (lf q : Int) : Int := if bd then min (max q 0) lf else max q 0

theorem Dec.alloc {w : World} {D : Nat} {a : Option Addr} {n k : Nat} {bd : Bool} {lf : Int} (h : Dec w D a n k bd lf) (o : Obj) : Dec (w.alloc o) D a n k bd lf := by
  obtain ⟨C, h0, r⟩ := h
  exact ⟨C, by rw [Below.heap_alloc _ _ _ (lt_of_block h0), h0], r⟩

theorem bound_any (D n k : Nat) (a : Option Addr) (bd : Bool) (lf q : Int) (w : World) (hd : Dec w D a n k bd lf) (hlf : bd = true → 0 ≤ lf) :
    Calls Tryd.prog 14 #[.pointer (some ⟨D, 1, none⟩), .int .i64 q] w fun e w' => e = .returned (.agg #[.pointer (some ⟨D, 0, none⟩), .int .i64 lf, .int .i64 (hold bd lf q), .bool bd]) ∧ Hid (Dec w' D a n k true (hold bd lf q)) ∧ Hid (Only D w w') := by
  have hd0 := hd
  obtain ⟨C, h0, h1, h2, h3, h4, h5⟩ := hd
  cases bd
  · refine (bound_free D lf q _ w (lt_of_block h0) (by rw [cell_of h0, h2]) (by rw [cell_of h0, h4]) (by rw [cell_of h0, h5]) (unfrozen_of h0 _) (unfrozen_of h0 _) rfl).mono ?_
    rintro e w' ⟨rfl, rfl⟩
    exact ⟨rfl, (((hd0.setLeft _).setBounded true).alloc _).alloc _, ((((Only.refl D w).set _ _).set _ _).alloc _).alloc _ |>.drew 1⟩
  · refine (bound_held D lf q _ _ w (lt_of_block h0) (by rw [cell_of h0, h2]) (by rw [cell_of h0, h4]) (by rw [cell_of h0, h5]) (unfrozen_of h0 _) (unfrozen_of h0 _) rfl rfl (hlf rfl)).mono ?_
    rintro e w' ⟨rfl, rfl⟩
    exact ⟨rfl, ((((hd0.setLeft _).setBounded true).setLeft _).alloc _).alloc _, (((((Only.refl D w).set _ _).set _ _).set _ _).alloc _).alloc _ |>.drew 2⟩

theorem lift_any (D n k : Nat) (a : Option Addr) (ou nn lf : Int) (ob bd : Bool) (w : World) (hd : Dec w D a n k bd lf)
   (h1 : 0 ≤ nn - lf) (h2 : nn - lf ≤ 9223372036854775807) (h3 : -9223372036854775808 ≤ ou - (nn - lf)) (h4 : ou - (nn - lf) ≤ 9223372036854775807) :
    Calls Tryd.prog 16 #[.agg #[.pointer (some ⟨D, 0, none⟩), .int .i64 ou, .int .i64 nn, .bool ob]] w fun e w' => e = .returned (.tuple #[]) ∧ Hid (Dec w' D a n k ob (ou - (nn - lf))) ∧ Hid (Only D w w') := by
  have hd0 := hd
  obtain ⟨C, g0, g1, g2, g3, g4, g5⟩ := hd
  refine (lift D ou nn lf ob bd w (lt_of_block g0) (by rw [cell_of g0, g4]) (by rw [cell_of g0, g5]) (unfrozen_of g0 _) (unfrozen_of g0 _) h1 h2 h3 h4).mono ?_
  rintro e w' ⟨rfl, nq, rfl⟩
  exact ⟨rfl, (((hd0.alloc _).drew nq).setLeft _).setBounded ob, ((((Only.refl D w).alloc _).drew nq).set _ _).set _ _⟩
end Go.Proofs.Qxb6608773aDoor.Hess
