/-
  zzCloneBytesB1 and NewDecoder: their contracts.
-/
import Derived.Test.Qxb6608773aDoorBounds
namespace Go.Proofs.Qxb6608773aDoor.Hess
open Go.ChangeShapes Go.WideShapes Go.ChangeAt Go.RowKit
set_option linter.unusedVariables false

theorem eql22 (a : Option Addr) (n c : Nat) (w : World) : (binOp .eql 22 (.slice a n c) (.slice none 0 0)).run Tryd.prog w = .ok (.bool a.isNone) w := by
  simp only [binOp]
  simp [run_equal_slice_nil w 22 5 a n c Tryd.underlying22]

theorem info5 : (Tryd.prog.info? 5).map (fun i => (i.zero, i.size, i.bytes)) = some (some (.int .u8 0), 1, 1) := by kernel_rfl

/-- The first k words are there, the others are nought. -/
def part (zs : List Int) (n k : Nat) : List Int := zs.take k ++ List.replicate (n - k) 0

theorem part_zero (zs : List Int) (n : Nat) : madeCells #[.int .u8 0] n = row (part zs n 0) := by
  apply Array.ext
  · simp [size_madeCells, row, part]
  · intro i h1 h2
    simp [madeCells, row, part, Nat.mod_one]
theorem part_all (zs : List Int) : part zs zs.length zs.length = zs := by simp [part]
theorem part_length (zs : List Int) (n k : Nat) (hk : k ≤ n) (hz : zs.length = n) : (part zs n k).length = n := by simp [part]; omega
theorem part_succ (zs : List Int) (n k : Nat) (hk : k < n) (hz : zs.length = n) : (part zs n k).set k (zs.getD k 0) = part zs n (k + 1) := by
  unfold part
  have hl : (zs.take k).length = k := by simp; omega
  rw [List.set_append_right _ _ (by omega), hl, Nat.sub_self]
  obtain ⟨m, hm⟩ : ∃ m, n - k = m + 1 := ⟨n - k - 1, by omega⟩
  rw [hm, List.replicate_succ, List.set_cons_zero, List.take_succ_eq_append_getElem (show k < zs.length by omega), show n - (k + 1) = m from by omega, List.append_assoc]
  have e : zs.getD k 0 = zs[k]'(by omega) := by simp [List.getD, List.getElem?_eq_getElem (show k < zs.length by omega)]
  rw [e]
  rfl
theorem row_set (l : List Int) (k : Nat) (x : Int) : (row l).setIfInBounds k (.int .u8 x) = row (l.set k x) := by
  simp [row, List.map_set]
theorem new_cell (w : World) (c : Array Value) (t : TypeId) (o : Nat) : (w.alloc (.cells c t)).cell? ⟨w.heap.size, o, none⟩ = c[o]? := by
  have : (w.alloc (.cells c t)).heap[w.heap.size]? = some (.cells c t) := (MapKept.heap_alloc w _).1
  unfold World.cell?
  rw [this]
  simp
theorem new_frozen (w : World) (c : Array Value) (t : TypeId) (o : Nat) : (w.alloc (.cells c t)).frozen? ⟨w.heap.size, o, none⟩ = false := by
  have : (w.alloc (.cells c t)).heap[w.heap.size]? = some (.cells c t) := (MapKept.heap_alloc w _).1
  unfold World.frozen?
  rw [this]
  simp
set_option maxHeartbeats 400000 in
theorem clone_some (b off n c : Nat) (zs : List Int) (w : World) (hn : n ≤ 1048576) (hz : zs.length = n) (hcell : ∀ i, i < n → w.cell? ⟨b, off + i, none⟩ = some (.int .u8 (zs.getD i 0))) (hb : b < w.heap.size) :
    Calls Tryd.prog 8 #[.slice (some ⟨b, off, none⟩) n c] w fun e w' => e = .returned (.slice (some ⟨w.heap.size, 0, none⟩) n n) ∧ w' = w.alloc (.cells (row zs) 5) := by
  have e0 := eql22 (some ⟨b, off, none⟩) n c w
  have hmk := run_make_row' (P := Tryd.prog) 22 5 (.int .u8 0) 1 Tryd.underlying22 info5 rfl .i64 .i64 n (by omega) (by omega) w
  rw [part_zero zs] at hmk
  go_enter Tryd.func8, Tryd.ntmps8
  go_wp2
  clear e0 hmk
  go_loopw [4] (fun i wr => ∃ k : Nat, k ≤ n ∧ i = .int .i64 k ∧ wr = w.alloc (.cells (row (part zs n k)) 5)) (fun i _ => n - (intOf i).toNat)
  case atStart => exact ⟨0, Nat.zero_le _, rfl, rfl⟩
  case round =>
    obtain ⟨k, hk, rfl, rfl⟩ := hrel
    by_cases hlt : k < n
    · have g1 : (w.alloc (.cells (row (part zs n k)) 5)).cell? ⟨b, off + k, none⟩ = some (.int .u8 (zs.getD k 0)) := by
        rw [World.cell?_alloc_past _ _ _ hb]; exact hcell k hlt
      have g2 : (w.alloc (.cells (row (part zs n k)) 5)).cell? ⟨w.heap.size, k, none⟩ = some (.int .u8 ((part zs n k).getD k 0)) := by
        rw [new_cell, row_get _ _ (by rw [part_length zs n k hk hz]; exact hlt)]
      have g3 := new_frozen w (row (part zs n k)) 5 k
      have g4 : Hid ((row (part zs n k)).setIfInBounds k (.int .u8 (zs.getD k 0)) = row (part zs n (k + 1))) := by
        show _ = _
        rw [row_set, part_succ zs n k hlt hz]
      generalize hX : zs.getD k 0 = x at g1 g4
      clear hX hcell
      go_wp2
      go_roundw
      case rel => exact ⟨k + 1, by omega, by go_num, by rw [g4.out]⟩
      case measure => simp [intOf]; omega
    · go_wp2
      go_ret
      have : k = n := by omega
      subst this
      exact ⟨rfl, by rw [← hz, part_all]⟩
theorem clone_nil (w : World) : Calls Tryd.prog 8 #[.slice none 0 0] w fun e w' => e = .returned (.slice none 0 0) ∧ w' = w := by
  have e0 := eql22 none 0 0 w
  go_enter Tryd.func8, Tryd.ntmps8
  go_wp2
  go_ret
  exact ⟨rfl, rfl⟩

/-- The slice a, of a block of its own, holds the bytes zs. -/
def Own (w : World) (a : Option Addr) (n : Nat) (zs : List Int) : Prop :=
  zs.length = n ∧ ((a = none ∧ n = 0) ∨ ∃ g, a = some ⟨g, 0, none⟩ ∧ w.heap[g]? = some (.cells (row zs) 5 (0, 0)))
theorem Own.kept {w w' : World} {a : Option Addr} {n : Nat} {zs : List Int} (h : Own w a n zs) (hb : Below w.heap.size w w') : Own w' a n zs := by
  obtain ⟨h1, h2 | ⟨g, h2, h3⟩⟩ := h
  · exact ⟨h1, .inl h2⟩
  · exact ⟨h1, .inr ⟨g, h2, by rw [hb.block g (lt_of_block h3), h3]⟩⟩
theorem Own.bytes {w w' : World} {a : Option Addr} {n : Nat} {zs : List Int} (h : Own w a n zs) (hb : Only w.heap.size w w') : Bytes w' w.heap.size a n zs := by
  obtain ⟨h1, h2 | ⟨g, h2, h3⟩⟩ := h
  · exact ⟨h1, .inl h2⟩
  · have hg := lt_of_block h3
    exact ⟨h1, .inr ⟨g, h2, by omega, hb.kept h3 (by omega)⟩⟩

theorem own_alloc (w : World) (zs : List Int) (n : Nat) (hz : zs.length = n) : Own (w.alloc (.cells (row zs) 5)) (some ⟨w.heap.size, 0, none⟩) n zs ∧ Below w.heap.size w (w.alloc (.cells (row zs) 5)) :=
  ⟨⟨hz, .inr ⟨_, rfl, (MapKept.heap_alloc w _).1⟩⟩, (Below.refl _ _).alloc (Nat.le_refl _) _⟩

/-- What a law is told of the slice that came in. -/
def Given (w : World) (a : Option Addr) (n c : Nat) (zs : List Int) : Prop :=
  zs.length = n ∧ ((a = none ∧ n = 0 ∧ c = 0) ∨ ∃ x, a = some x ∧ ∀ i, i < n → w.cell? (x.add i) = some (.int .u8 (zs.getD i 0)))

theorem clone_zero (x : Addr) (c : Nat) (w : World) :
    Calls Tryd.prog 8 #[.slice (some x) 0 c] w fun e w' => e = .returned (.slice (some ⟨w.heap.size, 0, none⟩) 0 0) ∧ w' = w.alloc (.cells (row []) 5) := by
  have e0 := eql22 (some x) 0 c w
  have hmk : (Instr.makeSlice 22 (.int .i64 0) (.int .i64 0)).run Tryd.prog w = .ok (.slice (some ⟨w.heap.size, 0, none⟩) 0 0) (w.alloc (.cells (row []) 5)) := by
    rw [← show madeCells #[.int .u8 0] 0 = row [] from part_zero [] 0]
    exact run_make_row' (P := Tryd.prog) 22 5 (.int .u8 0) 1 Tryd.underlying22 info5 rfl .i64 .i64 0 (by omega) (by omega) w
  go_enter Tryd.func8, Tryd.ntmps8
  go_wp2
  clear e0 hmk
  go_loopw [4] (fun i wr => i = .int .i64 0 ∧ wr = w.alloc (.cells (row []) 5)) (fun i _ => 0)
  case atStart => exact ⟨rfl, rfl⟩
  case round =>
    obtain ⟨rfl, rfl⟩ := hrel
    go_wp2
    go_ret
    exact ⟨rfl, rfl⟩


/-- zzCloneBytesB1 of the slice that came in. -/
theorem clone_arg (a : Option Addr) (n c : Nat) (zs : List Int) (w : World) (hn : n ≤ 1048576) (h : Given w a n c zs) :
    Calls Tryd.prog 8 #[.slice a n c] w fun e w' => ∃ a', e = .returned (.slice a' n n) ∧ Hid (Own w' a' n zs) ∧ Hid (Below w.heap.size w w') := by
  obtain ⟨hz, ⟨rfl, rfl, rfl⟩ | ⟨x, rfl, hx⟩⟩ := h
  · refine (clone_nil w).mono fun e w' ⟨he, hw⟩ => ?_
    subst hw
    exact ⟨none, he, ⟨hz, .inl ⟨rfl, rfl⟩⟩, Below.refl _ _⟩
  · by_cases h0 : n = 0
    · subst h0
      refine (clone_zero x c w).mono fun e w' ⟨he, hw⟩ => ?_
      subst hw
      have hnil : zs = [] := List.eq_nil_of_length_eq_zero hz
      subst hnil
      exact ⟨_, he, (own_alloc w [] 0 rfl).1, (own_alloc w [] 0 rfl).2⟩
    · obtain ⟨b, off, spot⟩ := x
      have hsp : spot = none := by simpa [Addr.add] using World.cell?_spot (hx 0 (by omega))
      subst hsp
      have hx' : ∀ i, i < n → w.cell? ⟨b, off + i, none⟩ = some (.int .u8 (zs.getD i 0)) := fun i hi => by rw [← add_plain]; exact hx i hi
      have hb : b < w.heap.size := by
        have h1 := hx' 0 (by omega)
        rcases Nat.lt_or_ge b w.heap.size with h | h
        · exact h
        · simp [World.cell?, Array.getElem?_eq_none h] at h1
      refine (clone_some b off n c zs w hn hz hx' hb).mono fun e w' ⟨he, hw⟩ => ?_
      subst hw
      exact ⟨_, he, (own_alloc w zs n hz).1, (own_alloc w zs n hz).2⟩

/-- zzCloneBytesB1 of a slice of the call's own. -/
theorem clone_own (a : Option Addr) (n : Nat) (zs : List Int) (w : World) (hn : n ≤ 1048576) (h : Own w a n zs) :
    Calls Tryd.prog 8 #[.slice a n n] w fun e w' => ∃ a', e = .returned (.slice a' n n) ∧ Hid (Own w' a' n zs) ∧ Hid (Below w.heap.size w w') := by
  refine clone_arg a n n zs w hn ⟨h.1, ?_⟩
  obtain ⟨hz, ⟨rfl, rfl⟩ | ⟨g, rfl, hg⟩⟩ := h
  · exact .inl ⟨rfl, rfl, rfl⟩
  · refine .inr ⟨_, rfl, fun i hi => ?_⟩
    rw [add_plain, Nat.zero_add, cell_of hg, row_get _ _ (by omega)]

set_option maxRecDepth 100000 in
theorem new_dec (a : Option Addr) (n : Nat) (w : World) :
    Calls Tryd.prog 9 #[.slice a n n] w fun e w' => e = .returned (.pointer (some ⟨w.heap.size, 0, none⟩)) ∧ Hid (Dec w' w.heap.size a n 0 false 0) ∧ Hid (Only w.heap.size w w') := by
  have hz := zero47 w
  have hne := decZero_ne
  have d0 : decZero[0]? = some (.slice none 0 0) := by kernel_rfl
  have d1 : decZero[1]? = some (.pointer none) := by kernel_rfl
  have d2 : decZero[2]? = some (.int .i64 0) := by kernel_rfl
  have d3 : decZero[3]? = some (.int .i64 0) := by kernel_rfl
  have d4 : decZero[4]? = some (.bool false) := by kernel_rfl
  have d13 : decZero[13]? = some (.slice none 0 0) := by kernel_rfl
  have d86 : decZero[86]? = some (.bool false) := by kernel_rfl
  have d87 : decZero[87]? = some (.int .i64 0) := by kernel_rfl
  have HW : Hid (∀ C : Array Value, C = ((((((decZero.setIfInBounds 0 (Value.slice a n n)).setIfInBounds 1 (Value.pointer (some { block := w.heap.size, off := 0 }))).setIfInBounds 2 (Value.int IntKind.i64 0)).setIfInBounds
      3 (Value.int IntKind.i64 0)).setIfInBounds 4 (Value.bool true)).setIfInBounds 13 (Value.slice (some { block := w.heap.size, off := 22 }) 0 64)) →
      Dec (w.alloc (.cells C 47)) w.heap.size a n 0 false 0) := by
    show ∀ C : Array Value, _
    intro C hC
    refine ⟨C, (MapKept.heap_alloc w _).1, ?_, ?_, ?_, ?_, ?_⟩
    · rw [hC, get_set (get_set (get_set (get_set (get_set (get_set d0)))))]; rfl
    · rw [hC, get_set (get_set (get_set (get_set (get_set (get_set d1)))))]; rfl
    · rw [hC, get_set (get_set (get_set (get_set (get_set (get_set d2)))))]; rfl
    · rw [hC, get_set (get_set (get_set (get_set (get_set (get_set d86)))))]; rfl
    · rw [hC, get_set (get_set (get_set (get_set (get_set (get_set d87)))))]; rfl
  clear d0 d86 d87
  go_enter Tryd.func9, Tryd.ntmps9
  go_wp2
  go_ret
  exact ⟨rfl, HW.out _ rfl, (Only.refl _ w).alloc _⟩
end Go.Proofs.Qxb6608773aDoor.Hess
