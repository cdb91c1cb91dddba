import Derived.Test.Qxb6608752aRows
import Derived.WalkKit
import Derived.ProofKit
import Derived.OpenShut
import Derived.ShutString
import Derived.ChangeOld
import Derived.Below
import Derived.Deep.QuietTactic
import Derived.BigQuiet
import Derived.StillTactics
import Derived.Laws.Pointers
import Derived.Deep.OwnRows
import Derived.LoopTactic
import Derived.Laws.Cover3
namespace Go.Proofs.Qxb6608752a.Marks
open Go.ChangeShapes Go.WideShapes Go.ChangeAt Go.RowKit
set_option linter.unusedVariables false

theorem eql30 (a : Option Addr) (n c : Nat) (w : World) : (binOp .eql 30 (.slice a n c) (.slice none 0 0)).run Try.prog w = .ok (.bool a.isNone) w := by
  simp only [binOp]
  simp [run_equal_slice_nil w 30 37 a n c Try.underlying30]

theorem info37 : (Try.prog.info? 37).map (fun i => (i.zero, i.size, i.bytes)) = some (some (.int .u64 0), 1, 8) := by kernel_rfl

/-- The cells of the words zs. -/
def row (zs : List Int) : Array Value := (zs.map (Value.int .u64)).toArray
/-- The first k words are there, the others are nought. -/
def part (zs : List Int) (n k : Nat) : List Int := zs.take k ++ List.replicate (n - k) 0

theorem part_zero (zs : List Int) (n : Nat) : madeCells #[.int .u64 0] n = row (part zs n 0) := by
  apply Array.ext
  · simp [size_madeCells, row, part]
  · intro i h1 h2
    simp [madeCells, row, part, Nat.mod_one]
theorem part_all (zs : List Int) : part zs zs.length zs.length = zs := by simp [part]
theorem part_length (zs : List Int) (n k : Nat) (hk : k ≤ n) (hz : zs.length = n) : (part zs n k).length = n := by simp [part]; omega
theorem part_succ (zs : List Int) (n k : Nat) (hk : k < n) (hz : zs.length = n) : (part zs n k).set k (zs.getD k 0) = part zs n (k + 1) := by
  unfold part
  have hl : (zs.take k).length = k := by simp; omega
  rw [List.set_append_right _ _ (by omega), hl, Nat.sub_self]
  obtain ⟨m, hm⟩ : ∃ m, n - k = m + 1 := ⟨n - k - 1, by omega⟩
  rw [hm, List.replicate_succ, List.set_cons_zero, List.take_succ_eq_append_getElem (show k < zs.length by omega), show n - (k + 1) = m from by omega, List.append_assoc]
  have e : zs.getD k 0 = zs[k]'(by omega) := by simp [List.getD, List.getElem?_eq_getElem (show k < zs.length by omega)]
  rw [e]
  rfl
theorem row_set (l : List Int) (k : Nat) (x : Int) : (row l).setIfInBounds k (.int .u64 x) = row (l.set k x) := by
  simp [row, List.map_set]
theorem row_get (l : List Int) (k : Nat) (h : k < l.length) : (row l)[k]? = some (.int .u64 (l.getD k 0)) := by
  simp [row, h, List.getD]

theorem new_cell (w : World) (c : Array Value) (t : TypeId) (o : Nat) : (w.alloc (.cells c t)).cell? ⟨w.heap.size, o, none⟩ = c[o]? := by
  have : (w.alloc (.cells c t)).heap[w.heap.size]? = some (.cells c t) := (MapKept.heap_alloc w _).1
  unfold World.cell?
  rw [this]
  simp
theorem new_frozen (w : World) (c : Array Value) (t : TypeId) (o : Nat) : (w.alloc (.cells c t)).frozen? ⟨w.heap.size, o, none⟩ = false := by
  have : (w.alloc (.cells c t)).heap[w.heap.size]? = some (.cells c t) := (MapKept.heap_alloc w _).1
  unfold World.frozen?
  rw [this]
  simp
set_option maxHeartbeats 400000 in
theorem clone_some (b off n c : Nat) (zs : List Int) (w : World) (hn : n ≤ 1048576) (hz : zs.length = n) (hcell : ∀ i, i < n → w.cell? ⟨b, off + i, none⟩ = some (.int .u64 (zs.getD i 0))) (hb : b < w.heap.size) :
    Calls Try.prog 16 #[.slice (some ⟨b, off, none⟩) n c] w fun e w' => e = .returned (.slice (some ⟨w.heap.size, 0, none⟩) n n) ∧ w' = w.alloc (.cells (row zs) 37) := by
  have e0 := eql30 (some ⟨b, off, none⟩) n c w
  have hmk := run_make_row' (P := Try.prog) 30 37 (.int .u64 0) 8 Try.underlying30 info37 rfl .i64 .i64 n (by omega) (by omega) w
  rw [part_zero zs] at hmk
  go_enter Try.func16, Try.ntmps16
  go_wp2
  clear e0 hmk
  go_loopw [4] (fun i wr => ∃ k : Nat, k ≤ n ∧ i = .int .i64 k ∧ wr = w.alloc (.cells (row (part zs n k)) 37)) (fun i _ => n - (intOf i).toNat)
  case atStart => exact ⟨0, Nat.zero_le _, rfl, rfl⟩
  case round =>
    obtain ⟨k, hk, rfl, rfl⟩ := hrel
    by_cases hlt : k < n
    · have g1 : (w.alloc (.cells (row (part zs n k)) 37)).cell? ⟨b, off + k, none⟩ = some (.int .u64 (zs.getD k 0)) := by
        rw [World.cell?_alloc_past _ _ _ hb]; exact hcell k hlt
      have g2 : (w.alloc (.cells (row (part zs n k)) 37)).cell? ⟨w.heap.size, k, none⟩ = some (.int .u64 ((part zs n k).getD k 0)) := by
        rw [new_cell, row_get _ _ (by rw [part_length zs n k hk hz]; exact hlt)]
      have g3 := new_frozen w (row (part zs n k)) 37 k
      have g4 : Hid ((row (part zs n k)).setIfInBounds k (.int .u64 (zs.getD k 0)) = row (part zs n (k + 1))) := by
        show _ = _
        rw [row_set, part_succ zs n k hlt hz]
      generalize hX : zs.getD k 0 = x at g1 g4
      clear hX hcell
      go_wp2
      go_roundw
      case rel => exact ⟨k + 1, by omega, by go_num, by rw [g4.out]⟩
      case measure => simp [intOf]; omega
    · go_wp2
      go_ret
      have : k = n := by omega
      subst this
      exact ⟨rfl, by rw [← hz, part_all]⟩
theorem clone_nil (w : World) : Calls Try.prog 16 #[.slice none 0 0] w fun e w' => e = .returned (.slice none 0 0) ∧ w' = w := by
  have e0 := eql30 none 0 0 w
  go_enter Try.func16, Try.ntmps16
  go_wp2
  go_ret
  exact ⟨rfl, rfl⟩

theorem cell_of {w : World} {b : Nat} {c : Array Value} {t : TypeId} {f : Nat × Nat} (h : w.heap[b]? = some (.cells c t f)) (o : Nat) : w.cell? ⟨b, o, none⟩ = c[o]? := by
  simp [World.cell?, h]
theorem unfrozen_of {w : World} {b : Nat} {c : Array Value} {t : TypeId} (h : w.heap[b]? = some (.cells c t (0, 0))) (o : Nat) : w.frozen? ⟨b, o, none⟩ = false := by
  simp [World.frozen?, h]
theorem lt_of_block {w : World} {b : Nat} {o : Obj} (h : w.heap[b]? = some o) : b < w.heap.size := (Array.getElem?_eq_some_iff.1 h).1

/-- w' is w with one block more, which holds o. -/
structure Plus (w w' : World) (N : Nat) (o : Obj) : Prop where
  below : Below w.heap.size w w'
  was : w.heap.size = N
  size : w'.heap.size = N + 1
  block : w'.heap[N]? = some o

theorem plus_alloc (w : World) (o : Obj) : Plus w (w.alloc o) w.heap.size o :=
  ⟨(Below.refl _ _).alloc (Nat.le_refl _) _, rfl, by simp, (MapKept.heap_alloc w o).1⟩

/-- w' holds the blocks of w. -/
structure Alike (w w' : World) : Prop where
  below : Below w.heap.size w w'
  heap : w'.heap = w.heap

theorem alike_drew (w : World) (k : Nat) : Alike w (w.drewN k) := by
  refine ⟨⟨rfl, rfl, rfl, Nat.le_refl _, fun _ _ => rfl⟩, rfl⟩

/-- fnb1CloneWords at a row that the call made. -/
theorem clone_row (g n N : Nat) (zs : List Int) (w : World) (hN : w.heap.size = N) (hn : n ≤ 1048576) (hz : zs.length = n) (hb : w.heap[g]? = some (.cells (row zs) 37 (0, 0))) :
    Calls Try.prog 16 #[.slice (some ⟨g, 0, none⟩) n n] w fun e w' => e = .returned (.slice (some ⟨N, 0, none⟩) n n) ∧ Hid (Plus w w' N (.cells (row zs) 37 (0, 0))) := by
  subst hN
  refine (clone_some g 0 n n zs w hn hz (fun i hi => ?_) (lt_of_block hb)).mono fun e w' ⟨he, hw⟩ => ?_
  · rw [Nat.zero_add, cell_of hb, row_get _ _ (by omega)]
  · subst hw
    exact ⟨he, plus_alloc _ _⟩

/-- What an objectMarks holds. -/
def marks (f t : Int) (a : Option Addr) (n c : Nat) : Array Value := #[.int .i64 f, .int .i64 t, .slice a n c, .slice none 0 0, .slice none 0 0]

theorem new_marks (f t : Int) (a : Option Addr) (n c N : Nat) (w : World) (hN : w.heap.size = N) :
    Calls Try.prog 17 #[.int .i64 f, .int .i64 t, .slice a n c] w fun e w' => e = .returned (.pointer (some ⟨N, 0, none⟩)) ∧ Hid (Plus w w' N (.cells (marks f t a n c) 58 (0, 0))) := by
  subst hN
  have P := plus_alloc w (.cells (marks f t a n c) 58 (0, 0))
  have HP : Hid (Plus w (w.alloc (.cells #[.int .i64 f, .int .i64 t, .slice a n c, .slice none 0 0, .slice none 0 0] 58)) w.heap.size (.cells (marks f t a n c) 58 (0, 0))) := P
  clear P
  go_enter Try.func17, Try.ntmps17
  go_wp2
  go_ret
  exact ⟨rfl, HP.out⟩

/-- Is the bit at j of the word x set? -/
def bitAt (x j : Int) : Bool := bits BinOp.and IntKind.u64 x (IntKind.u64.wrap (2 ^ (j % 64).toNat)) != 0

theorem look_out (m n c : Nat) (a : Option Addr) (f t at_ : Int) (w : World) (hb : w.heap[m]? = some (.cells (marks f t a n c) 58 (0, 0))) (h : at_ < f ∨ t ≤ at_) :
    Calls Try.prog 18 #[.pointer (some ⟨m, 0, none⟩), .int .i64 at_] w fun e w' => e = .returned (.tuple #[.bool false, .bool false]) ∧ w' = w := by
  have c0 : w.cell? ⟨m, 0, none⟩ = some (.int .i64 f) := by rw [cell_of hb]; rfl
  have c1 : w.cell? ⟨m, 1, none⟩ = some (.int .i64 t) := by rw [cell_of hb]; rfl
  clear hb
  by_cases h1 : at_ < f
  · clear h
    go_enter Try.func18, Try.ntmps18
    go_wp2
    go_ret2
    exact ⟨rfl, rfl⟩
  · have h2 : t ≤ at_ := by omega
    clear h
    go_enter Try.func18, Try.ntmps18
    go_wp2
    go_ret2
    exact ⟨rfl, rfl⟩

theorem look_short (m n c : Nat) (a : Option Addr) (f t at_ : Int) (w : World) (hb : w.heap[m]? = some (.cells (marks f t a n c) 58 (0, 0)))
    (h0 : 0 ≤ f) (h1 : f ≤ at_) (h2 : at_ < t) (h3 : t ≤ 9223372036854775807) (hn : n ≤ 1048576) (hge : (n : Int) ≤ (at_ - f) / 64) :
    Calls Try.prog 18 #[.pointer (some ⟨m, 0, none⟩), .int .i64 at_] w fun e w' => e = .returned (.tuple #[.bool false, .bool true]) ∧ Hid (Alike w w') := by
  have c0 : w.cell? ⟨m, 0, none⟩ = some (.int .i64 f) := by rw [cell_of hb]; rfl
  have c1 : w.cell? ⟨m, 1, none⟩ = some (.int .i64 t) := by rw [cell_of hb]; rfl
  have c2 : w.cell? ⟨m, 2, none⟩ = some (.slice a n c) := by rw [cell_of hb]; rfl
  clear hb
  have hd : 0 ≤ at_ - f := by omega
  have hd2 : 0 ≤ (at_ - f) / 64 := by omega
  have hd3 : decide ((at_ - f) / 64 < (n : Int)) = false := decide_eq_false (by omega)
  go_enter Try.func18, Try.ntmps18
  go_wp2
  go_quiet (fail)
  go_wp2
  go_ret2
  exact ⟨rfl, alike_drew _ _⟩

theorem look_in (m g n c : Nat) (zs : List Int) (f t at_ : Int) (w : World) (hb : w.heap[m]? = some (.cells (marks f t (some ⟨g, 0, none⟩) n c) 58 (0, 0))) (hg : w.heap[g]? = some (.cells (row zs) 37 (0, 0))) (hz : zs.length = n)
    (h0 : 0 ≤ f) (h1 : f ≤ at_) (h2 : at_ < t) (h3 : t ≤ 9223372036854775807) (hn : n ≤ 1048576) (hlt : (at_ - f) / 64 < (n : Int)) :
    Calls Try.prog 18 #[.pointer (some ⟨m, 0, none⟩), .int .i64 at_] w fun e w' => e = .returned (.tuple #[.bool (bitAt (zs.getD ((at_ - f) / 64).toNat 0) (at_ - f)), .bool true]) ∧ Hid (Alike w w') := by
  have c0 : w.cell? ⟨m, 0, none⟩ = some (.int .i64 f) := by rw [cell_of hb]; rfl
  have c1 : w.cell? ⟨m, 1, none⟩ = some (.int .i64 t) := by rw [cell_of hb]; rfl
  have c2 : w.cell? ⟨m, 2, none⟩ = some (.slice (some ⟨g, 0, none⟩) n c) := by rw [cell_of hb]; rfl
  have c3 : w.cell? ⟨g, ((at_ - f) / 64).toNat, none⟩ = some (.int .u64 (zs.getD ((at_ - f) / 64).toNat 0)) := by rw [cell_of hg, row_get _ _ (by omega)]
  clear hb hg hz
  generalize zs.getD ((at_ - f) / 64).toNat 0 = x at c3
  have hd : 0 ≤ at_ - f := by omega
  have hd2 : 0 ≤ (at_ - f) / 64 := by omega
  go_enter Try.func18, Try.ntmps18
  go_wp2
  go_quiet (fail)
  go_wp2
  go_ret2
  exact ⟨rfl, alike_drew _ _⟩

/-! ### The words of a slice that the call made: nil, or a row of a block of its own -/
def Words (w : World) (a : Option Addr) (n : Nat) (zs : List Int) : Prop :=
  zs.length = n ∧ ((a = none ∧ n = 0) ∨ ∃ g, a = some ⟨g, 0, none⟩ ∧ w.heap[g]? = some (.cells (row zs) 37 (0, 0)))

theorem Words.kept {w w' : World} {a : Option Addr} {n : Nat} {zs : List Int} (h : Words w a n zs) (hb : Below w.heap.size w w') : Words w' a n zs := by
  obtain ⟨h1, h2 | ⟨g, h2, h3⟩⟩ := h
  · exact ⟨h1, .inl h2⟩
  · exact ⟨h1, .inr ⟨g, h2, by rw [hb.block g (lt_of_block h3), h3]⟩⟩

theorem kept_block {w w' : World} {g : Nat} {o : Obj} (h : w.heap[g]? = some o) (hb : Below w.heap.size w w') : w'.heap[g]? = some o := by
  rw [hb.block g (lt_of_block h), h]

/-- fnb1CloneWords of such a slice. -/
theorem clone_any (a : Option Addr) (n : Nat) (zs : List Int) (w : World) (hn : n ≤ 1048576) (h : Words w a n zs) :
    Calls Try.prog 16 #[.slice a n n] w fun e w' => ∃ a', e = .returned (.slice a' n n) ∧ Hid (Words w' a' n zs) ∧ Hid (Below w.heap.size w w') ∧ Hid (0 < n → a' = some ⟨w.heap.size, 0, none⟩) := by
  obtain ⟨hz, ⟨rfl, rfl⟩ | ⟨g, rfl, hg⟩⟩ := h
  · refine (clone_nil w).mono fun e w' ⟨he, hw⟩ => ?_
    subst hw
    exact ⟨none, he, ⟨hz, .inl ⟨rfl, rfl⟩⟩, Below.refl _ _, fun h => absurd h (Nat.lt_irrefl _)⟩
  · refine (clone_row g n w.heap.size zs w rfl hn hz hg).mono fun e w' ⟨he, hp⟩ => ?_
    exact ⟨_, he, ⟨hz, .inr ⟨_, rfl, hp.out.block⟩⟩, hp.out.below, fun _ => rfl⟩

/-- What a law is told of the slice that came in. -/
def Given (w : World) (a : Option Addr) (n c : Nat) (zs : List Int) : Prop :=
  zs.length = n ∧ ((a = none ∧ n = 0 ∧ c = 0) ∨ ∃ x, a = some x ∧ ∀ i, i < n → w.cell? (x.add i) = some (.int .u64 (zs.getD i 0)))

theorem clone_zero (x : Addr) (c : Nat) (w : World) :
    Calls Try.prog 16 #[.slice (some x) 0 c] w fun e w' => e = .returned (.slice (some ⟨w.heap.size, 0, none⟩) 0 0) ∧ w' = w.alloc (.cells (row []) 37) := by
  have e0 := eql30 (some x) 0 c w
  have hmk : (Instr.makeSlice 30 (.int .i64 0) (.int .i64 0)).run Try.prog w = .ok (.slice (some ⟨w.heap.size, 0, none⟩) 0 0) (w.alloc (.cells (row []) 37)) := by
    rw [← show madeCells #[.int .u64 0] 0 = row [] from part_zero [] 0]
    exact run_make_row' (P := Try.prog) 30 37 (.int .u64 0) 8 Try.underlying30 info37 rfl .i64 .i64 0 (by omega) (by omega) w
  go_enter Try.func16, Try.ntmps16
  go_wp2
  clear e0 hmk
  go_loopw [4] (fun i wr => i = .int .i64 0 ∧ wr = w.alloc (.cells (row []) 37)) (fun i _ => 0)
  case atStart => exact ⟨rfl, rfl⟩
  case round =>
    obtain ⟨rfl, rfl⟩ := hrel
    go_wp2
    go_ret
    exact ⟨rfl, rfl⟩

/-- fnb1CloneWords of the slice that came in. -/
theorem clone_arg (a : Option Addr) (n c : Nat) (zs : List Int) (w : World) (hn : n ≤ 1048576) (h : Given w a n c zs) :
    Calls Try.prog 16 #[.slice a n c] w fun e w' => ∃ a', e = .returned (.slice a' n n) ∧ Hid (Words w' a' n zs) ∧ Hid (Below w.heap.size w w') := by
  obtain ⟨hz, ⟨rfl, rfl, rfl⟩ | ⟨x, rfl, hx⟩⟩ := h
  · refine (clone_nil w).mono fun e w' ⟨he, hw⟩ => ?_
    subst hw
    exact ⟨none, he, ⟨hz, .inl ⟨rfl, rfl⟩⟩, Below.refl _ _⟩
  · by_cases h0 : n = 0
    · subst h0
      refine (clone_zero x c w).mono fun e w' ⟨he, hw⟩ => ?_
      subst hw
      have hnil : zs = [] := List.eq_nil_of_length_eq_zero hz
      subst hnil
      exact ⟨_, he, ⟨rfl, .inr ⟨_, rfl, (plus_alloc w _).block⟩⟩, (plus_alloc w _).below⟩
    · obtain ⟨b, off, spot⟩ := x
      have hsp : spot = none := by simpa [Addr.add] using World.cell?_spot (hx 0 (by omega))
      subst hsp
      have hx' : ∀ i, i < n → w.cell? ⟨b, off + i, none⟩ = some (.int .u64 (zs.getD i 0)) := fun i hi => by rw [← add_plain]; exact hx i hi
      have hb : b < w.heap.size := by
        have h1 := hx' 0 (by omega)
        rcases Nat.lt_or_ge b w.heap.size with h | h
        · exact h
        · simp [World.cell?, Array.getElem?_eq_none h] at h1
      refine (clone_some b off n c zs w hn hz hx' hb).mono fun e w' ⟨he, hw⟩ => ?_
      subst hw
      exact ⟨_, he, ⟨hz, .inr ⟨_, rfl, (plus_alloc w _).block⟩⟩, (plus_alloc w _).below⟩

/-! ### lookup, in one contract -/
def inside (f t j : Int) : Bool := decide (f ≤ j) && decide (j < t)
def named (f t : Int) (zs : List Int) (j : Int) : Bool := inside f t j && (decide ((j - f) / 64 < (zs.length : Int)) && bitAt (zs.getD ((j - f) / 64).toNat 0) (j - f))

theorem inside_true {f t j : Int} (h1 : f ≤ j) (h2 : j < t) : inside f t j = true := by simp [inside, h1, h2]
theorem inside_false {f t j : Int} (h : j < f ∨ t ≤ j) : inside f t j = false := by simp [inside]; omega

theorem look_any (m n : Nat) (a : Option Addr) (zs : List Int) (f t j : Int) (w : World) (hb : w.heap[m]? = some (.cells (marks f t a n n) 58 (0, 0))) (hw : Words w a n zs)
    (h0 : 0 ≤ f) (h3 : t ≤ 9223372036854775807) (hn : n ≤ 1048576) (b ok : Bool) (hb' : named f t zs j = b) (ho : inside f t j = ok) :
    Calls Try.prog 18 #[.pointer (some ⟨m, 0, none⟩), .int .i64 j] w fun e w' => e = .returned (.tuple #[.bool b, .bool ok]) ∧ Hid (Alike w w') := by
  subst hb' ho
  unfold named
  by_cases h : j < f ∨ t ≤ j
  · rw [inside_false h]
    refine (look_out m n n a f t j w hb h).mono fun e w' ⟨he, hw⟩ => ?_
    subst hw
    exact ⟨he, ⟨Below.refl _ _, rfl⟩⟩
  · rw [inside_true (by omega) (by omega)]
    have hz := hw.1
    by_cases hlt : (j - f) / 64 < (n : Int)
    · rw [hz, decide_eq_true hlt]
      obtain ⟨_, ⟨_, rfl⟩ | ⟨g, rfl, hg⟩⟩ := hw
      · omega
      · exact look_in m g n n zs f t j w hb hg hz h0 (by omega) (by omega) h3 hn hlt
    · rw [hz, decide_eq_false hlt]
      exact look_short m n n a f t j w hb h0 (by omega) (by omega) h3 hn (by omega)
end Go.Proofs.Qxb6608752a.Marks
