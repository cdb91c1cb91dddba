import Derived.Test.Qxb6608773aDoorReads
namespace Go.Proofs.Qxb6608773aDoor.Hess
open Go.ChangeShapes Go.WideShapes Go.ChangeAt Go.RowKit
set_option linter.unusedVariables false

/-- What a Bound leaves behind c bytes more. -/
def aft (bd : Bool) (lf : Int) (c : Nat) : Int := if bd then lf - c else lf
theorem aft_succ (bd : Bool) (lf : Int) (c : Nat) : aft bd lf (c + 1) = aft bd (aft bd lf c) 1 := by
  cases bd <;> simp [aft]; omega
theorem aft_zero (bd : Bool) (lf : Int) : aft bd lf 0 = lf := by
  cases bd <;> simp [aft]

/-- How many bytes may be read from k on. -/
def room (n k : Nat) (bd : Bool) (lf : Int) : Nat := if bd then min lf.toNat (n - k) else n - k

/-- The slice a, in a block of its own other than D, holds the bytes zs. -/
def Bytes (w : World) (D : Nat) (a : Option Addr) (n : Nat) (zs : List Int) : Prop :=
  zs.length = n ∧ ((a = none ∧ n = 0) ∨ ∃ g, a = some ⟨g, 0, none⟩ ∧ g ≠ D ∧ w.heap[g]? = some (.cells (row zs) 5 (0, 0)))
theorem Bytes.kept {w w' : World} {D : Nat} {a : Option Addr} {n : Nat} {zs : List Int} (h : Bytes w D a n zs) (ho : Only D w w') : Bytes w' D a n zs := by
  obtain ⟨h1, h2 | ⟨g, h2, h3, h4⟩⟩ := h
  · exact ⟨h1, .inl h2⟩
  · exact ⟨h1, .inr ⟨g, h2, h3, ho.kept h4 h3⟩⟩

/-- ZZreadByte where a byte may be read. -/
theorem rb_ok (D n k : Nat) (a : Option Addr) (bd : Bool) (lf : Int) (zs : List Int) (w : World) (hd : Dec w D a n k bd lf) (hb : Bytes w D a n zs) (hn : n ≤ 1048576) (hl : lf ≤ 9223372036854775807) (hr : 0 < room n k bd lf) :
    Calls Tryd.prog 18 #[.pointer (some ⟨D, 1, none⟩)] w fun e w' => e = .returned (.tuple #[.int .u8 (zs.getD k 0), .nilIface]) ∧ Hid (Dec w' D a n (k + 1) bd (aft bd lf 1)) ∧ Hid (Only D w w') := by
  have hd0 := hd
  obtain ⟨C, h0, h1, h2, h3, h4, h5⟩ := hd
  have hk : k < n := by unfold room at hr; split at hr <;> omega
  obtain ⟨hz, ⟨_, hn0⟩ | ⟨g, rfl, hgD, hg⟩⟩ := hb
  · omega
  have cg : w.cell? ⟨g, k, none⟩ = some (.int .u8 (zs.getD k 0)) := by rw [cell_of hg, row_get _ _ (by omega)]
  cases bd
  · refine (rb_free D g n k _ lf w hk hn (by rw [cell_of h0, h1]) (by rw [cell_of h0, h2]) (by rw [cell_of h0, h3]) (by rw [cell_of h0, h4]) (by rw [cell_of h0, h5]) (unfrozen_of h0 _) hgD cg).mono ?_
    rintro e w' ⟨rfl, nq, rfl⟩
    exact ⟨rfl, (hd0.drew nq).setOff (k + 1), ((Only.refl D w).drew nq).set _ _⟩
  · have hl1 : 1 ≤ lf := by unfold room at hr; simp at hr; omega
    refine (rb_bound D g n k _ lf w hk hn hl1 hl (by rw [cell_of h0, h1]) (by rw [cell_of h0, h2]) (by rw [cell_of h0, h3]) (by rw [cell_of h0, h4]) (by rw [cell_of h0, h5]) (unfrozen_of h0 _) (unfrozen_of h0 _) hgD cg).mono ?_
    rintro e w' ⟨rfl, nq, rfl⟩
    exact ⟨rfl, ((hd0.drew nq).setOff (k + 1)).setLeft (lf - 1), (((Only.refl D w).drew nq).set _ _).set _ _⟩

/-- ZZreadByte where no byte may be read. -/
theorem rb_fail (D n k : Nat) (a : Option Addr) (bd : Bool) (lf : Int) (zs : List Int) (u : TypeId) (x : Value) (w : World) (hd : Dec w D a n k bd lf) (hb : Bytes w D a n zs) (hn : n ≤ 1048576) (hk : k ≤ n) (hr : room n k bd lf = 0) (ce : w.cell? ⟨0, 0, none⟩ = some (.iface u x)) :
    Calls Tryd.prog 18 #[.pointer (some ⟨D, 1, none⟩)] w fun e w' => e = .returned (.tuple #[.int .u8 0, .iface u x]) ∧ Hid (Dec w' D a n k bd lf) ∧ Hid (Only D w w') := by
  have hd0 := hd
  obtain ⟨C, h0, h1, h2, h3, h4, h5⟩ := hd
  obtain ⟨hz, ⟨rfl, rfl⟩ | ⟨g, rfl, hgD, hg⟩⟩ := hb
  · obtain rfl : k = 0 := by omega
    refine (rb_nil D u x w (by rw [cell_of h0, h1]) (by rw [cell_of h0, h2]) (by rw [cell_of h0, h3]; rfl) ce).mono ?_
    rintro e w' ⟨rfl, nq, rfl⟩
    exact ⟨rfl, hd0.drew nq, (Only.refl D w).drew nq⟩
  · by_cases hkn : k = n
    · subst hkn
      refine (rb_end D g k u x w hn (by rw [cell_of h0, h1]) (by rw [cell_of h0, h2]) (by rw [cell_of h0, h3]) ce).mono ?_
      rintro e w' ⟨rfl, nq, rfl⟩
      exact ⟨rfl, hd0.drew nq, (Only.refl D w).drew nq⟩
    · cases bd
      · unfold room at hr; simp at hr; omega
      · have hl1 : lf < 1 := by unfold room at hr; simp at hr; omega
        refine (rb_held D g n k lf u x w (by omega) hn hl1 (by rw [cell_of h0, h1]) (by rw [cell_of h0, h2]) (by rw [cell_of h0, h3]) (by rw [cell_of h0, h4]) (by rw [cell_of h0, h5]) ce).mono ?_
        rintro e w' ⟨rfl, nq, rfl⟩
        exact ⟨rfl, hd0.drew nq, (Only.refl D w).drew nq⟩

/-- The cell of io.ErrUnexpectedEOF. -/
def Eof (w : World) (u : TypeId) (x : Value) : Prop := w.cell? ⟨0, 0, none⟩ = some (.iface u x)
theorem Eof.lt {w : World} {u : TypeId} {x : Value} (h : Eof w u x) : 0 < w.heap.size := by
  rcases Nat.eq_zero_or_pos w.heap.size with h0 | h0
  · unfold Eof at h
    simp [World.cell?, Array.getElem?_eq_none (Nat.le_of_eq h0)] at h
  · exact h0
theorem Eof.kept {w w' : World} {D : Nat} {u : TypeId} {x : Value} (h : Eof w u x) (ho : Only D w w') (hD : 0 ≠ D) : Eof w' u x := by
  unfold Eof
  rw [World.cell?_of_block (w := w) (ho.others 0 h.lt hD)]
  exact h

theorem room_after (n k : Nat) (bd : Bool) (lf : Int) (c : Nat) : room n (k + c) bd (aft bd lf c) = room n k bd lf - c := by
  cases bd <;> simp [room, aft] <;> omega

set_option maxRecDepth 100000 in
set_option maxHeartbeats 1000000 in
theorem read_up (D n k0 : Nat) (a ab : Option Addr) (bd : Bool) (lf : Int) (zs : List Int) (u : TypeId) (x : Value) (k : Int) (w : World) (hd : Dec w D a n k0 bd lf) (hb : Bytes w D a n zs) (hb2 : Bytes w D ab n zs) (hn : n ≤ 1048576) (hl : lf ≤ 9223372036854775807)
    (hk0 : k0 ≤ n) (he : Eof w u x) (hD : 0 ≠ D) (hlo : -9223372036854775808 ≤ lf) (T : Nat) (hT : T = min k.toNat (room n k0 bd lf)) :
    Calls Tryd.prog 11 #[.pointer (some ⟨D, 1, none⟩), .slice ab n n, .int .i64 k0, .int .i64 k] w fun e w' => e = .returned (.tuple #[.int .i64 T, .bool true]) ∧ Hid (Dec w' D a n (k0 + T) bd (aft bd lf T)) ∧ Hid (Only D w w') := by
  have HT : Hid (T = min k.toNat (room n k0 bd lf)) := hT
  have hR : room n k0 bd lf ≤ n - k0 := by unfold room; split <;> omega
  have hTn : T ≤ n - k0 := by omega
  have HD : Hid (Dec w D a n k0 bd lf) := hd
  have HB : Hid (Bytes w D a n zs) := hb
  have HB2 : Hid (Bytes w D ab n zs) := hb2
  have HE : Hid (Eof w u x) := he
  have HR : Hid (room n k0 bd lf ≤ n - k0) := hR
  clear hT hR hd hb hb2 he
  go_enter Tryd.func11, Tryd.ntmps11
  go_wp2
  go_loopw [10] (fun i wr => ∃ c : Nat, c ≤ T ∧ i = .int .i64 c ∧ Hid (Dec wr D a n (k0 + c) bd (aft bd lf c)) ∧ Hid (Only D w wr)) (fun i _ => T + 1 - (intOf i).toNat)
  case atStart => exact ⟨0, Nat.zero_le _, rfl, by rw [aft_zero]; exact HD.out, Only.refl _ _⟩
  case round =>
    obtain ⟨c, hc, rfl, hdr, hor⟩ := hrel
    have hbr : Hid (Bytes wr D a n zs) := HB.out.kept hor.out
    have hbr2 : Hid (Bytes wr D ab n zs) := HB2.out.kept hor.out
    have her : Hid (Eof wr u x) := HE.out.kept hor.out hD
    by_cases hcT : c < T
    · have hck : (c : Int) < k := by have := HT.out; omega
      have hrm : 0 < room n (k0 + c) bd (aft bd lf c) := by rw [room_after]; have := HT.out; omega
      have HRM : Hid (0 < room n (k0 + c) bd (aft bd lf c)) := hrm
      clear hrm
      have hal : Hid (aft bd lf c ≤ 9223372036854775807) := by
        show aft bd lf c ≤ 9223372036854775807
        unfold aft; split <;> omega
      obtain ⟨g, rfl, hgD, hg⟩ : ∃ g, ab = some ⟨g, 0, none⟩ ∧ g ≠ D ∧ Hid (wr.heap[g]? = some (.cells (row zs) 5 (0, 0))) := by
        obtain ⟨_, ⟨_, h⟩ | ⟨g, h1, h2, h3⟩⟩ := hbr2.out
        · omega
        · exact ⟨g, h1, h2, h3⟩
      have hzl : Hid (zs.length = n) := hbr.out.1
      go_wp2_with fail
      refine (rb_ok D n (k0 + c) a bd (aft bd lf c) zs wr hdr.out hbr.out hn hal.out HRM.out).mono ?_
      rintro e w1 ⟨rfl, hd1, ho1⟩
      have cg : w1.cell? ⟨g, k0 + c, none⟩ = some (.int .u8 (zs.getD (k0 + c) 0)) := by
        rw [cell_of (ho1.out.kept hg.out hgD), row_get _ _ (by rw [hzl.out]; omega)]
      generalize zs.getD (k0 + c) 0 = y at cg ⊢
      have hD1 : Hid (Dec w1 D a n (k0 + (c + 1)) bd (aft bd lf (c + 1))) := by rw [aft_succ]; exact hd1.out
      have hO1 : Hid (Only D w w1) := hor.out.trans ho1.out
      clear hbr hbr2 her hdr hor hd1 ho1 hg hgD HRM hal
      go_wp2
      go_roundw
      case rel => exact ⟨c + 1, by omega, by go_num, hD1, hO1⟩
      case measure => simp [intOf]; omega
    · obtain rfl : c = T := by omega
      by_cases hck : (c : Int) < k
      · have hrm : room n (k0 + c) bd (aft bd lf c) = 0 := by rw [room_after]; have := HT.out; omega
        have HRM : Hid (room n (k0 + c) bd (aft bd lf c) = 0) := hrm
        clear hrm
        go_wp2_with fail
        refine (rb_fail D n (k0 + c) a bd (aft bd lf c) zs u x wr hdr.out hbr.out hn (by omega) HRM.out her.out).mono ?_
        rintro e w1 ⟨rfl, hd1, ho1⟩
        have hO1 : Hid (Only D w w1) := hor.out.trans ho1.out
        clear hbr hbr2 her hdr hor ho1
        go_wp2
        go_ret2
        exact ⟨rfl, hd1, hO1⟩
      · go_wp2
        go_ret2
        exact ⟨rfl, hdr, hor⟩
end Go.Proofs.Qxb6608773aDoor.Hess
