import Derived.Test.Qxb6618894aBytes
namespace Go.Proofs.Qxb6618894a
open Go.RowKit

theorem isBlank_any (z : Int) (w : World) : Calls Try.prog 17 #[.int .u8 z] w fun e w' => e = .returned (.bool (blk z)) ∧ w' = w := by
  unfold blk
  cases h0 : (z == 32) with
  | true =>
    go_enter Try.func17, Try.ntmps17
    go_wp2
    go_ret
    exact ⟨rfl, rfl⟩
  | false =>
    cases h1 : (z == 9) with
    | true =>
      go_enter Try.func17, Try.ntmps17
      go_wp2
      go_ret
      exact ⟨rfl, rfl⟩
    | false =>
      cases h2 : (z == 10) with
      | true =>
        go_enter Try.func17, Try.ntmps17
        go_wp2
        go_ret
        exact ⟨rfl, rfl⟩
      | false =>
        go_enter Try.func17, Try.ntmps17
        go_wp2
        go_ret
        exact ⟨rfl, rfl⟩

set_option maxRecDepth 100000 in
set_option maxHeartbeats 1000000 in
theorem clone_any (a : Option Addr) (l c : Nat) (zs : List Int) (w : World) (h : Rd w a l c zs) (hl : l ≤ 1048576) :
    Calls Try.prog 18 #[.slice a l c] w fun e w' => ∃ a' c', e = .returned (.slice a' l c') ∧ Rd w' a' l c' zs ∧ Below w.heap.size w w' := by
  have hnil := nil39
  obtain ⟨i0, hi, hz0, hz1, hz2⟩ := info_parts Try.info5
  have I0 := Hid.of hi
  have I1 := Hid.of hz0
  have I2 := Hid.of hz1
  have I3 := Hid.of hz2
  clear hi hz0 hz1 hz2
  have R1 := Hid.of h
  clear h
  cases a with
  | none =>
    obtain ⟨rfl, rfl⟩ : l = 0 ∧ c = 0 := by have := R1.out.nil rfl; have := R1.out.le_cap; omega
    go_enter Try.func18, Try.ntmps18
    go_wp2_with fail
    go_ret
    exact ⟨_, _, rfl, R1.out, Below.refl _ _⟩
  | some x =>
    obtain ⟨X1, hX1⟩ : ∃ X1, X1 = zs.map (Value.int .u8) := ⟨_, rfl⟩
    have HX1 := Hid.of hX1
    have hXl : X1.length ≤ l ∧ l ≤ X1.length := by rw [hX1, List.length_map, R1.out.len_eq]; exact ⟨Nat.le_refl _, Nat.le_refl _⟩
    have hXc : Hid (∀ j v, X1[j]? = some v → w.cell? (x.add j) = some v) := by rw [hX1]; exact rd_news R1.out x rfl
    have hXo : Hid (∀ v ∈ X1, v.oneCell' = true) := by rw [hX1]; exact ints_oneCell _ _
    have hxb : Hid (0 < l → x.block < w.heap.size) := fun hp => by
      obtain ⟨b, off, e, hlt, _⟩ := R1.out.cells hp
      cases e
      exact hlt
    clear hX1
    go_enter Try.func18, Try.ntmps18
    go_wp2_with (first | (at_make; refine wpList_make_full _ rfl (.tmp 7) (.tmp 7) 39 rfl w.heap.size 5 i0 (.int .u8 0) 1 Try.underlying39 I0.out I1.out I2.out .i64 .i64 l l l rfl rfl rfl rfl (by rw [I3.out]; omega) (by simp only [maxLen]; omega) (Nat.le_refl _) ?_; intro w2 hown hgr; have hbl := Hid.of (made_block hown); have hbe := Hid.of ((Below.refl _ _).grown hgr (Nat.le_refl _) (by simp)); clear hown hgr) | (refine wpList_copy_splice rfl (.tmp 9) (.tmp 10) 39 39 rfl 5 Try.underlying39 Try.one5 _ _ _ _ _ _ rfl rfl w.heap.size 0 (List.replicate l (Value.int .u8 0)) 5 hbl.out X1 ?_ ?_ ?_ hXo.out w.heap.size w hbe.out (Nat.le_refl _) ?_))
    · simp; omega
    · intro hp j v hj
      rw [hbe.out.cell (p := x.add j) (by rw [add_block]; exact hxb.out (by omega))]
      exact hXc.out j v hj
    · simp; omega
    · intro w3 HG hB
      have hrd := rd_row (zs := zs) HG.out (by rw [HX1.out]; simp [splice, R1.out.len_eq]) R1.out.len_eq (by simp only [maxLen]; omega) R1.out.byte
      go_wp2_with fail
      go_ret
      exact ⟨_, _, rfl, hrd, hB⟩

/-- The decoder. -/
def decObj (a : Option Addr) (l c : Nat) (p : Int) : Obj := .cells #[.slice a l c, .int .i64 p, .int .i64 0, .map none, .nilIface] 58
def DecAt (w : World) (b : Nat) (a : Option Addr) (l c : Nat) (p : Int) : Prop := w.heap[b]? = some (decObj a l c p)

theorem newDec_any (a : Option Addr) (l c : Nat) (p : Int) (w : World) :
    Calls Try.prog 9 #[.slice a l c, .int .i64 p] w fun e w' => e = .returned (.pointer (some ⟨w.heap.size, 0, none⟩)) ∧ w' = w.alloc (decObj a l c p) := by
  go_enter Try.func9, Try.ntmps9
  go_wp2
  go_ret
  exact ⟨rfl, rfl⟩

theorem pos_any (b : Nat) (a : Option Addr) (l c : Nat) (p : Int) (w : World) (h : DecAt w b a l c p) :
    Calls Try.prog 20 #[.pointer (some ⟨b, 0, none⟩)] w fun e w' => e = .returned (.int .i64 p) ∧ w' = w := by
  have c1 : w.cell? ⟨b, 1, none⟩ = some (.int .i64 p) := cell_of_row w b 1 _ _ _ h
  clear h
  go_enter Try.func20, Try.ntmps20
  go_wp2
  go_ret
  exact ⟨rfl, rfl⟩

theorem blk32 {z : Int} (h : (z == 32) = true) : blk z = true := by simp [blk, h]
theorem blk9 {z : Int} (h : (z == 9) = true) : blk z = true := by simp [blk, h]
theorem blk10 {z : Int} (h : (z == 10) = true) : blk z = true := by simp [blk, h]
theorem blk13 {z : Int} (h : (z == 13) = true) : blk z = true := by simp [blk, h]
theorem blkNo {z : Int} (h0 : (z == 32) = false) (h1 : (z == 9) = false) (h2 : (z == 10) = false) (h3 : (z == 13) = false) : blk z = false := by simp [blk, h0, h1, h2, h3]

theorem dec_step {w : World} {b : Nat} {a : Option Addr} {l c : Nat} {p q : Int} (h : DecAt w b a l c p) : DecAt (w.setCell ⟨b, 1, none⟩ (.int .i64 q)) b a l c q := by
  have := heap_setCell_same w b 1 _ 58 (.int .i64 q) h
  simpa [DecAt, decObj] using this

set_option maxRecDepth 100000 in
set_option maxHeartbeats 1000000 in
theorem space_any (b : Nat) (a : Option Addr) (l c p : Nat) (zs : List Int) (w : World) (h : DecAt w b a l c p) (hr : Rd w a l c zs) (ha : ∀ x, a = some x → 0 < l → x.block < b) (hp : p ≤ l) (hl : l ≤ 2097152) :
    Calls Try.prog 30 #[.pointer (some ⟨b, 0, none⟩)] w fun e w' => e = .returned (.tuple #[]) ∧ DecAt w' b a l c (spc zs p : Nat) ∧ Below b w w' := by
  have HD := Hid.of h
  have HR := Hid.of hr
  have HA := Hid.of ha
  clear h hr ha
  go_enter Try.func30, Try.ntmps30
  go_wp2_with fail
  go_loopg [] (l - p) (fun g wx => ∃ q : Nat, p ≤ q ∧ q ≤ l ∧ g = l - q ∧ Hid (spc zs q = spc zs p) ∧ Hid (DecAt wx b a l c q) ∧ Hid (Below b w wx))
  case atStart => exact ⟨p, Nat.le_refl _, hp, rfl, (rfl : _ = _), HD, Below.refl _ _⟩
  case round =>
    obtain ⟨q, hpq, hql, rfl, HS, HQ, HB⟩ := hrel
    have c0 : wr.cell? ⟨b, 0, none⟩ = some (.slice a l c) := cell_of_row wr b 0 _ _ _ HQ.out
    have c1 : wr.cell? ⟨b, 1, none⟩ = some (.int .i64 (q : Int)) := cell_of_row wr b 1 _ _ _ HQ.out
    have fz : wr.frozen? ⟨b, 1, none⟩ = false := frozen_of_row wr b 1 _ _ HQ.out
    by_cases hlt : q < l
    · obtain ⟨ba, oa, rfl, hba, hc⟩ := HR.out.cells (by omega)
      have hbb : ba < b := HA.out _ rfl (by omega)
      have g1 : wr.cell? ⟨ba, oa + q, none⟩ = some (.int .u8 (zs.getD q 0)) := by rw [HB.out.cell (p := ⟨ba, oa + q, none⟩) hbb]; exact hc q hlt
      clear hc
      go_wp2_with fail
      go_quiet (fail)
      go_wp2_with fail
      go_quiet (fail)
      go_wp2_with fail
      iterate 4
        · have hbk : blk (zs.getD q 0) = true := by first | exact blk32 (by assumption) | exact blk9 (by assumption) | exact blk10 (by assumption) | exact blk13 (by assumption)
          have hst := spc_step (by rw [HR.out.len_eq]; exact hlt) hbk
          go_roundg (l - (q + 1))
          case measure => omega
          case rel => exact ⟨q + 1, by omega, by omega, rfl, by rw [hst]; exact HS, (by rw [show ((q + 1 : Nat) : Int) = (q : Int) + 1 from by omega]; exact dec_step HQ.out), Hid.of (Below.setCell (p := ⟨b, 1, none⟩) (HB.out.trans (drewN_below _ _ _)) (Nat.le_refl b) _)⟩
      · have hbk : blk (zs.getD q 0) = false := blkNo (by assumption) (by assumption) (by assumption) (by assumption)
        have hst := spc_stop (by rw [HR.out.len_eq]; exact hlt) hbk
        refine bodyPost_ret (results_none rfl _ _ _) rfl ?_
        refine ⟨rfl, ?_, HB.out.trans (drewN_below _ _ _)⟩
        rw [← HS.out, hst]
        exact HQ.out
    · have hst := spc_end (zs := zs) (p := q) (by rw [HR.out.len_eq]; omega)
      go_wp2_with fail
      go_quiet (fail)
      go_wp2_with fail
      go_end0
      refine ⟨rfl, ?_, HB.out.trans (drewN_below _ _ _)⟩
      rw [← HS.out, hst]
      exact HQ.out

theorem zzspace_any (b : Nat) (a : Option Addr) (l c p : Nat) (zs : List Int) (w : World) (h : DecAt w b a l c p) (hr : Rd w a l c zs) (ha : ∀ x, a = some x → 0 < l → x.block < b) (hp : p ≤ l) (hl : l ≤ 2097152) :
    Calls Try.prog 19 #[.pointer (some ⟨b, 0, none⟩)] w fun e w' => e = .returned (.tuple #[]) ∧ DecAt w' b a l c (spc zs p : Nat) ∧ Below b w w' := by
  have hc := Hid.of (space_any b a l c p zs w h hr ha hp hl)
  clear h hr ha
  go_enter Try.func19, Try.ntmps19
  go_wp2_with fail
  refine hc.out.mono ?_
  rintro e w' ⟨rfl, hd, hb⟩
  clear hc
  go_wp2_with fail
  go_end0
  exact ⟨rfl, hd, hb⟩

set_option maxRecDepth 100000 in
set_option maxHeartbeats 1000000 in
theorem stops_any (a : Option Addr) (l c p : Nat) (zs : List Int) (w : World) (hr : Rd w a l c zs) (hp : p ≤ l) (hl : l ≤ 2097152) :
    Calls Try.prog 21 #[.slice a l c, .int .i64 p, .int .i64 (spc zs p : Nat)] w fun e w' => e = .returned (.bool true) ∧ w' = w := by
  have hlen := hr.len_eq
  have h1 := spc_ge zs p
  have h2 := spc_le (zs := zs) (p := p) (by omega)
  have HBL := Hid.of (spc_blank zs _ p rfl (by omega))
  have HAT := Hid.of (spc_at zs _ p rfl (by omega))
  have HR := Hid.of hr
  rw [hlen] at h2 HAT
  clear hr hlen
  generalize spc zs p = r at *
  have d1 : ¬ (r < p) := by omega
  have d2 : ¬ (l < r) := by omega
  go_enter Try.func21, Try.ntmps21
  go_wp2_with fail
  go_loopg [7] (r - p) (fun g s7 wx => wx = w ∧ ∃ q : Nat, p ≤ q ∧ q ≤ r ∧ g = r - q ∧ s7 = .int .i64 q)
  case atStart => exact ⟨rfl, p, Nat.le_refl _, h1, rfl, rfl⟩
  case round =>
    obtain ⟨rfl, q, hpq, hqr, rfl, rfl⟩ := hrel
    by_cases hlt : q < r
    · obtain ⟨ba, oa, rfl, hba, hc⟩ := HR.out.cells (by omega)
      have g1 := hc q (by omega)
      have hbk := HBL.out q hpq hlt
      clear hc
      generalize zs.getD q 0 = z at *
      go_wp2_with fail
      refine (isBlank_any z _).mono ?_
      rintro e w' ⟨rfl, rfl⟩
      go_wp2_with fail
      go_roundg (r - (q + 1))
      case measure => omega
      case rel => exact ⟨rfl, q + 1, by omega, by omega, rfl, by go_num⟩
    · by_cases hrl : r < l
      · obtain ⟨ba, oa, rfl, hba, hc⟩ := HR.out.cells (by omega)
        have g1 := hc r hrl
        have hbk := HAT.out hrl
        have hne : ((r : Int) == (l : Int)) = false := by simp; omega
        clear hc
        generalize zs.getD r 0 = z at *
        go_wp2_with fail
        refine (isBlank_any z _).mono ?_
        rintro e w' ⟨rfl, rfl⟩
        go_wp2_with fail
        go_ret
        exact ⟨rfl, rfl⟩
      · have hrl2 : r = l := by omega
        subst hrl2
        go_wp2_with fail
        go_ret
        exact ⟨by simp, rfl⟩
end Go.Proofs.Qxb6618894a
