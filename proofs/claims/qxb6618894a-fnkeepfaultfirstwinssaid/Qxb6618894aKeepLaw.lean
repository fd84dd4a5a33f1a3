import Derived.Test.Qxb6618894aKeep
import Derived.LaidEqlPtr
namespace Go.Proofs.Qxb6618894a
open Go.RowKit

def errOf (N : Bool) (be : Nat) : Value := if N then .nilIface else .iface 31 (.pointer (some ⟨be, 0, none⟩))
/-- The decoder at b holds the first call's fault; e0 lies at be. -/
def Kept (w : World) (b bf be : Nat) (F T : ByteArray) (N : Bool) : Prop :=
  w.heap[b]? = some (decF (.iface 31 (.pointer (some ⟨bf, 0, none⟩)))) ∧ w.heap[bf]? = some (feObj F (errOf N be)) ∧ w.heap[be]? = some (feObj T .nilIface)
theorem Kept.kept {w w' : World} {b bf be : Nat} {F T : ByteArray} {N : Bool} (h : Kept w b bf be F T N) (hb : Below w.heap.size w w') : Kept w' b bf be F T N :=
  ⟨heap_kept h.1 hb, heap_kept h.2.1 hb, heap_kept h.2.2 hb⟩

theorem some37 : (Try.prog.info? 37).isSome = true := by kernel_rfl
theorem same31 (a : Addr) (W : World) : (binOp .eql 31 (.pointer (some a)) (.pointer (some a))).run Try.prog W = .ok (.bool true) W := by
  obtain ⟨j, hj⟩ := Option.isSome_iff_exists.1 some37
  exact run_eql_ptr_same W a Try.underlying31 hj

theorem keep_out (a : Option Addr) (l c : Nat) (f : Nat → FC) (w : World) (h : CRd w a l c f) (hl : 65536 < l) :
    Calls Try.prog 3 #[.slice a l c] w fun e w' => e = .returned (.bool true) ∧ Below w.heap.size w w' := by
  have HC := Hid.of (bytes8_any a l c f w h)
  clear h
  go_enter Try.func3, Try.ntmps3
  go_wp2_with fail
  refine HC.out.mono ?_
  rintro e w1 ⟨⟨bb, rfl⟩, rfl⟩
  cases bb
  · go_wp2_with fail
    go_ret
    exact ⟨rfl, Below.refl _ _⟩
  · go_wp2_with fail
    go_ret
    exact ⟨rfl, Below.refl _ _⟩

set_option maxRecDepth 100000 in
set_option maxHeartbeats 4000000 in
theorem keep_in (a : Option Addr) (l c : Nat) (f : Nat → FC) (w : World) (h : CRd w a l c f) (hl : l ≤ 65536) :
    Calls Try.prog 3 #[.slice a l c] w fun e w' => e = .returned (.bool true) ∧ Below w.heap.size w w' := by
  have HC := Hid.of (bytes8_any a l c f w h)
  have HR := Hid.of h
  have n1 : ¬ (65536 : Int) < (l : Int) := by omega
  clear h
  go_enter Try.func3, Try.ntmps3
  go_wp2_with fail
  refine HC.out.mono ?_
  rintro e w1 ⟨⟨bb, rfl⟩, hw1⟩
  subst hw1
  clear HC
  cases bb
  · go_wp2_with fail
    go_ret
    exact ⟨rfl, Below.refl _ _⟩
  go_wp2_with fail
  go_loopg [3, 4] l (fun g s3 s4 wx => (∃ nd, wx = w1.drewN nd) ∧ ∃ (k : Nat) (m : Int), k ≤ l ∧ g = l - k ∧ s4 = .int .i64 k ∧ s3 = .int .i64 m ∧ 0 ≤ m ∧ m ≤ 1048576)
  case atStart => exact ⟨⟨0, rfl⟩, 0, 0, Nat.zero_le _, rfl, rfl, rfl, by omega, by omega⟩
  case round =>
    obtain ⟨⟨nd, rfl⟩, k, m, hk, rfl, rfl, rfl, hm0, hm1⟩ := hrel
    by_cases hlt : k < l
    · obtain ⟨b, off, rfl, hb, hc⟩ := HR.out.cells (by omega)
      obtain ⟨q0, q1, q2⟩ := hc k hlt
      clear hc
      by_cases hF : 1048576 < (f k).F.size
      · go_wp2_with fail
        go_ret
        exact ⟨rfl, drewN_below _ _ _⟩
      by_cases hT : 1048576 < (f k).T.size
      · go_wp2_with fail
        go_ret
        exact ⟨rfl, drewN_below _ _ _⟩
      go_wp2_with fail
      go_quiet (fail)
      go_wp2_with fail
      · go_ret
        exact ⟨rfl, drewN_below _ _ _⟩
      · go_roundg (l - (k + 1))
        case measure => omega
        case rel => exact ⟨⟨_, rfl⟩, k + 1, _, by omega, rfl, by go_num, rfl, by omega, by assumption⟩
    · clear hk
      generalize hW : w1.drewN nd = W1
      have HBW : Hid (Below w1.heap.size w1 W1) := by rw [← hW]; exact drewN_below _ _ _
      clear hW
      go_wp2_with fail
      refine (newDec0_any W1).mono ?_
      rintro e w2 ⟨rfl, hw2⟩
      have hs1 : w1.heap.size ≤ W1.heap.size := HBW.out.size
      have hd : Hid (w2.heap[W1.heap.size]? = some (decF .nilIface)) := by rw [hw2]; exact newAt rfl
      have HB2 : Hid (Below w1.heap.size w1 w2) := by rw [hw2]; exact HBW.out.alloc hs1 _
      have hs2 : W1.heap.size < w2.heap.size := lt_of_heap hd.out
      generalize hbd : W1.heap.size = bd at *
      clear hw2 HBW hbd
      by_cases h0 : l = 0
      · subst h0
        go_wp2_with fail
        refine (fault_any bd w2 hd.out).mono ?_
        rintro e w3 ⟨rfl, rfl⟩
        go_wp2_with fail
        go_ret
        exact ⟨rfl, HB2.out⟩
      have hpos : 0 < l := by omega
      obtain ⟨b, off, rfl, hb, hc⟩ := HR.out.cells hpos
      have HR2 := Hid.of (HR.out.kept HB2.out)
      obtain ⟨p0, p1, p2⟩ : w2.cell? ⟨b, off, none⟩ = some (.string (f 0).F) ∧ w2.cell? ⟨b, off + 1, none⟩ = some (.string (f 0).T) ∧ w2.cell? ⟨b, off + 2, none⟩ = some (.bool (f 0).N) := by
        obtain ⟨b', off', e, _, hc'⟩ := HR2.out.cells hpos
        cases e
        simpa using hc' 0 hpos
      have n0 : ¬ (l : Int) = 0 := by omega
      clear hc
      go_wp2_with fail
      refine (newFE_any (f 0).T w2).mono ?_
      rintro e w3 ⟨rfl, hw3⟩
      have he : Hid (w3.heap[w2.heap.size]? = some (feObj (f 0).T .nilIface)) := by rw [hw3]; exact newAt rfl
      have hbe : bd < w2.heap.size := hs2
      have B23 : Hid (Below w2.heap.size w2 w3) := by rw [hw3]; exact (Below.refl _ _).alloc (Nat.le_refl _) _
      have hd3 : Hid (w3.heap[bd]? = some (decF .nilIface)) := heap_kept hd.out B23.out
      have HB3 : Hid (Below w1.heap.size w1 w3) := HB2.out.trans (B23.out.mono HB2.out.size)
      have HR3 := Hid.of (HR.out.kept HB3.out)
      generalize hbe' : w2.heap.size = be at *
      clear hw3 hbe' p0 p1 p2 HB2 hd HR2
      obtain ⟨p0, p1, p2⟩ : w3.cell? ⟨b, off, none⟩ = some (.string (f 0).F) ∧ w3.cell? ⟨b, off + 1, none⟩ = some (.string (f 0).T) ∧ w3.cell? ⟨b, off + 2, none⟩ = some (.bool (f 0).N) := by
        obtain ⟨b', off', e, _, hc'⟩ := HR3.out.cells hpos
        cases e
        simpa using hc' 0 hpos
      clear B23
      clear w2
      go_upto_if 71 with fail
      go_cut [] from 71 to 84 (fun wx => (∃ bf, Kept wx bd bf be (f 0).F (f 0).T (f 0).N) ∧ Below w1.heap.size w1 wx)
      case first =>
        cases hN : (f 0).N
        · go_wp2_with fail
          refine (keepErr_first bd (f 0).F (some ⟨be, 0, none⟩) w3 hd3.out).mono ?_
          rintro e w4 ⟨rfl, hw4⟩
          have hff := first_facts (F := (f 0).F) (v := errOf false be) hd3.out
          have hw5 : w4 = (w3.setCell ⟨bd, 4, none⟩ (.iface 31 (.pointer (some ⟨w3.heap.size, 0, none⟩)))).alloc (feObj (f 0).F (errOf false be)) := hw4
          clear hw4
          have hlt := lt_of_heap he.out
          go_wp2_with fail
          go_meet
          case rel =>
            rw [hN]
            exact ⟨⟨_, hff.1, hff.2.1, by rw [hff.2.2.2 be (by omega) hlt]; exact he.out⟩, HB3.out.trans (hff.2.2.1.mono hs1)⟩
        · go_wp2_with fail
          refine (keepNil_first bd (f 0).F w3 hd3.out).mono ?_
          rintro e w4 ⟨rfl, hw4⟩
          have hff := first_facts (F := (f 0).F) (v := errOf true be) hd3.out
          have hw5 : w4 = (w3.setCell ⟨bd, 4, none⟩ (.iface 31 (.pointer (some ⟨w3.heap.size, 0, none⟩)))).alloc (feObj (f 0).F (errOf true be)) := hw4
          clear hw4
          have hlt := lt_of_heap he.out
          go_wp2_with fail
          go_meet
          case rel =>
            rw [hN]
            exact ⟨⟨_, hff.1, hff.2.1, by rw [hff.2.2.2 be (by omega) hlt]; exact he.out⟩, HB3.out.trans (hff.2.2.1.mono hs1)⟩
      case rest =>
        obtain ⟨⟨bf, HK⟩, HB4⟩ := hcut
        replace HK := Hid.of HK
        have hwW : ∃ W4, wc = W4 := ⟨_, rfl⟩
        obtain ⟨W4, rfl⟩ := hwW
        replace HB4 := Hid.of HB4
        have HR4 := Hid.of (HR.out.kept HB4.out)
        clear HR3 p0 p1 p2 HB3 hd3 he
        have hpc : (1 : Int) ≤ l := by omega
        go_wp2_with fail
        go_loopg [7] (l - 1) (fun g s7 wx => Below wc.heap.size wc wx ∧ ∃ k : Nat, 1 ≤ k ∧ k ≤ l ∧ g = l - k ∧ s7 = .int .i64 k)
        case atStart => exact ⟨Below.refl _ _, 1, Nat.le_refl _, hpos, rfl, rfl⟩
        case round =>
          obtain ⟨hbx, j, hj1, hj, rfl, rfl⟩ := hrel
          replace hbx := Hid.of hbx
          have HKx := Hid.of (HK.out.kept hbx.out)
          have HRx := Hid.of (HR4.out.kept hbx.out)
          have hbdx := lt_of_heap HKx.out.1
          by_cases hlt2 : j < l
          · obtain ⟨q0, q1, q2⟩ : wr.cell? ⟨b, off + j * 3, none⟩ = some (.string (f j).F) ∧ wr.cell? ⟨b, off + j * 3 + 1, none⟩ = some (.string (f j).T) ∧ wr.cell? ⟨b, off + j * 3 + 2, none⟩ = some (.bool (f j).N) := by
              obtain ⟨b', off', e, _, hc'⟩ := HRx.out.cells hpos
              cases e
              exact hc' j hlt2
            cases hN : (f j).N
            · go_wp2_with fail
              go_region_held3 (fun w' => w'.cell? ⟨b, off + j * 3, none⟩ = some (.string (f j).F) ∧ w'.cell? ⟨b, off + j * 3 + 1, none⟩ = some (.string (f j).T)) (go_keep) (first | (go_at_call 11; refine (newFE_any (f j).T _).mono ?_; rintro e w' ⟨rfl, rfl⟩) | (go_at_call 13; refine (keepErr_later bd (f j).F _ (some ⟨bf, 0, none⟩) _ (by show (wr.alloc (feObj (f j).T .nilIface)).heap[bd]? = _; rw [Below.heap_alloc _ _ _ hbdx]; exact HKx.out.1)).mono ?_; rintro e w' ⟨rfl, rfl⟩))
              go_wp2_with fail
              go_roundg (l - (j + 1))
              case measure => omega
              case rel => exact ⟨(hbx.out.alloc hbx.out.size _).trans (drewN_below _ _ 1), j + 1, by omega, by omega, rfl, by go_num⟩
            · go_wp2_with fail
              refine (keepNil_later bd (f j).F (some ⟨bf, 0, none⟩) wr HKx.out.1).mono ?_
              rintro e w' ⟨rfl, rfl⟩
              go_wp2_with fail
              go_roundg (l - (j + 1))
              case measure => omega
              case rel => exact ⟨hbx.out, j + 1, by omega, by omega, rfl, by go_num⟩
          · go_wp2_with fail
            refine (asFE_any bd (some ⟨bf, 0, none⟩) wr HKx.out.1).mono ?_
            rintro e w5 ⟨rfl, hw'⟩
            subst hw'
            obtain ⟨p0, p1, p2⟩ : w5.cell? ⟨b, off, none⟩ = some (.string (f 0).F) ∧ w5.cell? ⟨b, off + 1, none⟩ = some (.string (f 0).T) ∧ w5.cell? ⟨b, off + 2, none⟩ = some (.bool (f 0).N) := by
              obtain ⟨b', off', e, _, hc'⟩ := HRx.out.cells hpos
              cases e
              simpa using hc' 0 hpos
            have c0 : w5.cell? ⟨bf, 0, none⟩ = some (.string (f 0).F) := cell_of_row w5 bf 0 _ _ _ HKx.out.2.1
            have c1 : w5.cell? ⟨bf, 1, none⟩ = some (errOf (f 0).N be) := cell_of_row w5 bf 1 _ _ _ HKx.out.2.1
            have d0 : w5.cell? ⟨be, 0, none⟩ = some (.string (f 0).T) := cell_of_row w5 be 0 _ _ _ HKx.out.2.2
            have HKK := HKx
            clear HKx hbdx
            cases hN : (f 0).N
            · rw [hN] at p2 c1 HKK
              go_wp2_with fail
              go_quiet (fail)
              go_wp2_with fail
              refine (inner_any bf (f 0).F (some ⟨be, 0, none⟩) _ (heap_kept HKK.out.2.1 (drewN_below _ _ _))).mono ?_
              rintro e w6 ⟨rfl, hw6⟩
              subst hw6
              have hpe := same31 ⟨be, 0, none⟩
              go_wp2_with fail
              go_quiet (fail)
              go_wp2_with fail
              go_ret
              exact ⟨rfl, (HB4.out.trans (hbx.out.mono HB4.out.size)).trans ((drewN_below _ _ _).trans (drewN_below _ _ _))⟩
            · rw [hN] at p2 c1
              have c1' : w5.cell? ⟨bf, 1, none⟩ = some .nilIface := c1
              clear c1
              go_wp2_with fail
              go_quiet (fail)
              go_wp2_with fail
              go_ret
              exact ⟨rfl, (HB4.out.trans (hbx.out.mono HB4.out.size)).trans (drewN_below _ _ _)⟩
end Go.Proofs.Qxb6618894a
