import Derived.Test.Qxb6618894aSpace
import Derived.Deep.DeepCutAuto
namespace Go.Proofs.Qxb6618894a
open Go.RowKit

def SomeBool (e : Ending) : Prop := ∃ b, e = .returned (.bool b)
theorem someBool (b : Bool) : SomeBool (.returned (.bool b)) := ⟨b, rfl⟩

theorem bytes22_any (a1 : Option Addr) (l1 c1 : Nat) (a2 : Option Addr) (l2 c2 : Nat) (p : Int) (w : World) :
    Calls Try.prog 22 #[.slice a1 l1 c1, .slice a2 l2 c2, .int .i64 p] w fun e w' => SomeBool e ∧ w' = w := by
  go_enter Try.func22, Try.ntmps22
  go_wp2
  all_goals go_ret
  all_goals exact ⟨someBool _, rfl⟩

theorem cut_out (a1 : Option Addr) (l1 c1 : Nat) (a2 : Option Addr) (l2 c2 : Nat) (p : Int) (w : World) (h : 524288 < l1 ∨ 524288 < l2 ∨ p < 0 ∨ (l1 : Int) < p) :
    Calls Try.prog 5 #[.slice a1 l1 c1, .slice a2 l2 c2, .int .i64 p] w fun e w' => e = .returned (.bool true) ∧ Below w.heap.size w w' := by
  rcases h with h | h | h | h
  all_goals
    go_enter Try.func5, Try.ntmps5
    go_wp2_with fail
    refine (bytes22_any a1 l1 c1 a2 l2 c2 p w).mono ?_
    rintro e w1 ⟨⟨bb, rfl⟩, rfl⟩
    cases bb
    · go_wp2_with fail
      go_ret
      exact ⟨rfl, Below.refl _ _⟩
    · go_wp2_with fail
      all_goals go_ret
      all_goals exact ⟨rfl, Below.refl _ _⟩

theorem slice_len {x : Option Addr} {m n : Nat} (h : m = n) : Value.slice x m m = Value.slice x n n := by rw [h]
theorem min_left {a b : Nat} (h : a ≤ b) : a.min b = a := Nat.min_eq_left h

theorem rd_lt {w : World} {a : Option Addr} {l c : Nat} {zs : List Int} (h : Rd w a l c zs) : ∀ x, a = some x → 0 < l → x.block < w.heap.size := by
  intro x hx hp
  obtain ⟨b, off, e, hlt, _⟩ := h.cells hp
  rw [e] at hx
  cases hx
  exact hlt

/-- The cells of a ++ b, laid over a row of zeros. -/
theorem splice2 (X Y : List Value) (z : Value) : splice (splice (List.replicate (X.length + Y.length) z) 0 X) X.length Y = X ++ Y := by
  simp [splice]

set_option maxRecDepth 100000 in
set_option maxHeartbeats 2000000 in
theorem cut_in (a1 : Option Addr) (l1 c1 : Nat) (z1 : List Int) (a2 : Option Addr) (l2 c2 : Nat) (z2 : List Int) (p : Nat) (w : World) (r1 : Rd w a1 l1 c1 z1) (r2 : Rd w a2 l2 c2 z2) (h1 : l1 ≤ 524288) (h2 : l2 ≤ 524288) (hp : p ≤ l1) :
    Calls Try.prog 5 #[.slice a1 l1 c1, .slice a2 l2 c2, .int .i64 p] w fun e w' => e = .returned (.bool true) ∧ Below w.heap.size w w' := by
  obtain ⟨i0, hi, hz0, hz1, hz2⟩ := info_parts Try.info5
  have I0 := Hid.of hi
  have I1 := Hid.of hz0
  have I2 := Hid.of hz1
  have I3 := Hid.of hz2
  clear hi hz0 hz1 hz2
  have R1 := Hid.of r1
  have R2 := Hid.of r2
  clear r1 r2
  go_enter Try.func5, Try.ntmps5
  go_wp2_with fail
  refine (bytes22_any a1 l1 c1 a2 l2 c2 p w).mono ?_
  rintro e w1 ⟨⟨bb, rfl⟩, hw1⟩
  subst hw1
  cases bb
  · go_wp2_with fail
    go_ret
    exact ⟨rfl, Below.refl _ _⟩
  go_wp2_with fail
  refine (clone_any a1 l1 c1 z1 _ R1.out (by omega)).mono ?_
  rintro e w2 ⟨b1, k1, rfl, s1, hb2⟩
  have S1 := Hid.of s1
  replace R2 := Hid.of (R2.out.kept hb2)
  have HB2 := Hid.of hb2
  clear s1 hb2 R1
  go_wp2_with fail
  refine (clone_any a2 l2 c2 z2 _ R2.out (by omega)).mono ?_
  rintro e w3 ⟨b2, k2, rfl, s2, hb3⟩
  have S2 := Hid.of s2
  replace S1 := Hid.of (S1.out.kept hb3)
  have HB3 := Hid.of (HB2.out.trans (hb3.mono HB2.out.size))
  clear s2 hb3 R2 HB2
  obtain ⟨X1, hX1⟩ : ∃ X1, X1 = z1.map (Value.int .u8) := ⟨_, rfl⟩
  obtain ⟨X2, hX2⟩ : ∃ X2, X2 = z2.map (Value.int .u8) := ⟨_, rfl⟩
  have HX1 := Hid.of hX1
  have HX2 := Hid.of hX2
  have hXl1 : X1.length ≤ l1 ∧ l1 ≤ X1.length := by rw [hX1, List.length_map, S1.out.len_eq]; exact ⟨Nat.le_refl _, Nat.le_refl _⟩
  have hXl2 : X2.length ≤ l2 ∧ l2 ≤ X2.length := by rw [hX2, List.length_map, S2.out.len_eq]; exact ⟨Nat.le_refl _, Nat.le_refl _⟩
  have hXo1 : Hid (∀ v ∈ X1, v.oneCell' = true) := by rw [hX1]; exact ints_oneCell _ _
  have hXo2 : Hid (∀ v ∈ X2, v.oneCell' = true) := by rw [hX2]; exact ints_oneCell _ _
  clear hX1 hX2
  obtain ⟨n, hn⟩ : ∃ n, n = l1 + l2 := ⟨_, rfl⟩
  have HN := Hid.of hn
  have hnl : n ≤ l1 + l2 ∧ l1 + l2 ≤ n := by omega
  clear hn
  obtain ⟨Z0, hZ0⟩ : ∃ Z0, Z0 = List.replicate n (Value.int .u8 0) := ⟨_, rfl⟩
  have HZ0 := Hid.of hZ0
  have hZl : Z0.length ≤ n ∧ n ≤ Z0.length := by rw [hZ0]; simp
  clear hZ0
  go_wp2_with (first
    | (at_make; refine wpList_make_full _ rfl (.tmp 42) (.tmp 42) 39 rfl w3.heap.size 5 i0 (.int .u8 0) 1 Try.underlying39 I0.out I1.out I2.out .i64 .i64 _ _ n rfl rfl (by rw [HN.out]; omega) (by rw [HN.out]; omega) (by rw [I3.out]; omega) (by simp only [maxLen]; omega) (Nat.le_refl _) ?_; intro w4 hown hgr; have hbl := Hid.of (made_block hown); have hbe := Hid.of ((Below.refl _ _).grown hgr (Nat.le_refl _) (by simp)); clear hown hgr)
    | (refine wpList_copy_splice rfl (.tmp 44) (.tmp 45) 39 39 rfl 5 Try.underlying39 Try.one5 _ _ _ _ _ _ rfl rfl w3.heap.size 0 Z0 5 (by rw [HZ0.out]; exact hbl.out) X1 ?_ ?_ ?_ hXo1.out w3.heap.size w3 hbe.out (Nat.le_refl _) ?_))
  · rw [min_left (by omega)]; omega
  · intro hp'
    obtain ⟨bb, off, e, hlt, _⟩ := S1.out.cells (by omega)
    subst e
    refine ⟨_, rfl, fun j v hj => ?_⟩
    rw [hbe.out.cell (p := (⟨bb, off, none⟩ : Addr).add j) (by rw [add_block]; exact hlt)]
    rw [HX1.out] at hj
    exact rd_news S1.out _ rfl j v hj
  · omega
  intro w5 HG5 hB5
  clear hbl hbe
  have HB5 := Hid.of hB5
  have S10 := S1
  have S20 := S2
  replace S2 := Hid.of (S2.out.kept hB5)
  replace S1 := Hid.of (S1.out.kept hB5)
  have hszb : w3.heap.size ≤ w5.heap.size := hB5.size
  clear hB5
  have hsp1 : (splice Z0 0 X1).length ≤ n ∧ n ≤ (splice Z0 0 X1).length := by rw [length_splice Z0 0 X1 (by omega)]; omega
  obtain ⟨Z1, hZ1⟩ : ∃ Z1, Z1 = splice Z0 0 X1 := ⟨_, rfl⟩
  rw [← hZ1] at HG5 hsp1
  have HZ1 := Hid.of hZ1
  clear hZ1
  go_upto_region 13 with fail
  go_cut [7] from 15 to 52 (fun v wx => v = .slice (some ⟨w3.heap.size, 0, none⟩) n n ∧ Hid (wx.heap[w3.heap.size]? = some (.cells (splice Z1 l1 X2).toArray 5 (0, 0))) ∧ Hid (Below w3.heap.size w3 wx))
  case first =>
    go_wp2_with (refine wpList_copy_splice rfl (.tmp 50) (.tmp 51) 39 39 rfl 5 Try.underlying39 Try.one5 _ _ _ _ _ _ rfl rfl w3.heap.size l1 Z1 5 HG5.out X2 ?_ ?_ ?_ hXo2.out w3.heap.size w3 HB5.out (Nat.le_refl _) ?_)
    · rw [min_left (by omega)]; omega
    · intro hp'
      omega
    · intro hp'
      obtain ⟨bb, off, e, hlt, _⟩ := S2.out.cells (by omega)
      subst e
      refine ⟨_, rfl, fun j v hj => ?_⟩
      rw [HX2.out] at hj
      exact rd_news S2.out _ rfl j v hj
    · omega
    all_goals
      intro w6 HG6 hB6
      go_wp2_with fail
      go_meet
      first | exact ⟨rfl, HG6, hB6⟩ | exact ⟨slice_len (by omega), HG6, hB6⟩
  case rest =>
    obtain ⟨rfl, HG6, HB6⟩ := hcut
    have hrow : splice Z1 l1 X2 = (z1 ++ z2).map (Value.int .u8) := by
      have e1 : X1.length = l1 := by omega
      have e2 : n = X1.length + X2.length := by omega
      rw [HZ1.out, HZ0.out, ← e1, e2, splice2, HX1.out, HX2.out, List.map_append]
    have SJ := Hid.of (rd_row (n := n) (zs := z1 ++ z2) HG6.out hrow (by rw [List.length_append, S1.out.len_eq, S2.out.len_eq, HN.out]) (by simp only [maxLen]; omega) (fun z hz => (List.mem_append.1 hz).elim (S1.out.byte z) (S2.out.byte z)))
    replace S1 := Hid.of (S10.out.kept HB6.out)
    replace S2 := Hid.of (S20.out.kept HB6.out)
    have HB := Hid.of (HB3.out.trans (HB6.out.mono HB3.out.size))
    have L1 := S1.out.len_eq
    have L2 := S2.out.len_eq
    have LJ := SJ.out.len_eq
    have hcutE := spc_cut z1 z2 p (by omega)
    rw [L1] at hcutE
    have HCUT := Hid.of hcutE
    have hr1 : spc z1 p ≤ l1 := by rw [← L1]; exact spc_le (by omega)
    have hr2 : spc z2 0 ≤ l2 := by rw [← L2]; exact spc_le (by omega)
    have hr3 : spc (z1 ++ z2) p ≤ n := by rw [← LJ]; exact spc_le (by omega)
    clear L1 L2 LJ hcutE hrow HG6 HG5 HB5 HB6 HB3 HX1 HX2 HZ0 HZ1 hXo1 hXo2 hXl1 hXl2 hZl hsp1 hszb I0 I1 I2 I3 S10 S20
    go_wp2_with fail
    refine (clone_any b1 l1 k1 z1 _ S1.out (by omega)).mono ?_
    rintro e waA ⟨dA, qA, rfl, tA, hb⟩
    have T := Hid.of tA
    replace S1 := Hid.of (S1.out.kept hb)
    replace S2 := Hid.of (S2.out.kept hb)
    replace SJ := Hid.of (SJ.out.kept hb)
    replace HB := Hid.of (HB.out.trans (hb.mono HB.out.size))
    clear hb tA
    go_wp2_with fail
    refine (newDec_any dA l1 qA p _).mono ?_
    rintro e wbA ⟨rfl, hwb⟩
    have hb : Below waA.heap.size waA wbA := by rw [hwb]; exact (Below.refl _ _).alloc (Nat.le_refl _) _
    have hd : DecAt wbA waA.heap.size dA l1 qA p := by rw [hwb]; exact newAt rfl
    clear hwb
    have hbs := zzspace_any waA.heap.size dA l1 qA p z1 wbA hd (T.out.kept hb) (rd_lt T.out) hp (by omega)
    have HSP := Hid.of hbs
    have HBb := Hid.of hb
    clear hbs hb hd T
    go_wp2_with fail
    refine HSP.out.mono ?_
    rintro e wdA ⟨rfl, hd, hb⟩
    have hb2 : Below waA.heap.size waA wdA := HBb.out.trans hb
    replace S1 := Hid.of (S1.out.kept hb2)
    replace S2 := Hid.of (S2.out.kept hb2)
    replace SJ := Hid.of (SJ.out.kept hb2)
    replace HB := Hid.of (HB.out.trans (hb2.mono HB.out.size))
    have HD := Hid.of hd
    clear hd hb hb2 HSP HBb
    go_wp2_with fail
    refine (pos_any _ _ _ _ _ _ HD.out).mono ?_
    rintro e weA ⟨rfl, rfl⟩
    clear HD
    go_wp2_with fail
    refine (clone_any b2 l2 k2 z2 _ S2.out (by omega)).mono ?_
    rintro e waB ⟨dB, qB, rfl, tB, hb⟩
    have T := Hid.of tB
    replace SJ := Hid.of (SJ.out.kept hb)
    replace HB := Hid.of (HB.out.trans (hb.mono HB.out.size))
    clear hb tB S2 S1
    go_wp2_with fail
    refine (newDec_any dB l2 qB 0 _).mono ?_
    rintro e wbB ⟨rfl, hwb⟩
    have hb : Below waB.heap.size waB wbB := by rw [hwb]; exact (Below.refl _ _).alloc (Nat.le_refl _) _
    have hd : DecAt wbB waB.heap.size dB l2 qB 0 := by rw [hwb]; exact newAt rfl
    clear hwb
    have HSP := Hid.of (zzspace_any waB.heap.size dB l2 qB 0 z2 wbB hd (T.out.kept hb) (rd_lt T.out) (Nat.zero_le _) (by omega))
    have HBb := Hid.of hb
    clear hb hd T
    go_wp2_with fail
    refine HSP.out.mono ?_
    rintro e wdB ⟨rfl, hd, hb⟩
    have hb2 : Below waB.heap.size waB wdB := HBb.out.trans hb
    replace SJ := Hid.of (SJ.out.kept hb2)
    replace HB := Hid.of (HB.out.trans (hb2.mono HB.out.size))
    have HD := Hid.of hd
    clear hd hb hb2 HSP HBb
    go_wp2_with fail
    refine (pos_any _ _ _ _ _ _ HD.out).mono ?_
    rintro e weB ⟨rfl, rfl⟩
    clear HD
    go_wp2_with fail
    refine (clone_any (some ⟨w3.heap.size, 0, none⟩) n n (z1 ++ z2) _ SJ.out (by omega)).mono ?_
    rintro e waC ⟨dC, qC, rfl, tC, hb⟩
    have T := Hid.of tC
    replace SJ := Hid.of (SJ.out.kept hb)
    replace HB := Hid.of (HB.out.trans (hb.mono HB.out.size))
    clear hb tC
    go_wp2_with fail
    refine (newDec_any dC n qC p _).mono ?_
    rintro e wbC ⟨rfl, hwb⟩
    have hb : Below waC.heap.size waC wbC := by rw [hwb]; exact (Below.refl _ _).alloc (Nat.le_refl _) _
    have hd : DecAt wbC waC.heap.size dC n qC p := by rw [hwb]; exact newAt rfl
    clear hwb
    have HSP := Hid.of (zzspace_any waC.heap.size dC n qC p (z1 ++ z2) wbC hd (T.out.kept hb) (rd_lt T.out) (by omega) (by omega))
    have HBb := Hid.of hb
    clear hb hd T
    go_wp2_with fail
    refine HSP.out.mono ?_
    rintro e wdC ⟨rfl, hd, hb⟩
    have hb2 : Below waC.heap.size waC wdC := HBb.out.trans hb
    replace SJ := Hid.of (SJ.out.kept hb2)
    replace HB := Hid.of (HB.out.trans (hb2.mono HB.out.size))
    have HD := Hid.of hd
    clear hd hb hb2 HSP HBb
    go_wp2_with fail
    refine (pos_any _ _ _ _ _ _ HD.out).mono ?_
    rintro e weC ⟨rfl, rfl⟩
    clear HD
    have HST := Hid.of (stops_any (some ⟨w3.heap.size, 0, none⟩) n n p (z1 ++ z2) weC SJ.out (by omega) (by omega))
    generalize spc z1 p = r1 at *
    generalize spc z2 0 = r2 at *
    generalize spc (z1 ++ z2) p = r3 at *
    by_cases hge : l1 ≤ r1
    · have e3 : r3 = l1 + r2 := by have h := HCUT.out; rw [if_pos hge] at h; exact h
      have heq : ((r3 : Int) == (l1 : Int) + (r2 : Int)) = true := by rw [e3]; simp
      clear e3
      go_wp2_with fail
      refine HST.out.mono ?_
      rintro e w9 ⟨rfl, rfl⟩
      go_wp2_with fail
      go_ret
      exact ⟨rfl, HB.out⟩
    · have e3 : r3 = r1 := by have h := HCUT.out; rw [if_neg hge] at h; exact h
      have heq : ((r3 : Int) == (r1 : Int)) = true := by rw [e3]; simp
      clear e3
      go_wp2_with fail
      refine HST.out.mono ?_
      rintro e w9 ⟨rfl, rfl⟩
      go_wp2_with fail
      go_ret
      exact ⟨rfl, HB.out⟩

theorem cut_law (a1 : Option Addr) (l1 c1 : Nat) (z1 : List Int) (a2 : Option Addr) (l2 c2 : Nat) (z2 : List Int) (p : Int) (w : World) (r1 : Rd w a1 l1 c1 z1) (r2 : Rd w a2 l2 c2 z2) :
    Calls Try.prog 5 #[.slice a1 l1 c1, .slice a2 l2 c2, .int .i64 p] w fun e w' => e = .returned (.bool true) ∧ Below w.heap.size w w' := by
  by_cases h1 : 524288 < l1
  · exact cut_out _ _ _ _ _ _ _ _ (.inl h1)
  by_cases h2 : 524288 < l2
  · exact cut_out _ _ _ _ _ _ _ _ (.inr (.inl h2))
  by_cases h3 : p < 0
  · exact cut_out _ _ _ _ _ _ _ _ (.inr (.inr (.inl h3)))
  by_cases h4 : (l1 : Int) < p
  · exact cut_out _ _ _ _ _ _ _ _ (.inr (.inr (.inr h4)))
  obtain ⟨q, rfl⟩ := Int.eq_ofNat_of_zero_le (show 0 ≤ p by omega)
  exact cut_in a1 l1 c1 z1 a2 l2 c2 z2 q w r1 r2 (by omega) (by omega) (by omega)
end Go.Proofs.Qxb6618894a
