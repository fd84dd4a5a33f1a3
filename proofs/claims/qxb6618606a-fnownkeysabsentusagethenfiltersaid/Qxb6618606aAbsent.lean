import Derived.Test.Qxb6618606aSrc
namespace Go.Proofs.Qxb6618606a
open Go.RowKit

set_option maxRecDepth 100000 in
set_option maxHeartbeats 8000000 in
theorem absent_any (L : ByteArray) (dl : Bool) (c u : ZN) (j : PK) (t : ZN) (zc zu zt : List Int) (w : World) (rc : Rd w c.a c.l c.c zc) (ru : Rd w u.a u.l u.c zu) (rt : Rd w t.a t.l t.c zt) :
    Calls Try.prog 5 #[.string L, .bool dl, .agg #[.string c.s, .string c.i, .slice c.a c.l c.c, .string c.k.x, .string c.k.y, .string c.k.z, .int .i64 c.k.n], .agg #[.string u.s, .string u.i, .slice u.a u.l u.c, .string u.k.x, .string u.k.y, .string u.k.z, .int .i64 u.k.n], .agg #[.string j.x, .string j.y, .string j.z, .int .i64 j.n], .agg #[.string t.s, .string t.i, .slice t.a t.l t.c, .string t.k.x, .string t.k.y, .string t.k.z, .int .i64 t.k.n]] w fun e w' => e = .returned (.bool true) ∧ Below w.heap.size w w' := by
  have RC := Hid.of rc
  have RU := Hid.of ru
  have RT := Hid.of rt
  clear rc ru rt
  obtain ⟨p0, hp0⟩ : ∃ p, (L.toList == c.i.toList) = p := ⟨_, rfl⟩
  obtain ⟨p1, hp1⟩ : ∃ p, (L.toList == t.s.toList) = p := ⟨_, rfl⟩
  obtain ⟨q2, hq2⟩ : ∃ p, (L.toList == c.s.toList) = p := ⟨_, rfl⟩
  have P0 := Hid.of hp0
  have P1 := Hid.of hp1
  have Q2 := Hid.of hq2
  clear hp0 hp1 hq2
  go_enter Try.func5, Try.ntmps5
  go_upto_region 1 with fail
  obtain ⟨w1, hw1⟩ : ∃ w1, w1 = ((((w.alloc (.cells #[.string c.s, .string c.i, .slice c.a c.l c.c, .string c.k.x, .string c.k.y, .string c.k.z, .int .i64 c.k.n] 32)).alloc (.cells #[.string u.s, .string u.i, .slice u.a u.l u.c, .string u.k.x, .string u.k.y, .string u.k.z, .int .i64 u.k.n] 32)).alloc (.cells #[.string j.x, .string j.y, .string j.z, .int .i64 j.n] 30)).alloc (.cells #[.string t.s, .string t.i, .slice t.a t.l t.c, .string t.k.x, .string t.k.y, .string t.k.z, .int .i64 t.k.n] 32)) := ⟨_, rfl⟩
  rw [← hw1]
  have hbx : Boxes w1 w c u j t := by rw [hw1]; exact Boxes.mk' w c u j t
  have hb1 : Below w.heap.size w w1 := by rw [hw1]; exact box4 _ _ _ _ _
  clear hw1
  have HB1 := Hid.of hb1
  have HBX := Hid.of hbx
  replace RC := Hid.of (RC.out.kept hb1)
  replace RU := Hid.of (RU.out.kept hb1)
  replace RT := Hid.of (RT.out.kept hb1)
  clear hbx hb1
  have fc0 : w1.cell? ⟨w.heap.size, 0, none⟩ = some (.string c.s) := cell_of_row w1 _ 0 _ _ _ HBX.out.bc
  have fc1 : w1.cell? ⟨w.heap.size, 1, none⟩ = some (.string c.i) := cell_of_row w1 _ 1 _ _ _ HBX.out.bc
  have fc2 : w1.cell? ⟨w.heap.size, 2, none⟩ = some (.slice c.a c.l c.c) := cell_of_row w1 _ 2 _ _ _ HBX.out.bc
  have fc3 : w1.cell? ⟨w.heap.size, 3, none⟩ = some (.string c.k.x) := cell_of_row w1 _ 3 _ _ _ HBX.out.bc
  have fc4 : w1.cell? ⟨w.heap.size, 4, none⟩ = some (.string c.k.y) := cell_of_row w1 _ 4 _ _ _ HBX.out.bc
  have fc5 : w1.cell? ⟨w.heap.size, 5, none⟩ = some (.string c.k.z) := cell_of_row w1 _ 5 _ _ _ HBX.out.bc
  have fc6 : w1.cell? ⟨w.heap.size, 6, none⟩ = some (.int .i64 c.k.n) := cell_of_row w1 _ 6 _ _ _ HBX.out.bc
  have fu0 : w1.cell? ⟨w.heap.size + 1, 0, none⟩ = some (.string u.s) := cell_of_row w1 _ 0 _ _ _ HBX.out.bu
  have fu1 : w1.cell? ⟨w.heap.size + 1, 1, none⟩ = some (.string u.i) := cell_of_row w1 _ 1 _ _ _ HBX.out.bu
  have fu2 : w1.cell? ⟨w.heap.size + 1, 2, none⟩ = some (.slice u.a u.l u.c) := cell_of_row w1 _ 2 _ _ _ HBX.out.bu
  have fu3 : w1.cell? ⟨w.heap.size + 1, 3, none⟩ = some (.string u.k.x) := cell_of_row w1 _ 3 _ _ _ HBX.out.bu
  have fu4 : w1.cell? ⟨w.heap.size + 1, 4, none⟩ = some (.string u.k.y) := cell_of_row w1 _ 4 _ _ _ HBX.out.bu
  have fu5 : w1.cell? ⟨w.heap.size + 1, 5, none⟩ = some (.string u.k.z) := cell_of_row w1 _ 5 _ _ _ HBX.out.bu
  have fu6 : w1.cell? ⟨w.heap.size + 1, 6, none⟩ = some (.int .i64 u.k.n) := cell_of_row w1 _ 6 _ _ _ HBX.out.bu
  have fj0 : w1.cell? ⟨w.heap.size + 1 + 1, 0, none⟩ = some (.string j.x) := cell_of_row w1 _ 0 _ _ _ HBX.out.bj
  have fj1 : w1.cell? ⟨w.heap.size + 1 + 1, 1, none⟩ = some (.string j.y) := cell_of_row w1 _ 1 _ _ _ HBX.out.bj
  have fj2 : w1.cell? ⟨w.heap.size + 1 + 1, 2, none⟩ = some (.string j.z) := cell_of_row w1 _ 2 _ _ _ HBX.out.bj
  have fj3 : w1.cell? ⟨w.heap.size + 1 + 1, 3, none⟩ = some (.int .i64 j.n) := cell_of_row w1 _ 3 _ _ _ HBX.out.bj
  have ft0 : w1.cell? ⟨w.heap.size + 1 + 1 + 1, 0, none⟩ = some (.string t.s) := cell_of_row w1 _ 0 _ _ _ HBX.out.bt
  have ft1 : w1.cell? ⟨w.heap.size + 1 + 1 + 1, 1, none⟩ = some (.string t.i) := cell_of_row w1 _ 1 _ _ _ HBX.out.bt
  have ft2 : w1.cell? ⟨w.heap.size + 1 + 1 + 1, 2, none⟩ = some (.slice t.a t.l t.c) := cell_of_row w1 _ 2 _ _ _ HBX.out.bt
  have ft3 : w1.cell? ⟨w.heap.size + 1 + 1 + 1, 3, none⟩ = some (.string t.k.x) := cell_of_row w1 _ 3 _ _ _ HBX.out.bt
  have ft4 : w1.cell? ⟨w.heap.size + 1 + 1 + 1, 4, none⟩ = some (.string t.k.y) := cell_of_row w1 _ 4 _ _ _ HBX.out.bt
  have ft5 : w1.cell? ⟨w.heap.size + 1 + 1 + 1, 5, none⟩ = some (.string t.k.z) := cell_of_row w1 _ 5 _ _ _ HBX.out.bt
  have ft6 : w1.cell? ⟨w.heap.size + 1 + 1 + 1, 6, none⟩ = some (.int .i64 t.k.n) := cell_of_row w1 _ 6 _ _ _ HBX.out.bt
  go_wp2_with fail
  refine (bytes16_any L dl c u j t w1).mono ?_
  rintro e w2 ⟨⟨b28, rfl⟩, hb2⟩
  clear fc0 fc1 fc2 fc3 fc4 fc5 fc6 fu0 fu1 fu2 fu3 fu4 fu5 fu6 fj0 fj1 fj2 fj3 ft0 ft1 ft2 ft3 ft4 ft5 ft6
  have HB2 := Hid.of (HB1.out.trans (hb2.mono HB1.out.size))
  replace RC := Hid.of (RC.out.kept hb2)
  replace RU := Hid.of (RU.out.kept hb2)
  replace RT := Hid.of (RT.out.kept hb2)
  replace HBX := Hid.of (HBX.out.kept hb2)
  clear hb2 HB1
  cases b28
  · go_wp2_with fail
    go_ret
    exact ⟨rfl, HB2.out⟩
  have fc0 : w2.cell? ⟨w.heap.size, 0, none⟩ = some (.string c.s) := cell_of_row w2 _ 0 _ _ _ HBX.out.bc
  have fc1 : w2.cell? ⟨w.heap.size, 1, none⟩ = some (.string c.i) := cell_of_row w2 _ 1 _ _ _ HBX.out.bc
  have fc2 : w2.cell? ⟨w.heap.size, 2, none⟩ = some (.slice c.a c.l c.c) := cell_of_row w2 _ 2 _ _ _ HBX.out.bc
  have fc3 : w2.cell? ⟨w.heap.size, 3, none⟩ = some (.string c.k.x) := cell_of_row w2 _ 3 _ _ _ HBX.out.bc
  have fc4 : w2.cell? ⟨w.heap.size, 4, none⟩ = some (.string c.k.y) := cell_of_row w2 _ 4 _ _ _ HBX.out.bc
  have fc5 : w2.cell? ⟨w.heap.size, 5, none⟩ = some (.string c.k.z) := cell_of_row w2 _ 5 _ _ _ HBX.out.bc
  have fc6 : w2.cell? ⟨w.heap.size, 6, none⟩ = some (.int .i64 c.k.n) := cell_of_row w2 _ 6 _ _ _ HBX.out.bc
  have fu0 : w2.cell? ⟨w.heap.size + 1, 0, none⟩ = some (.string u.s) := cell_of_row w2 _ 0 _ _ _ HBX.out.bu
  have fu1 : w2.cell? ⟨w.heap.size + 1, 1, none⟩ = some (.string u.i) := cell_of_row w2 _ 1 _ _ _ HBX.out.bu
  have fu2 : w2.cell? ⟨w.heap.size + 1, 2, none⟩ = some (.slice u.a u.l u.c) := cell_of_row w2 _ 2 _ _ _ HBX.out.bu
  have fu3 : w2.cell? ⟨w.heap.size + 1, 3, none⟩ = some (.string u.k.x) := cell_of_row w2 _ 3 _ _ _ HBX.out.bu
  have fu4 : w2.cell? ⟨w.heap.size + 1, 4, none⟩ = some (.string u.k.y) := cell_of_row w2 _ 4 _ _ _ HBX.out.bu
  have fu5 : w2.cell? ⟨w.heap.size + 1, 5, none⟩ = some (.string u.k.z) := cell_of_row w2 _ 5 _ _ _ HBX.out.bu
  have fu6 : w2.cell? ⟨w.heap.size + 1, 6, none⟩ = some (.int .i64 u.k.n) := cell_of_row w2 _ 6 _ _ _ HBX.out.bu
  have fj0 : w2.cell? ⟨w.heap.size + 1 + 1, 0, none⟩ = some (.string j.x) := cell_of_row w2 _ 0 _ _ _ HBX.out.bj
  have fj1 : w2.cell? ⟨w.heap.size + 1 + 1, 1, none⟩ = some (.string j.y) := cell_of_row w2 _ 1 _ _ _ HBX.out.bj
  have fj2 : w2.cell? ⟨w.heap.size + 1 + 1, 2, none⟩ = some (.string j.z) := cell_of_row w2 _ 2 _ _ _ HBX.out.bj
  have fj3 : w2.cell? ⟨w.heap.size + 1 + 1, 3, none⟩ = some (.int .i64 j.n) := cell_of_row w2 _ 3 _ _ _ HBX.out.bj
  have ft0 : w2.cell? ⟨w.heap.size + 1 + 1 + 1, 0, none⟩ = some (.string t.s) := cell_of_row w2 _ 0 _ _ _ HBX.out.bt
  have ft1 : w2.cell? ⟨w.heap.size + 1 + 1 + 1, 1, none⟩ = some (.string t.i) := cell_of_row w2 _ 1 _ _ _ HBX.out.bt
  have ft2 : w2.cell? ⟨w.heap.size + 1 + 1 + 1, 2, none⟩ = some (.slice t.a t.l t.c) := cell_of_row w2 _ 2 _ _ _ HBX.out.bt
  have ft3 : w2.cell? ⟨w.heap.size + 1 + 1 + 1, 3, none⟩ = some (.string t.k.x) := cell_of_row w2 _ 3 _ _ _ HBX.out.bt
  have ft4 : w2.cell? ⟨w.heap.size + 1 + 1 + 1, 4, none⟩ = some (.string t.k.y) := cell_of_row w2 _ 4 _ _ _ HBX.out.bt
  have ft5 : w2.cell? ⟨w.heap.size + 1 + 1 + 1, 5, none⟩ = some (.string t.k.z) := cell_of_row w2 _ 5 _ _ _ HBX.out.bt
  have ft6 : w2.cell? ⟨w.heap.size + 1 + 1 + 1, 6, none⟩ = some (.int .i64 t.k.n) := cell_of_row w2 _ 6 _ _ _ HBX.out.bt
  go_wp2_with fail
  refine (tooBig_any L c u j t w2).mono ?_
  rintro e w3 ⟨⟨b17, rfl⟩, hb3⟩
  clear fc0 fc1 fc2 fc3 fc4 fc5 fc6 fu0 fu1 fu2 fu3 fu4 fu5 fu6 fj0 fj1 fj2 fj3 ft0 ft1 ft2 ft3 ft4 ft5 ft6
  have HB3 := Hid.of (HB2.out.trans (hb3.mono HB2.out.size))
  replace RC := Hid.of (RC.out.kept hb3)
  replace RU := Hid.of (RU.out.kept hb3)
  replace RT := Hid.of (RT.out.kept hb3)
  replace HBX := Hid.of (HBX.out.kept hb3)
  clear hb3 HB2
  cases b17
  rotate_left
  · go_wp2_with fail
    go_ret
    exact ⟨rfl, HB3.out⟩
  obtain ⟨i0, hi, hz0, hz1, hz2⟩ := info_parts Try.info3
  have I0 := Hid.of hi
  have I1 := Hid.of hz0
  have I2 := Hid.of hz1
  have I3 := Hid.of hz2
  clear hi hz0 hz1 hz2
  have HK3 : Hid (Below w3.heap.size w3 w3) := Below.refl _ _
  have fx : w3.cell? ⟨w.heap.size, 1, none⟩ = some (.string c.i) := cell_of_row w3 _ 1 _ _ _ HBX.out.bc
  have r0 := P0.out
  go_upto_if 53 with fail
  go_cut [13] from 36 to 56 (fun v wx => wx.ownsRow w3.heap.size 3 1 v (optN p0 0).length (icells (optN p0 0)) ∧ Below w3.heap.size w3 wx)
  case first =>
    clear r0 fx
    cases p0 with
    | false =>
      go_wp2_with fail
      go_meet
      case rel => exact ⟨World.ownsRow_nil _ _ _ _, Below.refl _ _⟩
    | true =>
      go_wp2_with (at_builtin; refine wpList_append_own _ rfl (.tmp 54) (.tmp 55) 35 rfl w3.heap.size 3 i0 _ 1 8 Try.underlying35 I0.out I1.out I2.out I3.out rfl (by decide) (.slice none 0 0) 0 [] rfl (World.ownsRow_nil _ _ _ _) ⟨w3.heap.size, 0, none⟩ 1 1 [.int .i64 0] rfl rfl (int_news _ _ _) (int_one _) (by simp only [maxLen]; omega) (by omega) (by simp) ?_; intro v' w4 hown hgr _)
      have hbe : Below w3.heap.size w3 w4 := ((Below.refl _ _).alloc (Nat.le_refl _) _).grown hgr (by simp) (by simp [Value.ownBlock])
      go_meet
      case rel => exact ⟨ints_step (ss := []) (by simpa [icells] using hown), hbe⟩
  case rest =>
    obtain ⟨hown, hbc⟩ := hcut
    have HW := Hid.of hown
    have HBC := Hid.of hbc
    clear r0 fx
    have hl0 := optN_len p0 0
    have HBX0 := HBX
    replace HBX := Hid.of (HBX0.out.kept hbc)
    clear hown hbc HK3
    have fx : wc.cell? ⟨w.heap.size + 1 + 1 + 1, 0, none⟩ = some (.string t.s) := cell_of_row wc _ 0 _ _ _ HBX.out.bt
    have r1 := P1.out
    go_upto_if 60 with fail
    go_cut [13] from 57 to 63 (fun v wx => wx.ownsRow w3.heap.size 3 1 v (optN p0 0 ++ optN p1 1).length (icells (optN p0 0 ++ optN p1 1)) ∧ Below w3.heap.size w3 wx)
    case first =>
      clear r1 fx
      cases p1 with
      | false =>
        go_wp2_with fail
        go_meet
        case rel => exact ⟨ints_same HW.out, HBC.out⟩
      | true =>
        go_wp2_with (at_builtin; refine wpList_append_own _ rfl (.tmp 61) (.tmp 62) 35 rfl w3.heap.size 3 i0 _ 1 8 Try.underlying35 I0.out I1.out I2.out I3.out rfl (by decide) u13 (optN p0 0).length (icells (optN p0 0)) rfl (HW.out.alloc _) ⟨wc.heap.size, 0, none⟩ 1 1 [.int .i64 1] rfl rfl (int_news _ _ _) (int_one _) (by simp only [maxLen]; omega) (by omega) (by have := HBC.out.size; simp; omega) ?_; intro v' w4 hown hgr _)
        have hbe : Below w3.heap.size w3 w4 := (HBC.out.alloc HBC.out.size _).grown hgr (by have := HBC.out.size; simp; omega) (fun k hk => (HW.out.lt k hk).1)
        go_meet
        case rel => exact ⟨ints_step hown, hbe⟩
    case rest =>
      obtain ⟨hown, hbc⟩ := hcut
      clear HW HBC r1 fx HBX
      have HW := Hid.of hown
      have HBC := Hid.of hbc
      have hl1 : (optN p0 0 ++ optN p1 1).length ≤ 2 := by have := optN_len p1 1; rw [List.length_append]; omega
      have HBX := Hid.of (HBX0.out.kept hbc)
      clear hown hbc hl0
      obtain ⟨p2, hp2⟩ : ∃ p, (dl && q2) = p := ⟨_, rfl⟩
      have P2 := Hid.of hp2
      clear hp2
      go_upto_region 10 with fail
      go_cut [70] from 64 to 70 (fun v wx => v = .bool p2 ∧ wx = wc)
      case first =>
        have r2 := Q2.out
        have fx : wc.cell? ⟨w.heap.size, 0, none⟩ = some (.string c.s) := cell_of_row wc _ 0 _ _ _ HBX.out.bc
        cases dl with
        | false =>
          go_wp2_with fail
          go_meet
          case rel => exact ⟨by rw [← P2.out]; rfl, rfl⟩
        | true =>
          cases q2 with
          | false =>
            go_wp2_with fail
            go_meet
            case rel => exact ⟨by rw [← P2.out]; rfl, rfl⟩
          | true =>
            go_wp2_with fail
            go_meet
            case rel => exact ⟨by rw [← P2.out]; rfl, rfl⟩
      case rest =>
        obtain ⟨rfl, hwc⟩ := hcut
        subst hwc
        go_upto_if 70 with fail
        go_cut [13] from 64 to 73 (fun v wx => (∃ a cap, v = .slice a (srcs p0 p1 p2).length cap ∧ SRd wx a (srcs p0 p1 p2)) ∧ Below w3.heap.size w3 wx)
        case first =>
          cases p2 with
          | false =>
            go_wp2_with fail
            go_meet
            case rel => exact ⟨own_ints (B := w3.heap.size) (ints_same HW.out), HBC.out⟩
          | true =>
            go_wp2_with (at_builtin; refine wpList_append_own _ rfl (.tmp 71) (.tmp 72) 35 rfl w3.heap.size 3 i0 _ 1 8 Try.underlying35 I0.out I1.out I2.out I3.out rfl (by decide) u13 (optN p0 0 ++ optN p1 1).length (icells (optN p0 0 ++ optN p1 1)) rfl (HW.out.alloc _) ⟨wc.heap.size, 0, none⟩ 1 1 [.int .i64 2] rfl rfl (int_news _ _ _) (int_one _) (by simp only [maxLen]; omega) (by omega) (by have := HBC.out.size; simp; omega) ?_; intro v' w4 hown hgr _)
            have hbe : Below w3.heap.size w3 w4 := (HBC.out.alloc HBC.out.size _).grown hgr (by have := HBC.out.size; simp; omega) (fun k hk => (HW.out.lt k hk).1)
            go_meet
            case rel => exact ⟨own_ints (B := w3.heap.size) (ints_step hown), hbe⟩
        case rest =>
          obtain ⟨⟨sa, scap, rfl, hsr⟩, hbc⟩ := hcut
          clear HW HBC HBX
          have HSR := Hid.of hsr
          have HBX := Hid.of (HBX0.out.kept hbc)
          replace RC := Hid.of (RC.out.kept hbc)
          replace RU := Hid.of (RU.out.kept hbc)
          replace RT := Hid.of (RT.out.kept hbc)
          have HBW := Hid.of (HB3.out.trans (hbc.mono HB3.out.size))
          clear hsr hbc HB3 HBX0 hl1 I0 I1 I2 I3
          obtain ⟨ss, hss⟩ : ∃ ss, ss = srcs p0 p1 p2 := ⟨_, rfl⟩
          rw [← hss] at HSR
          rw [← hss]
          have hsn : ss.length ≤ 3 := by rw [hss]; exact srcs_len p0 p1 p2
          have SS := Hid.of hss
          clear hss
          go_upto_region 12 with fail
          go_cut [14] from 74 to 82 (fun v wx => (∃ b, v = .pointer (some ⟨b, 0, none⟩) ∧ wx.heap[b]? = some (.cells #[.string j.x, .string j.y, .string j.z, .int .i64 j.n] 39)) ∧ Below wc.heap.size wc wx)
          case first =>
            have fj0 : wc.cell? ⟨w.heap.size + 1 + 1, 0, none⟩ = some (.string j.x) := cell_of_row wc _ 0 _ _ _ HBX.out.bj
            have fj1 : wc.cell? ⟨w.heap.size + 1 + 1, 1, none⟩ = some (.string j.y) := cell_of_row wc _ 1 _ _ _ HBX.out.bj
            have fj2 : wc.cell? ⟨w.heap.size + 1 + 1, 2, none⟩ = some (.string j.z) := cell_of_row wc _ 2 _ _ _ HBX.out.bj
            have fj3 : wc.cell? ⟨w.heap.size + 1 + 1, 3, none⟩ = some (.int .i64 j.n) := cell_of_row wc _ 3 _ _ _ HBX.out.bj
            go_wp2_with (go_at_call 18; refine (newKey_any _ _ _ _ _).mono ?_; rintro e w' ⟨rfl, rfl⟩)
            go_meet
            case rel => exact ⟨⟨_, rfl, newAt (by simp)⟩, ((Below.refl _ _).alloc (Nat.le_refl _) _).alloc (by simp) _⟩
          case rest =>
            obtain ⟨⟨bk, rfl, hk⟩, hb⟩ := hcut
            have HKEY := Hid.of hk
            replace RC := Hid.of (RC.out.kept hb)
            replace RU := Hid.of (RU.out.kept hb)
            replace RT := Hid.of (RT.out.kept hb)
            replace HBX := Hid.of (HBX.out.kept hb)
            replace HSR := Hid.of (HSR.out.kept hb)
            replace HBW := Hid.of (HBW.out.trans (hb.mono HBW.out.size))
            clear hk hb
            go_upto_region 13 with fail
            go_cut [15] from 83 to 84 (fun v wx => (∃ b, v = .pointer (some ⟨b, 0, none⟩) ∧ CrlAt wx b L) ∧ Below wc.heap.size wc wx)
            case first =>
              go_wp2_with (go_at_call 19; refine (newCRL_any _ _).mono ?_; rintro e w' ⟨b, rfl, hcr, hb⟩)
              go_meet
              case rel => exact ⟨⟨b, rfl, hcr⟩, hb⟩
            case rest =>
              obtain ⟨⟨bl, rfl, hcr⟩, hb⟩ := hcut
              have HCR := Hid.of hcr
              replace RC := Hid.of (RC.out.kept hb)
              replace RU := Hid.of (RU.out.kept hb)
              replace RT := Hid.of (RT.out.kept hb)
              replace HBX := Hid.of (HBX.out.kept hb)
              replace HSR := Hid.of (HSR.out.kept hb)
              replace HKEY := Hid.of (heap_kept HKEY.out hb)
              replace HBW := Hid.of (HBW.out.trans (hb.mono HBW.out.size))
              clear hcr hb
              go_upto_region 14 with fail
              go_cut [16] from 85 to 86 (fun v wx => (∃ b, v = .pointer (some ⟨b, 0, none⟩) ∧ ScopeAt wx b dl) ∧ Below wc.heap.size wc wx)
              case first =>
                go_wp2_with (go_at_call 20; refine (newScope_any _ _).mono ?_; rintro e w' ⟨b, rfl, hsc, hb⟩)
                go_meet
                case rel => exact ⟨⟨b, rfl, hsc⟩, hb⟩
              case rest =>
                obtain ⟨⟨bs, rfl, hsc⟩, hb⟩ := hcut
                have HSC := Hid.of hsc
                replace RC := Hid.of (RC.out.kept hb)
                replace RU := Hid.of (RU.out.kept hb)
                replace RT := Hid.of (RT.out.kept hb)
                replace HBX := Hid.of (HBX.out.kept hb)
                replace HSR := Hid.of (HSR.out.kept hb)
                replace HKEY := Hid.of (heap_kept HKEY.out hb)
                replace HCR := Hid.of (HCR.out.kept hb)
                replace HBW := Hid.of (HBW.out.trans (hb.mono HBW.out.size))
                clear hsc hb
                go_upto_region 15 with fail
                go_cut [17] from 87 to 106 (fun v wx => (∃ b, v = .pointer (some ⟨b, 0, none⟩) ∧ NodeAt wx b c.s c.i c.k c.a c.l c.c) ∧ Below wc.heap.size wc wx)
                case first =>
                  have g0 : wc.cell? ⟨w.heap.size, 0, none⟩ = some (.string c.s) := cell_of_row wc _ 0 _ _ _ HBX.out.bc
                  have g1 : wc.cell? ⟨w.heap.size, 1, none⟩ = some (.string c.i) := cell_of_row wc _ 1 _ _ _ HBX.out.bc
                  have g2 : wc.cell? ⟨w.heap.size, 2, none⟩ = some (.slice c.a c.l c.c) := cell_of_row wc _ 2 _ _ _ HBX.out.bc
                  have g3 : wc.cell? ⟨w.heap.size, 3, none⟩ = some (.string c.k.x) := cell_of_row wc _ 3 _ _ _ HBX.out.bc
                  have g4 : wc.cell? ⟨w.heap.size, 4, none⟩ = some (.string c.k.y) := cell_of_row wc _ 4 _ _ _ HBX.out.bc
                  have g5 : wc.cell? ⟨w.heap.size, 5, none⟩ = some (.string c.k.z) := cell_of_row wc _ 5 _ _ _ HBX.out.bc
                  have g6 : wc.cell? ⟨w.heap.size, 6, none⟩ = some (.int .i64 c.k.n) := cell_of_row wc _ 6 _ _ _ HBX.out.bc
                  go_region_held3 (fun w' => w'.cell? ⟨w.heap.size, 0, none⟩ = some (.string c.s) ∧ w'.cell? ⟨w.heap.size, 1, none⟩ = some (.string c.i) ∧ w'.cell? ⟨w.heap.size, 2, none⟩ = some (.slice c.a c.l c.c) ∧ w'.cell? ⟨w.heap.size, 3, none⟩ = some (.string c.k.x) ∧ w'.cell? ⟨w.heap.size, 4, none⟩ = some (.string c.k.y) ∧ w'.cell? ⟨w.heap.size, 5, none⟩ = some (.string c.k.z) ∧ w'.cell? ⟨w.heap.size, 6, none⟩ = some (.int .i64 c.k.n)) (go_keep) (first | (go_at_call 18; refine (newKey_any _ _ _ _ _).mono ?_; rintro e w' ⟨rfl, rfl⟩) | (go_at_call 21; refine (newNode_any c.s c.i c.a c.l c.c c.k _).mono ?_; rintro e w' ⟨b, rfl, hn, hb⟩; have hbw := node_below hb; have k0 := keep_cell hbw g0; have k1 := keep_cell hbw g1; have k2 := keep_cell hbw g2; have k3 := keep_cell hbw g3; have k4 := keep_cell hbw g4; have k5 := keep_cell hbw g5; have k6 := keep_cell hbw g6))
                  go_wp2_with fail
                  go_meet
                  case rel => exact ⟨⟨b, rfl, hn⟩, hbw⟩
                case rest =>
                  obtain ⟨⟨bn, rfl, hn⟩, hb⟩ := hcut
                  have HNC := Hid.of hn
                  replace RC := Hid.of (RC.out.kept hb)
                  replace RU := Hid.of (RU.out.kept hb)
                  replace RT := Hid.of (RT.out.kept hb)
                  replace HBX := Hid.of (HBX.out.kept hb)
                  replace HSR := Hid.of (HSR.out.kept hb)
                  replace HKEY := Hid.of (heap_kept HKEY.out hb)
                  replace HCR := Hid.of (HCR.out.kept hb)
                  replace HSC := Hid.of (HSC.out.kept hb)
                  replace HBW := Hid.of (HBW.out.trans (hb.mono HBW.out.size))
                  clear hn hb
                  go_upto_region 16 with fail
                  go_cut [18] from 107 to 126 (fun v wx => (∃ b, v = .pointer (some ⟨b, 0, none⟩) ∧ NodeAt wx b u.s u.i u.k u.a u.l u.c) ∧ Below wc.heap.size wc wx)
                  case first =>
                    have g0 : wc.cell? ⟨w.heap.size + 1, 0, none⟩ = some (.string u.s) := cell_of_row wc _ 0 _ _ _ HBX.out.bu
                    have g1 : wc.cell? ⟨w.heap.size + 1, 1, none⟩ = some (.string u.i) := cell_of_row wc _ 1 _ _ _ HBX.out.bu
                    have g2 : wc.cell? ⟨w.heap.size + 1, 2, none⟩ = some (.slice u.a u.l u.c) := cell_of_row wc _ 2 _ _ _ HBX.out.bu
                    have g3 : wc.cell? ⟨w.heap.size + 1, 3, none⟩ = some (.string u.k.x) := cell_of_row wc _ 3 _ _ _ HBX.out.bu
                    have g4 : wc.cell? ⟨w.heap.size + 1, 4, none⟩ = some (.string u.k.y) := cell_of_row wc _ 4 _ _ _ HBX.out.bu
                    have g5 : wc.cell? ⟨w.heap.size + 1, 5, none⟩ = some (.string u.k.z) := cell_of_row wc _ 5 _ _ _ HBX.out.bu
                    have g6 : wc.cell? ⟨w.heap.size + 1, 6, none⟩ = some (.int .i64 u.k.n) := cell_of_row wc _ 6 _ _ _ HBX.out.bu
                    go_region_held3 (fun w' => w'.cell? ⟨w.heap.size + 1, 0, none⟩ = some (.string u.s) ∧ w'.cell? ⟨w.heap.size + 1, 1, none⟩ = some (.string u.i) ∧ w'.cell? ⟨w.heap.size + 1, 2, none⟩ = some (.slice u.a u.l u.c) ∧ w'.cell? ⟨w.heap.size + 1, 3, none⟩ = some (.string u.k.x) ∧ w'.cell? ⟨w.heap.size + 1, 4, none⟩ = some (.string u.k.y) ∧ w'.cell? ⟨w.heap.size + 1, 5, none⟩ = some (.string u.k.z) ∧ w'.cell? ⟨w.heap.size + 1, 6, none⟩ = some (.int .i64 u.k.n)) (go_keep) (first | (go_at_call 18; refine (newKey_any _ _ _ _ _).mono ?_; rintro e w' ⟨rfl, rfl⟩) | (go_at_call 21; refine (newNode_any u.s u.i u.a u.l u.c u.k _).mono ?_; rintro e w' ⟨b, rfl, hn, hb⟩; have hbw := node_below hb; have k0 := keep_cell hbw g0; have k1 := keep_cell hbw g1; have k2 := keep_cell hbw g2; have k3 := keep_cell hbw g3; have k4 := keep_cell hbw g4; have k5 := keep_cell hbw g5; have k6 := keep_cell hbw g6))
                    go_wp2_with fail
                    go_meet
                    case rel => exact ⟨⟨b, rfl, hn⟩, hbw⟩
                  case rest =>
                    obtain ⟨⟨bm, rfl, hn⟩, hb⟩ := hcut
                    have HNU := Hid.of hn
                    replace RC := Hid.of (RC.out.kept hb)
                    replace RU := Hid.of (RU.out.kept hb)
                    replace RT := Hid.of (RT.out.kept hb)
                    replace HBX := Hid.of (HBX.out.kept hb)
                    replace HSR := Hid.of (HSR.out.kept hb)
                    replace HKEY := Hid.of (heap_kept HKEY.out hb)
                    replace HCR := Hid.of (HCR.out.kept hb)
                    replace HSC := Hid.of (HSC.out.kept hb)
                    replace HNC := Hid.of (HNC.out.kept hb)
                    replace HBW := Hid.of (HBW.out.trans (hb.mono HBW.out.size))
                    clear hn hb
                    go_upto_region 17 with fail
                    go_cut [19] from 127 to 146 (fun v wx => (∃ b, v = .pointer (some ⟨b, 0, none⟩) ∧ NodeAt wx b t.s t.i t.k t.a t.l t.c) ∧ Below wc.heap.size wc wx)
                    case first =>
                      have g0 : wc.cell? ⟨w.heap.size + 1 + 1 + 1, 0, none⟩ = some (.string t.s) := cell_of_row wc _ 0 _ _ _ HBX.out.bt
                      have g1 : wc.cell? ⟨w.heap.size + 1 + 1 + 1, 1, none⟩ = some (.string t.i) := cell_of_row wc _ 1 _ _ _ HBX.out.bt
                      have g2 : wc.cell? ⟨w.heap.size + 1 + 1 + 1, 2, none⟩ = some (.slice t.a t.l t.c) := cell_of_row wc _ 2 _ _ _ HBX.out.bt
                      have g3 : wc.cell? ⟨w.heap.size + 1 + 1 + 1, 3, none⟩ = some (.string t.k.x) := cell_of_row wc _ 3 _ _ _ HBX.out.bt
                      have g4 : wc.cell? ⟨w.heap.size + 1 + 1 + 1, 4, none⟩ = some (.string t.k.y) := cell_of_row wc _ 4 _ _ _ HBX.out.bt
                      have g5 : wc.cell? ⟨w.heap.size + 1 + 1 + 1, 5, none⟩ = some (.string t.k.z) := cell_of_row wc _ 5 _ _ _ HBX.out.bt
                      have g6 : wc.cell? ⟨w.heap.size + 1 + 1 + 1, 6, none⟩ = some (.int .i64 t.k.n) := cell_of_row wc _ 6 _ _ _ HBX.out.bt
                      go_region_held3 (fun w' => w'.cell? ⟨w.heap.size + 1 + 1 + 1, 0, none⟩ = some (.string t.s) ∧ w'.cell? ⟨w.heap.size + 1 + 1 + 1, 1, none⟩ = some (.string t.i) ∧ w'.cell? ⟨w.heap.size + 1 + 1 + 1, 2, none⟩ = some (.slice t.a t.l t.c) ∧ w'.cell? ⟨w.heap.size + 1 + 1 + 1, 3, none⟩ = some (.string t.k.x) ∧ w'.cell? ⟨w.heap.size + 1 + 1 + 1, 4, none⟩ = some (.string t.k.y) ∧ w'.cell? ⟨w.heap.size + 1 + 1 + 1, 5, none⟩ = some (.string t.k.z) ∧ w'.cell? ⟨w.heap.size + 1 + 1 + 1, 6, none⟩ = some (.int .i64 t.k.n)) (go_keep) (first | (go_at_call 18; refine (newKey_any _ _ _ _ _).mono ?_; rintro e w' ⟨rfl, rfl⟩) | (go_at_call 21; refine (newNode_any t.s t.i t.a t.l t.c t.k _).mono ?_; rintro e w' ⟨b, rfl, hn, hb⟩; have hbw := node_below hb; have k0 := keep_cell hbw g0; have k1 := keep_cell hbw g1; have k2 := keep_cell hbw g2; have k3 := keep_cell hbw g3; have k4 := keep_cell hbw g4; have k5 := keep_cell hbw g5; have k6 := keep_cell hbw g6))
                      go_wp2_with fail
                      go_meet
                      case rel => exact ⟨⟨b, rfl, hn⟩, hbw⟩
                    case rest =>
                      obtain ⟨⟨bo, rfl, hn⟩, hb⟩ := hcut
                      have HNT := Hid.of hn
                      replace RC := Hid.of (RC.out.kept hb)
                      replace RU := Hid.of (RU.out.kept hb)
                      replace RT := Hid.of (RT.out.kept hb)
                      replace HBX := Hid.of (HBX.out.kept hb)
                      replace HSR := Hid.of (HSR.out.kept hb)
                      replace HKEY := Hid.of (heap_kept HKEY.out hb)
                      replace HCR := Hid.of (HCR.out.kept hb)
                      replace HSC := Hid.of (HSC.out.kept hb)
                      replace HNC := Hid.of (HNC.out.kept hb)
                      replace HNU := Hid.of (HNU.out.kept hb)
                      replace HBW := Hid.of (HBW.out.trans (hb.mono HBW.out.size))
                      clear hn hb
                      go_upto_region 18 with fail
                      go_cut [20] from 147 to 153 (fun v wx => (∃ a cap, v = .slice a (ss.filter (alS (allowB u.a zu) (allowB t.a zt) (allowB c.a zc))).length cap ∧ KRd wx a ((ss.filter (alS (allowB u.a zu) (allowB t.a zt) (allowB c.a zc))).map (keyS j t c))) ∧ Below wc.heap.size wc wx)
                      case first =>
                        have g0 : wc.cell? ⟨bk, 0, none⟩ = some (.string j.x) := cell_of_row wc _ 0 _ _ _ HKEY.out
                        have g1 : wc.cell? ⟨bk, 1, none⟩ = some (.string j.y) := cell_of_row wc _ 1 _ _ _ HKEY.out
                        have g2 : wc.cell? ⟨bk, 2, none⟩ = some (.string j.z) := cell_of_row wc _ 2 _ _ _ HKEY.out
                        have g3 : wc.cell? ⟨bk, 3, none⟩ = some (.int .i64 j.n) := cell_of_row wc _ 3 _ _ _ HKEY.out
                        have hA : Hid ((p0 && allowB u.a zu) = ((L.toList == c.i.toList) && allowB u.a zu)) := by rw [P0.out]; exact (rfl : _ = _)
                        have hB : Hid ((p1 && allowB t.a zt) = ((L.toList == t.s.toList) && allowB t.a zt)) := by rw [P1.out]; exact (rfl : _ = _)
                        have hC : Hid ((p2 && allowB c.a zc) = (dl && (L.toList == c.s.toList) && allowB c.a zc)) := by rw [Q2.out, P2.out]; exact (rfl : _ = _)
                        have HO := Hid.of (zzown_any bl bs bn bm bo L dl c.s c.i u.s u.i t.s t.i c.k u.k t.k j c.a c.l c.c zc u.a u.l u.c zu t.a t.l t.c zt (p0 && allowB u.a zu) (p1 && allowB t.a zt) (p2 && allowB c.a zc) wc hA hB hC ⟨HCR.out, HSC.out, HNC.out, HNU.out, HNT.out, RC.out, RU.out, RT.out⟩)
                        clear hA hB hC
                        go_wp2_with (go_at_call 22; refine HO.out.mono ?_; rintro e w' ⟨v, rfl, ho, hb⟩)
                        have hsh : ∃ a cap, v = .slice a (ss.filter (alS (allowB u.a zu) (allowB t.a zt) (allowB c.a zc))).length cap ∧ KRd w' a ((ss.filter (alS (allowB u.a zu) (allowB t.a zt) (allowB c.a zc))).map (keyS j t c)) := by
                          rw [got_eq] at ho
                          have hs := own_shape ho
                          rw [← SS.out] at hs
                          simpa using hs
                        go_meet
                        case rel => exact ⟨hsh, hb⟩
                      case rest =>
                        obtain ⟨⟨ga, gacap, rfl, hkr⟩, hb⟩ := hcut
                        have HGOT := Hid.of hkr
                        replace RC := Hid.of (RC.out.kept hb)
                        replace RU := Hid.of (RU.out.kept hb)
                        replace RT := Hid.of (RT.out.kept hb)
                        replace HBX := Hid.of (HBX.out.kept hb)
                        replace HSR := Hid.of (HSR.out.kept hb)
                        replace HKEY := Hid.of (heap_kept HKEY.out hb)
                        replace HCR := Hid.of (HCR.out.kept hb)
                        replace HSC := Hid.of (HSC.out.kept hb)
                        replace HNC := Hid.of (HNC.out.kept hb)
                        replace HNU := Hid.of (HNU.out.kept hb)
                        replace HNT := Hid.of (HNT.out.kept hb)
                        replace HBW := Hid.of (HBW.out.trans (hb.mono HBW.out.size))
                        clear hkr hb HNC HNU HNT
                        go_upto_region 19 with fail
                        go_cut [21] from 154 to 171 (fun v wx => (∃ b, v = .pointer (some ⟨b, 0, none⟩) ∧ NodeAt wx b c.s c.i c.k none 0 0) ∧ Below wc.heap.size wc wx)
                        case first =>
                          have g0 : wc.cell? ⟨w.heap.size, 0, none⟩ = some (.string c.s) := cell_of_row wc _ 0 _ _ _ HBX.out.bc
                          have g1 : wc.cell? ⟨w.heap.size, 1, none⟩ = some (.string c.i) := cell_of_row wc _ 1 _ _ _ HBX.out.bc
                          have g3 : wc.cell? ⟨w.heap.size, 3, none⟩ = some (.string c.k.x) := cell_of_row wc _ 3 _ _ _ HBX.out.bc
                          have g4 : wc.cell? ⟨w.heap.size, 4, none⟩ = some (.string c.k.y) := cell_of_row wc _ 4 _ _ _ HBX.out.bc
                          have g5 : wc.cell? ⟨w.heap.size, 5, none⟩ = some (.string c.k.z) := cell_of_row wc _ 5 _ _ _ HBX.out.bc
                          have g6 : wc.cell? ⟨w.heap.size, 6, none⟩ = some (.int .i64 c.k.n) := cell_of_row wc _ 6 _ _ _ HBX.out.bc
                          go_region_held3 (fun w' => w'.cell? ⟨w.heap.size, 0, none⟩ = some (.string c.s) ∧ w'.cell? ⟨w.heap.size, 1, none⟩ = some (.string c.i) ∧ w'.cell? ⟨w.heap.size, 3, none⟩ = some (.string c.k.x) ∧ w'.cell? ⟨w.heap.size, 4, none⟩ = some (.string c.k.y) ∧ w'.cell? ⟨w.heap.size, 5, none⟩ = some (.string c.k.z) ∧ w'.cell? ⟨w.heap.size, 6, none⟩ = some (.int .i64 c.k.n)) (go_keep) (first | (go_at_call 18; refine (newKey_any _ _ _ _ _).mono ?_; rintro e w' ⟨rfl, rfl⟩) | (go_at_call 21; refine (newNode_any c.s c.i none 0 0 c.k _).mono ?_; rintro e w' ⟨b, rfl, hn, hb⟩; have hbw := node_below hb; have k0 := keep_cell hbw g0; have k1 := keep_cell hbw g1; have k3 := keep_cell hbw g3; have k4 := keep_cell hbw g4; have k5 := keep_cell hbw g5; have k6 := keep_cell hbw g6))
                          go_wp2_with fail
                          go_meet
                          case rel => exact ⟨⟨b, rfl, hn⟩, hbw⟩
                        case rest =>
                          obtain ⟨⟨bn0, rfl, hn⟩, hb⟩ := hcut
                          have HMC := Hid.of hn
                          replace RC := Hid.of (RC.out.kept hb)
                          replace RU := Hid.of (RU.out.kept hb)
                          replace RT := Hid.of (RT.out.kept hb)
                          replace HBX := Hid.of (HBX.out.kept hb)
                          replace HSR := Hid.of (HSR.out.kept hb)
                          replace HKEY := Hid.of (heap_kept HKEY.out hb)
                          replace HCR := Hid.of (HCR.out.kept hb)
                          replace HSC := Hid.of (HSC.out.kept hb)
                          replace HGOT := Hid.of (HGOT.out.kept hb)
                          replace HBW := Hid.of (HBW.out.trans (hb.mono HBW.out.size))
                          clear hn hb
                          go_upto_region 20 with fail
                          go_cut [22] from 172 to 189 (fun v wx => (∃ b, v = .pointer (some ⟨b, 0, none⟩) ∧ NodeAt wx b u.s u.i u.k none 0 0) ∧ Below wc.heap.size wc wx)
                          case first =>
                            have g0 : wc.cell? ⟨w.heap.size + 1, 0, none⟩ = some (.string u.s) := cell_of_row wc _ 0 _ _ _ HBX.out.bu
                            have g1 : wc.cell? ⟨w.heap.size + 1, 1, none⟩ = some (.string u.i) := cell_of_row wc _ 1 _ _ _ HBX.out.bu
                            have g3 : wc.cell? ⟨w.heap.size + 1, 3, none⟩ = some (.string u.k.x) := cell_of_row wc _ 3 _ _ _ HBX.out.bu
                            have g4 : wc.cell? ⟨w.heap.size + 1, 4, none⟩ = some (.string u.k.y) := cell_of_row wc _ 4 _ _ _ HBX.out.bu
                            have g5 : wc.cell? ⟨w.heap.size + 1, 5, none⟩ = some (.string u.k.z) := cell_of_row wc _ 5 _ _ _ HBX.out.bu
                            have g6 : wc.cell? ⟨w.heap.size + 1, 6, none⟩ = some (.int .i64 u.k.n) := cell_of_row wc _ 6 _ _ _ HBX.out.bu
                            go_region_held3 (fun w' => w'.cell? ⟨w.heap.size + 1, 0, none⟩ = some (.string u.s) ∧ w'.cell? ⟨w.heap.size + 1, 1, none⟩ = some (.string u.i) ∧ w'.cell? ⟨w.heap.size + 1, 3, none⟩ = some (.string u.k.x) ∧ w'.cell? ⟨w.heap.size + 1, 4, none⟩ = some (.string u.k.y) ∧ w'.cell? ⟨w.heap.size + 1, 5, none⟩ = some (.string u.k.z) ∧ w'.cell? ⟨w.heap.size + 1, 6, none⟩ = some (.int .i64 u.k.n)) (go_keep) (first | (go_at_call 18; refine (newKey_any _ _ _ _ _).mono ?_; rintro e w' ⟨rfl, rfl⟩) | (go_at_call 21; refine (newNode_any u.s u.i none 0 0 u.k _).mono ?_; rintro e w' ⟨b, rfl, hn, hb⟩; have hbw := node_below hb; have k0 := keep_cell hbw g0; have k1 := keep_cell hbw g1; have k3 := keep_cell hbw g3; have k4 := keep_cell hbw g4; have k5 := keep_cell hbw g5; have k6 := keep_cell hbw g6))
                            go_wp2_with fail
                            go_meet
                            case rel => exact ⟨⟨b, rfl, hn⟩, hbw⟩
                          case rest =>
                            obtain ⟨⟨bm0, rfl, hn⟩, hb⟩ := hcut
                            have HMU := Hid.of hn
                            replace RC := Hid.of (RC.out.kept hb)
                            replace RU := Hid.of (RU.out.kept hb)
                            replace RT := Hid.of (RT.out.kept hb)
                            replace HBX := Hid.of (HBX.out.kept hb)
                            replace HSR := Hid.of (HSR.out.kept hb)
                            replace HKEY := Hid.of (heap_kept HKEY.out hb)
                            replace HCR := Hid.of (HCR.out.kept hb)
                            replace HSC := Hid.of (HSC.out.kept hb)
                            replace HGOT := Hid.of (HGOT.out.kept hb)
                            replace HMC := Hid.of (HMC.out.kept hb)
                            replace HBW := Hid.of (HBW.out.trans (hb.mono HBW.out.size))
                            clear hn hb
                            go_upto_region 21 with fail
                            go_cut [23] from 190 to 207 (fun v wx => (∃ b, v = .pointer (some ⟨b, 0, none⟩) ∧ NodeAt wx b t.s t.i t.k none 0 0) ∧ Below wc.heap.size wc wx)
                            case first =>
                              have g0 : wc.cell? ⟨w.heap.size + 1 + 1 + 1, 0, none⟩ = some (.string t.s) := cell_of_row wc _ 0 _ _ _ HBX.out.bt
                              have g1 : wc.cell? ⟨w.heap.size + 1 + 1 + 1, 1, none⟩ = some (.string t.i) := cell_of_row wc _ 1 _ _ _ HBX.out.bt
                              have g3 : wc.cell? ⟨w.heap.size + 1 + 1 + 1, 3, none⟩ = some (.string t.k.x) := cell_of_row wc _ 3 _ _ _ HBX.out.bt
                              have g4 : wc.cell? ⟨w.heap.size + 1 + 1 + 1, 4, none⟩ = some (.string t.k.y) := cell_of_row wc _ 4 _ _ _ HBX.out.bt
                              have g5 : wc.cell? ⟨w.heap.size + 1 + 1 + 1, 5, none⟩ = some (.string t.k.z) := cell_of_row wc _ 5 _ _ _ HBX.out.bt
                              have g6 : wc.cell? ⟨w.heap.size + 1 + 1 + 1, 6, none⟩ = some (.int .i64 t.k.n) := cell_of_row wc _ 6 _ _ _ HBX.out.bt
                              go_region_held3 (fun w' => w'.cell? ⟨w.heap.size + 1 + 1 + 1, 0, none⟩ = some (.string t.s) ∧ w'.cell? ⟨w.heap.size + 1 + 1 + 1, 1, none⟩ = some (.string t.i) ∧ w'.cell? ⟨w.heap.size + 1 + 1 + 1, 3, none⟩ = some (.string t.k.x) ∧ w'.cell? ⟨w.heap.size + 1 + 1 + 1, 4, none⟩ = some (.string t.k.y) ∧ w'.cell? ⟨w.heap.size + 1 + 1 + 1, 5, none⟩ = some (.string t.k.z) ∧ w'.cell? ⟨w.heap.size + 1 + 1 + 1, 6, none⟩ = some (.int .i64 t.k.n)) (go_keep) (first | (go_at_call 18; refine (newKey_any _ _ _ _ _).mono ?_; rintro e w' ⟨rfl, rfl⟩) | (go_at_call 21; refine (newNode_any t.s t.i none 0 0 t.k _).mono ?_; rintro e w' ⟨b, rfl, hn, hb⟩; have hbw := node_below hb; have k0 := keep_cell hbw g0; have k1 := keep_cell hbw g1; have k3 := keep_cell hbw g3; have k4 := keep_cell hbw g4; have k5 := keep_cell hbw g5; have k6 := keep_cell hbw g6))
                              go_wp2_with fail
                              go_meet
                              case rel => exact ⟨⟨b, rfl, hn⟩, hbw⟩
                            case rest =>
                              obtain ⟨⟨bo0, rfl, hn⟩, hb⟩ := hcut
                              have HMT := Hid.of hn
                              replace RC := Hid.of (RC.out.kept hb)
                              replace RU := Hid.of (RU.out.kept hb)
                              replace RT := Hid.of (RT.out.kept hb)
                              replace HBX := Hid.of (HBX.out.kept hb)
                              replace HSR := Hid.of (HSR.out.kept hb)
                              replace HKEY := Hid.of (heap_kept HKEY.out hb)
                              replace HCR := Hid.of (HCR.out.kept hb)
                              replace HSC := Hid.of (HSC.out.kept hb)
                              replace HGOT := Hid.of (HGOT.out.kept hb)
                              replace HMC := Hid.of (HMC.out.kept hb)
                              replace HMU := Hid.of (HMU.out.kept hb)
                              replace HBW := Hid.of (HBW.out.trans (hb.mono HBW.out.size))
                              clear hn hb
                              go_upto_region 22 with fail
                              go_cut [24] from 208 to 214 (fun v wx => (∃ a cap, v = .slice a ss.length cap ∧ KRd wx a (ss.map (keyS j t c))) ∧ Below wc.heap.size wc wx)
                              case first =>
                                have g0 : wc.cell? ⟨bk, 0, none⟩ = some (.string j.x) := cell_of_row wc _ 0 _ _ _ HKEY.out
                                have g1 : wc.cell? ⟨bk, 1, none⟩ = some (.string j.y) := cell_of_row wc _ 1 _ _ _ HKEY.out
                                have g2 : wc.cell? ⟨bk, 2, none⟩ = some (.string j.z) := cell_of_row wc _ 2 _ _ _ HKEY.out
                                have g3 : wc.cell? ⟨bk, 3, none⟩ = some (.int .i64 j.n) := cell_of_row wc _ 3 _ _ _ HKEY.out
                                have hA : Hid (p0 = ((L.toList == c.i.toList) && allowB none [])) := by rw [P0.out, allowB_none, Bool.and_true]; exact (rfl : _ = _)
                                have hB : Hid (p1 = ((L.toList == t.s.toList) && allowB none [])) := by rw [P1.out, allowB_none, Bool.and_true]; exact (rfl : _ = _)
                                have hC : Hid (p2 = (dl && (L.toList == c.s.toList) && allowB none [])) := by rw [Q2.out, P2.out, allowB_none, Bool.and_true]; exact (rfl : _ = _)
                                have HO := Hid.of (zzown_any bl bs bn0 bm0 bo0 L dl c.s c.i u.s u.i t.s t.i c.k u.k t.k j none 0 0 [] none 0 0 [] none 0 0 [] p0 p1 p2 wc hA hB hC ⟨HCR.out, HSC.out, HMC.out, HMU.out, HMT.out, nilRd _, nilRd _, nilRd _⟩)
                                clear hA hB hC
                                go_wp2_with (go_at_call 22; refine HO.out.mono ?_; rintro e w' ⟨v, rfl, ho, hb⟩)
                                have hsh : ∃ a cap, v = .slice a ss.length cap ∧ KRd w' a (ss.map (keyS j t c)) := by
                                  rw [all_eq] at ho
                                  have hs := own_shape ho
                                  rw [← SS.out] at hs
                                  simpa using hs
                                go_meet
                                case rel => exact ⟨hsh, hb⟩
                              case rest =>
                                obtain ⟨⟨aa, aacap, rfl, hkr⟩, hb⟩ := hcut
                                have HALL := Hid.of hkr
                                replace RC := Hid.of (RC.out.kept hb)
                                replace RU := Hid.of (RU.out.kept hb)
                                replace RT := Hid.of (RT.out.kept hb)
                                replace HBX := Hid.of (HBX.out.kept hb)
                                replace HSR := Hid.of (HSR.out.kept hb)
                                replace HKEY := Hid.of (heap_kept HKEY.out hb)
                                replace HCR := Hid.of (HCR.out.kept hb)
                                replace HSC := Hid.of (HSC.out.kept hb)
                                replace HGOT := Hid.of (HGOT.out.kept hb)
                                replace HMC := Hid.of (HMC.out.kept hb)
                                replace HMU := Hid.of (HMU.out.kept hb)
                                replace HMT := Hid.of (HMT.out.kept hb)
                                replace HBW := Hid.of (HBW.out.trans (hb.mono HBW.out.size))
                                clear hkr hb HMC HMU HMT HCR HSC HKEY
                                obtain ⟨f, hf⟩ : ∃ f, f = alS (allowB u.a zu) (allowB t.a zt) (allowB c.a zc) := ⟨_, rfl⟩
                                rw [← hf] at HGOT
                                rw [← hf]
                                have HF := Hid.of hf
                                clear hf
                                obtain ⟨gn, hgn⟩ : ∃ gn, gn = (ss.filter f).length := ⟨_, rfl⟩
                                rw [← hgn]
                                have HGN := Hid.of hgn
                                have hgs : gn ≤ 3 := by rw [hgn]; exact Nat.le_trans (List.length_filter_le _ _) hsn
                                clear hgn P0 P1 Q2 P2
                                go_wp2_with fail
                                obtain ⟨wk, hwk⟩ : ∃ wk, wk = wc := ⟨_, rfl⟩
                                subst hwk
                                go_loopg [25, 26] ss.length (fun g s25 s26 wx => ∃ i m : Nat, i ≤ ss.length ∧ g = ss.length - i ∧ s26 = .int .i64 i ∧ s25 = .int .i64 m ∧ Hid (m = ((ss.take i).filter f).length) ∧ m ≤ i ∧ Below wk.heap.size wk wx)
                                case atStart => exact ⟨0, 0, Nat.zero_le _, rfl, rfl, rfl, (rfl : _ = _), Nat.le_refl _, Below.refl _ _⟩
                                case round =>
                                  obtain ⟨i, m, hi, rfl, rfl, rfl, HM, hmi, hbr⟩ := hrel
                                  by_cases hlt : i < ss.length
                                  · have hdummy := hlt
                                    obtain ⟨s, hs⟩ : ∃ s, ss[i]? = some s := ⟨_, List.getElem?_eq_getElem hlt⟩
                                    have hs2 : s ≤ 2 := by have hm := List.mem_of_getElem? hs; rw [SS.out] at hm; exact srcs_le _ _ _ s hm
                                    have HS := Hid.of hs
                                    clear hs hdummy
                                    have HBR := Hid.of hbr
                                    have RCr := Hid.of (RC.out.kept hbr)
                                    have RUr := Hid.of (RU.out.kept hbr)
                                    have RTr := Hid.of (RT.out.kept hbr)
                                    have HBXr := Hid.of (HBX.out.kept hbr)
                                    have HSRr := Hid.of (HSR.out.kept hbr)
                                    have HGr := Hid.of (HGOT.out.kept hbr)
                                    have HAr := Hid.of (HALL.out.kept hbr)
                                    clear hbr
                                    obtain ⟨gs, rfl, _, qs⟩ := HSRr.out (by omega)
                                    have QS := Hid.of (qs i s HS.out)
                                    clear qs
                                    obtain ⟨k, hk⟩ : ∃ k, k = keyS j t c s := ⟨_, rfl⟩
                                    have HKS := Hid.of hk
                                    clear hk
                                    go_upto_region 29 with fail
                                    go_cut [27] from 226 to 233 (fun v wx => (∃ b, v = .pointer (some ⟨b, 0, none⟩) ∧ wx.heap[b]? = some (.cells #[.string k.x, .string k.y, .string k.z, .int .i64 k.n] 30)) ∧ Below wr.heap.size wr wx)
                                    case first =>
                                      have gsrc := QS.out
                                      have gj0 : wr.cell? ⟨w.heap.size + 1 + 1, 0, none⟩ = some (.string j.x) := cell_of_row wr _ 0 _ _ _ HBXr.out.bj
                                      have gj1 : wr.cell? ⟨w.heap.size + 1 + 1, 1, none⟩ = some (.string j.y) := cell_of_row wr _ 1 _ _ _ HBXr.out.bj
                                      have gj2 : wr.cell? ⟨w.heap.size + 1 + 1, 2, none⟩ = some (.string j.z) := cell_of_row wr _ 2 _ _ _ HBXr.out.bj
                                      have gj3 : wr.cell? ⟨w.heap.size + 1 + 1, 3, none⟩ = some (.int .i64 j.n) := cell_of_row wr _ 3 _ _ _ HBXr.out.bj
                                      have gt0 : wr.cell? ⟨w.heap.size + 1 + 1 + 1, 0, none⟩ = some (.string t.s) := cell_of_row wr _ 0 _ _ _ HBXr.out.bt
                                      have gt1 : wr.cell? ⟨w.heap.size + 1 + 1 + 1, 1, none⟩ = some (.string t.i) := cell_of_row wr _ 1 _ _ _ HBXr.out.bt
                                      have gt2 : wr.cell? ⟨w.heap.size + 1 + 1 + 1, 2, none⟩ = some (.slice t.a t.l t.c) := cell_of_row wr _ 2 _ _ _ HBXr.out.bt
                                      have gt3 : wr.cell? ⟨w.heap.size + 1 + 1 + 1, 3, none⟩ = some (.string t.k.x) := cell_of_row wr _ 3 _ _ _ HBXr.out.bt
                                      have gt4 : wr.cell? ⟨w.heap.size + 1 + 1 + 1, 4, none⟩ = some (.string t.k.y) := cell_of_row wr _ 4 _ _ _ HBXr.out.bt
                                      have gt5 : wr.cell? ⟨w.heap.size + 1 + 1 + 1, 5, none⟩ = some (.string t.k.z) := cell_of_row wr _ 5 _ _ _ HBXr.out.bt
                                      have gt6 : wr.cell? ⟨w.heap.size + 1 + 1 + 1, 6, none⟩ = some (.int .i64 t.k.n) := cell_of_row wr _ 6 _ _ _ HBXr.out.bt
                                      have gc0 : wr.cell? ⟨w.heap.size, 0, none⟩ = some (.string c.s) := cell_of_row wr _ 0 _ _ _ HBXr.out.bc
                                      have gc1 : wr.cell? ⟨w.heap.size, 1, none⟩ = some (.string c.i) := cell_of_row wr _ 1 _ _ _ HBXr.out.bc
                                      have gc2 : wr.cell? ⟨w.heap.size, 2, none⟩ = some (.slice c.a c.l c.c) := cell_of_row wr _ 2 _ _ _ HBXr.out.bc
                                      have gc3 : wr.cell? ⟨w.heap.size, 3, none⟩ = some (.string c.k.x) := cell_of_row wr _ 3 _ _ _ HBXr.out.bc
                                      have gc4 : wr.cell? ⟨w.heap.size, 4, none⟩ = some (.string c.k.y) := cell_of_row wr _ 4 _ _ _ HBXr.out.bc
                                      have gc5 : wr.cell? ⟨w.heap.size, 5, none⟩ = some (.string c.k.z) := cell_of_row wr _ 5 _ _ _ HBXr.out.bc
                                      have gc6 : wr.cell? ⟨w.heap.size, 6, none⟩ = some (.int .i64 c.k.n) := cell_of_row wr _ 6 _ _ _ HBXr.out.bc
                                      have hsk : Hid (∀ W : World, Calls Try.prog 23 #[.int .i64 s, .agg #[.string j.x, .string j.y, .string j.z, .int .i64 j.n], .agg #[.string t.s, .string t.i, .slice t.a t.l t.c, .string t.k.x, .string t.k.y, .string t.k.z, .int .i64 t.k.n], .agg #[.string c.s, .string c.i, .slice c.a c.l c.c, .string c.k.x, .string c.k.y, .string c.k.z, .int .i64 c.k.n]] W fun e w' => e = .returned (.agg #[.string k.x, .string k.y, .string k.z, .int .i64 k.n]) ∧ Below W.heap.size W w') := by rw [HKS.out]; exact fun W => srcKey_any s hs2 j t c W
                                      have nn0 := World.new_ne wr _ gsrc
                                      have nn1 := World.new_ne wr _ gj0
                                      have nn2 := World.new_ne wr _ gt0
                                      have nn3 := World.new_ne wr _ gc0
                                      go_region_held3 (fun w' => w'.cell? ⟨gs, i, none⟩ = some (.int .i64 (s : Int)) ∧ w'.cell? ⟨w.heap.size + 1 + 1, 0, none⟩ = some (.string j.x) ∧ w'.cell? ⟨w.heap.size + 1 + 1, 1, none⟩ = some (.string j.y) ∧ w'.cell? ⟨w.heap.size + 1 + 1, 2, none⟩ = some (.string j.z) ∧ w'.cell? ⟨w.heap.size + 1 + 1, 3, none⟩ = some (.int .i64 j.n) ∧ w'.cell? ⟨w.heap.size + 1 + 1 + 1, 0, none⟩ = some (.string t.s) ∧ w'.cell? ⟨w.heap.size + 1 + 1 + 1, 1, none⟩ = some (.string t.i) ∧ w'.cell? ⟨w.heap.size + 1 + 1 + 1, 2, none⟩ = some (.slice t.a t.l t.c) ∧ w'.cell? ⟨w.heap.size + 1 + 1 + 1, 3, none⟩ = some (.string t.k.x) ∧ w'.cell? ⟨w.heap.size + 1 + 1 + 1, 4, none⟩ = some (.string t.k.y) ∧ w'.cell? ⟨w.heap.size + 1 + 1 + 1, 5, none⟩ = some (.string t.k.z) ∧ w'.cell? ⟨w.heap.size + 1 + 1 + 1, 6, none⟩ = some (.int .i64 t.k.n) ∧ w'.cell? ⟨w.heap.size, 0, none⟩ = some (.string c.s) ∧ w'.cell? ⟨w.heap.size, 1, none⟩ = some (.string c.i) ∧ w'.cell? ⟨w.heap.size, 2, none⟩ = some (.slice c.a c.l c.c) ∧ w'.cell? ⟨w.heap.size, 3, none⟩ = some (.string c.k.x) ∧ w'.cell? ⟨w.heap.size, 4, none⟩ = some (.string c.k.y) ∧ w'.cell? ⟨w.heap.size, 5, none⟩ = some (.string c.k.z) ∧ w'.cell? ⟨w.heap.size, 6, none⟩ = some (.int .i64 c.k.n)) (go_keep) (first | (go_at_call 23; refine (hsk.out ((wr.alloc (Obj.cells #[.string ⟨#[]⟩, .string ⟨#[]⟩, .string ⟨#[]⟩, .int .i64 0] 30)).drew)).mono ?_; rintro e w' ⟨rfl, hb⟩; have hbw := node_below hb; have kgsrc := keep_cell hbw gsrc; have kgj0 := keep_cell hbw gj0; have kgj1 := keep_cell hbw gj1; have kgj2 := keep_cell hbw gj2; have kgj3 := keep_cell hbw gj3; have kgt0 := keep_cell hbw gt0; have kgt1 := keep_cell hbw gt1; have kgt2 := keep_cell hbw gt2; have kgt3 := keep_cell hbw gt3; have kgt4 := keep_cell hbw gt4; have kgt5 := keep_cell hbw gt5; have kgt6 := keep_cell hbw gt6; have kgc0 := keep_cell hbw gc0; have kgc1 := keep_cell hbw gc1; have kgc2 := keep_cell hbw gc2; have kgc3 := keep_cell hbw gc3; have kgc4 := keep_cell hbw gc4; have kgc5 := keep_cell hbw gc5; have kgc6 := keep_cell hbw gc6; have hz := zero_block hb; have zc0 := zero_cell hz 0 _ rfl; have zc1 := zero_cell hz 1 _ rfl; have zc2 := zero_cell hz 2 _ rfl; have zc3 := zero_cell hz 3 _ rfl; have zf0 := zero_free hz 0; have zf1 := zero_free hz 1; have zf2 := zero_free hz 2; have zf3 := zero_free hz 3; have HZ := Hid.of hz; clear hz) | (go_at_call 23; refine (hsk.out wr.drew).mono ?_; rintro e w' ⟨rfl, hb⟩; have hbw := Below.trans ((Below.refl wr.heap.size wr).drew) hb; have kgsrc := keep_cell hbw gsrc; have kgj0 := keep_cell hbw gj0; have kgj1 := keep_cell hbw gj1; have kgj2 := keep_cell hbw gj2; have kgj3 := keep_cell hbw gj3; have kgt0 := keep_cell hbw gt0; have kgt1 := keep_cell hbw gt1; have kgt2 := keep_cell hbw gt2; have kgt3 := keep_cell hbw gt3; have kgt4 := keep_cell hbw gt4; have kgt5 := keep_cell hbw gt5; have kgt6 := keep_cell hbw gt6; have kgc0 := keep_cell hbw gc0; have kgc1 := keep_cell hbw gc1; have kgc2 := keep_cell hbw gc2; have kgc3 := keep_cell hbw gc3; have kgc4 := keep_cell hbw gc4; have kgc5 := keep_cell hbw gc5; have kgc6 := keep_cell hbw gc6))
                                      all_goals go_wp2_with fail
                                      all_goals go_meet
                                      all_goals first
                                        | exact ⟨⟨_, rfl, set4 HZ.out⟩, set4_below hbw (Nat.le_refl _) _ _ _ _⟩
                                        | exact ⟨⟨_, rfl, newAt (by simp)⟩, hbw.alloc hbw.size _⟩
                                    case rest =>
                                      obtain ⟨⟨kb, rfl, hkb⟩, hb⟩ := hcut
                                      have HKB := Hid.of hkb
                                      have HBD := Hid.of (HBR.out.trans (hb.mono HBR.out.size))
                                      have HAd := Hid.of (HAr.out.kept hb)
                                      clear hkb hb
                                      obtain ⟨ga1, rfl, _, qa⟩ := HAd.out (by simp; omega)
                                      obtain ⟨e0, e1, e2, e3⟩ := qa i k (by rw [List.getElem?_map, HS.out, HKS.out]; rfl)
                                      clear qa
                                      go_wp2_with fail
                                      refine (fields_any k _).mono ?_
                                      rintro e w4 ⟨rfl, hb4⟩
                                      clear e0 e1 e2 e3
                                      have HKB4 := Hid.of (heap_kept HKB.out hb4)
                                      have HBD4 := Hid.of (HBD.out.trans (hb4.mono HBD.out.size))
                                      clear hb4 HKB HBD HAd
                                      have e0 : w4.cell? ⟨kb, 0, none⟩ = some (.string k.x) := cell_of_row w4 _ 0 _ _ _ HKB4.out
                                      have e1 : w4.cell? ⟨kb, 1, none⟩ = some (.string k.y) := cell_of_row w4 _ 1 _ _ _ HKB4.out
                                      have e2 : w4.cell? ⟨kb, 2, none⟩ = some (.string k.z) := cell_of_row w4 _ 2 _ _ _ HKB4.out
                                      have e3 : w4.cell? ⟨kb, 3, none⟩ = some (.int .i64 k.n) := cell_of_row w4 _ 3 _ _ _ HKB4.out
                                      go_wp2_with fail
                                      refine (matches_any k _).mono ?_
                                      rintro e w5 ⟨rfl, hb5⟩
                                      clear e0 e1 e2 e3
                                      have HKB5 := Hid.of (heap_kept HKB4.out hb5)
                                      have HBD5 := Hid.of (HBD4.out.trans (hb5.mono HBD4.out.size))
                                      clear hb5 HKB4 HBD4
                                      have RC5 := Hid.of (RC.out.kept HBD5.out)
                                      have RU5 := Hid.of (RU.out.kept HBD5.out)
                                      have RT5 := Hid.of (RT.out.kept HBD5.out)
                                      have HBX5 := Hid.of (HBX.out.kept HBD5.out)
                                      have HG5 := Hid.of (HGOT.out.kept HBD5.out)
                                      have hfs : f s = allowB (nodeS u t c s).a (zS zu zt zc s) := by rw [HF.out]; exact alS_eq u t c zu zt zc s
                                      have HFS := Hid.of hfs
                                      clear hfs
                                      have QS5 : Hid (w5.cell? ⟨gs, i, none⟩ = some (.int .i64 (s : Int))) := by
                                        obtain ⟨g', e', _, q'⟩ := (HSR.out.kept HBD5.out) (by omega)
                                        cases e'
                                        exact q' i s HS.out
                                      go_upto_region 33 with fail
                                      go_cut [259] from 234 to 259 (fun v wx => v = .bool (f s) ∧ Below w5.heap.size w5 wx)
                                      case first =>
                                        have gsrc := QS5.out
                                        have gu0 : w5.cell? ⟨w.heap.size + 1, 0, none⟩ = some (.string u.s) := cell_of_row w5 _ 0 _ _ _ HBX5.out.bu
                                        have gu1 : w5.cell? ⟨w.heap.size + 1, 1, none⟩ = some (.string u.i) := cell_of_row w5 _ 1 _ _ _ HBX5.out.bu
                                        have gu2 : w5.cell? ⟨w.heap.size + 1, 2, none⟩ = some (.slice u.a u.l u.c) := cell_of_row w5 _ 2 _ _ _ HBX5.out.bu
                                        have gu3 : w5.cell? ⟨w.heap.size + 1, 3, none⟩ = some (.string u.k.x) := cell_of_row w5 _ 3 _ _ _ HBX5.out.bu
                                        have gu4 : w5.cell? ⟨w.heap.size + 1, 4, none⟩ = some (.string u.k.y) := cell_of_row w5 _ 4 _ _ _ HBX5.out.bu
                                        have gu5 : w5.cell? ⟨w.heap.size + 1, 5, none⟩ = some (.string u.k.z) := cell_of_row w5 _ 5 _ _ _ HBX5.out.bu
                                        have gu6 : w5.cell? ⟨w.heap.size + 1, 6, none⟩ = some (.int .i64 u.k.n) := cell_of_row w5 _ 6 _ _ _ HBX5.out.bu
                                        have gt0 : w5.cell? ⟨w.heap.size + 1 + 1 + 1, 0, none⟩ = some (.string t.s) := cell_of_row w5 _ 0 _ _ _ HBX5.out.bt
                                        have gt1 : w5.cell? ⟨w.heap.size + 1 + 1 + 1, 1, none⟩ = some (.string t.i) := cell_of_row w5 _ 1 _ _ _ HBX5.out.bt
                                        have gt2 : w5.cell? ⟨w.heap.size + 1 + 1 + 1, 2, none⟩ = some (.slice t.a t.l t.c) := cell_of_row w5 _ 2 _ _ _ HBX5.out.bt
                                        have gt3 : w5.cell? ⟨w.heap.size + 1 + 1 + 1, 3, none⟩ = some (.string t.k.x) := cell_of_row w5 _ 3 _ _ _ HBX5.out.bt
                                        have gt4 : w5.cell? ⟨w.heap.size + 1 + 1 + 1, 4, none⟩ = some (.string t.k.y) := cell_of_row w5 _ 4 _ _ _ HBX5.out.bt
                                        have gt5 : w5.cell? ⟨w.heap.size + 1 + 1 + 1, 5, none⟩ = some (.string t.k.z) := cell_of_row w5 _ 5 _ _ _ HBX5.out.bt
                                        have gt6 : w5.cell? ⟨w.heap.size + 1 + 1 + 1, 6, none⟩ = some (.int .i64 t.k.n) := cell_of_row w5 _ 6 _ _ _ HBX5.out.bt
                                        have gc0 : w5.cell? ⟨w.heap.size, 0, none⟩ = some (.string c.s) := cell_of_row w5 _ 0 _ _ _ HBX5.out.bc
                                        have gc1 : w5.cell? ⟨w.heap.size, 1, none⟩ = some (.string c.i) := cell_of_row w5 _ 1 _ _ _ HBX5.out.bc
                                        have gc2 : w5.cell? ⟨w.heap.size, 2, none⟩ = some (.slice c.a c.l c.c) := cell_of_row w5 _ 2 _ _ _ HBX5.out.bc
                                        have gc3 : w5.cell? ⟨w.heap.size, 3, none⟩ = some (.string c.k.x) := cell_of_row w5 _ 3 _ _ _ HBX5.out.bc
                                        have gc4 : w5.cell? ⟨w.heap.size, 4, none⟩ = some (.string c.k.y) := cell_of_row w5 _ 4 _ _ _ HBX5.out.bc
                                        have gc5 : w5.cell? ⟨w.heap.size, 5, none⟩ = some (.string c.k.z) := cell_of_row w5 _ 5 _ _ _ HBX5.out.bc
                                        have gc6 : w5.cell? ⟨w.heap.size, 6, none⟩ = some (.int .i64 c.k.n) := cell_of_row w5 _ 6 _ _ _ HBX5.out.bc
                                        have hru := Hid.of (rdS RU5.out RT5.out RC5.out s)
                                        go_region_held3 (fun w' => w'.cell? ⟨gs, i, none⟩ = some (.int .i64 (s : Int)) ∧ w'.cell? ⟨w.heap.size + 1, 0, none⟩ = some (.string u.s) ∧ w'.cell? ⟨w.heap.size + 1, 1, none⟩ = some (.string u.i) ∧ w'.cell? ⟨w.heap.size + 1, 2, none⟩ = some (.slice u.a u.l u.c) ∧ w'.cell? ⟨w.heap.size + 1, 3, none⟩ = some (.string u.k.x) ∧ w'.cell? ⟨w.heap.size + 1, 4, none⟩ = some (.string u.k.y) ∧ w'.cell? ⟨w.heap.size + 1, 5, none⟩ = some (.string u.k.z) ∧ w'.cell? ⟨w.heap.size + 1, 6, none⟩ = some (.int .i64 u.k.n) ∧ w'.cell? ⟨w.heap.size + 1 + 1 + 1, 0, none⟩ = some (.string t.s) ∧ w'.cell? ⟨w.heap.size + 1 + 1 + 1, 1, none⟩ = some (.string t.i) ∧ w'.cell? ⟨w.heap.size + 1 + 1 + 1, 2, none⟩ = some (.slice t.a t.l t.c) ∧ w'.cell? ⟨w.heap.size + 1 + 1 + 1, 3, none⟩ = some (.string t.k.x) ∧ w'.cell? ⟨w.heap.size + 1 + 1 + 1, 4, none⟩ = some (.string t.k.y) ∧ w'.cell? ⟨w.heap.size + 1 + 1 + 1, 5, none⟩ = some (.string t.k.z) ∧ w'.cell? ⟨w.heap.size + 1 + 1 + 1, 6, none⟩ = some (.int .i64 t.k.n) ∧ w'.cell? ⟨w.heap.size, 0, none⟩ = some (.string c.s) ∧ w'.cell? ⟨w.heap.size, 1, none⟩ = some (.string c.i) ∧ w'.cell? ⟨w.heap.size, 2, none⟩ = some (.slice c.a c.l c.c) ∧ w'.cell? ⟨w.heap.size, 3, none⟩ = some (.string c.k.x) ∧ w'.cell? ⟨w.heap.size, 4, none⟩ = some (.string c.k.y) ∧ w'.cell? ⟨w.heap.size, 5, none⟩ = some (.string c.k.z) ∧ w'.cell? ⟨w.heap.size, 6, none⟩ = some (.int .i64 c.k.n)) (go_keep) (first | (go_at_call 27; refine (srcUse_any s hs2 u t c _).mono ?_; rintro e w' ⟨rfl, hb⟩; have hbw := Below.trans ((Below.refl w5.heap.size w5).drew) hb; have kgsrc := keep_cell hbw gsrc; have kgu0 := keep_cell hbw gu0; have kgu1 := keep_cell hbw gu1; have kgu2 := keep_cell hbw gu2; have kgu3 := keep_cell hbw gu3; have kgu4 := keep_cell hbw gu4; have kgu5 := keep_cell hbw gu5; have kgu6 := keep_cell hbw gu6; have kgt0 := keep_cell hbw gt0; have kgt1 := keep_cell hbw gt1; have kgt2 := keep_cell hbw gt2; have kgt3 := keep_cell hbw gt3; have kgt4 := keep_cell hbw gt4; have kgt5 := keep_cell hbw gt5; have kgt6 := keep_cell hbw gt6; have kgc0 := keep_cell hbw gc0; have kgc1 := keep_cell hbw gc1; have kgc2 := keep_cell hbw gc2; have kgc3 := keep_cell hbw gc3; have kgc4 := keep_cell hbw gc4; have kgc5 := keep_cell hbw gc5; have kgc6 := keep_cell hbw gc6) | (go_at_call 26; refine (allowsLaw_any _ _ _ _ _ (hru.out.kept hbw)).mono ?_; rintro e w'' ⟨rfl, rfl⟩))
                                        go_wp2_with fail
                                        go_meet
                                        case rel => exact ⟨by rw [HFS.out], hbw⟩
                                      case rest =>
                                        obtain ⟨rfl, hb6⟩ := hcut
                                        have HB6 := Hid.of hb6
                                        have HKB6 := Hid.of (heap_kept HKB5.out hb6)
                                        have HG6 := Hid.of (HG5.out.kept hb6)
                                        have HBD6 := Hid.of (HBD5.out.trans (hb6.mono HBD5.out.size))
                                        clear hb6
                                        cases hfs : f s with
                                        | false =>
                                          have HM2 : Hid (m = ((ss.take (i + 1)).filter f).length) := by rw [take_filter_no HS.out hfs]; exact HM
                                          clear hfs
                                          go_wp2_with fail
                                          go_roundg (ss.length - (i + 1))
                                          case measure => omega
                                          case rel => exact ⟨i + 1, m, by omega, rfl, by go_num, rfl, HM2, by omega, HBD6.out⟩
                                        | true =>
                                          have HM2 : Hid (m + 1 = ((ss.take (i + 1)).filter f).length) := by rw [take_filter_yes HS.out hfs, ← HM.out]; exact (rfl : _ = _)
                                          have hat := filter_at (f := f) HS.out hfs
                                          rw [← HM.out] at hat
                                          have hmn : m < gn := by rw [HGN.out]; exact (List.getElem?_eq_some_iff.1 hat).1
                                          obtain ⟨gg, rfl, _, qg⟩ := HG6.out (by rw [List.length_map, ← HGN.out]; omega)
                                          obtain ⟨e0, e1, e2, e3⟩ := qg m k (by rw [List.getElem?_map, hat, HKS.out]; rfl)
                                          clear qg hat hfs
                                          go_wp2_with fail
                                          refine (fields_any k _).mono ?_
                                          rintro e w7 ⟨rfl, hb7⟩
                                          clear e0 e1 e2 e3
                                          have HKB7 := Hid.of (heap_kept HKB6.out hb7)
                                          have HBD7 := Hid.of (HBD6.out.trans (hb7.mono HBD6.out.size))
                                          clear hb7
                                          have e0 : w7.cell? ⟨kb, 0, none⟩ = some (.string k.x) := cell_of_row w7 _ 0 _ _ _ HKB7.out
                                          have e1 : w7.cell? ⟨kb, 1, none⟩ = some (.string k.y) := cell_of_row w7 _ 1 _ _ _ HKB7.out
                                          have e2 : w7.cell? ⟨kb, 2, none⟩ = some (.string k.z) := cell_of_row w7 _ 2 _ _ _ HKB7.out
                                          have e3 : w7.cell? ⟨kb, 3, none⟩ = some (.int .i64 k.n) := cell_of_row w7 _ 3 _ _ _ HKB7.out
                                          go_wp2_with fail
                                          refine (matches_any k _).mono ?_
                                          rintro e w8 ⟨rfl, hb8⟩
                                          clear e0 e1 e2 e3
                                          have HBD8 := Hid.of (HBD7.out.trans (hb8.mono HBD7.out.size))
                                          clear hb8
                                          go_wp2_with fail
                                          go_roundg (ss.length - (i + 1))
                                          case measure => omega
                                          case rel => exact ⟨i + 1, m + 1, by omega, rfl, by go_num, by go_num, HM2, by omega, HBD8.out⟩
                                  · have him : i = ss.length := by omega
                                    have hmg : m = gn := by rw [HM.out, HGN.out, him, List.take_length]
                                    have HBR := Hid.of hbr
                                    clear hbr HM
                                    go_wp2_with fail
                                    go_ret
                                    exact ⟨by simp [hmg], HBW.out.trans (HBR.out.mono HBW.out.size)⟩

end Go.Proofs.Qxb6618606a
