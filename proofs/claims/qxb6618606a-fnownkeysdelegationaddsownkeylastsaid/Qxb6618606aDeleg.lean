import Derived.Test.Qxb6618606aBytes28
namespace Go.Proofs.Qxb6618606a
open Go.RowKit

/-- The law's four boxes. -/
structure Boxes (W : World) (w : World) (c u : ZN) (j : PK) (t : ZN) : Prop where
  bc : W.heap[w.heap.size]? = some (.cells #[.string c.s, .string c.i, .slice c.a c.l c.c, .string c.k.x, .string c.k.y, .string c.k.z, .int .i64 c.k.n] 32)
  bu : W.heap[w.heap.size + 1]? = some (.cells #[.string u.s, .string u.i, .slice u.a u.l u.c, .string u.k.x, .string u.k.y, .string u.k.z, .int .i64 u.k.n] 32)
  bj : W.heap[w.heap.size + 1 + 1]? = some (.cells #[.string j.x, .string j.y, .string j.z, .int .i64 j.n] 30)
  bt : W.heap[w.heap.size + 1 + 1 + 1]? = some (.cells #[.string t.s, .string t.i, .slice t.a t.l t.c, .string t.k.x, .string t.k.y, .string t.k.z, .int .i64 t.k.n] 32)

theorem Boxes.mk' (w : World) (c u : ZN) (j : PK) (t : ZN) : Boxes ((((w.alloc (.cells #[.string c.s, .string c.i, .slice c.a c.l c.c, .string c.k.x, .string c.k.y, .string c.k.z, .int .i64 c.k.n] 32)).alloc (.cells #[.string u.s, .string u.i, .slice u.a u.l u.c, .string u.k.x, .string u.k.y, .string u.k.z, .int .i64 u.k.n] 32)).alloc (.cells #[.string j.x, .string j.y, .string j.z, .int .i64 j.n] 30)).alloc (.cells #[.string t.s, .string t.i, .slice t.a t.l t.c, .string t.k.x, .string t.k.y, .string t.k.z, .int .i64 t.k.n] 32)) w c u j t := by
  refine ⟨?_, ?_, ?_, ?_⟩
  · rw [Below.heap_alloc _ _ _ (by simp only [World.size_alloc]; omega), Below.heap_alloc _ _ _ (by simp only [World.size_alloc]; omega), Below.heap_alloc _ _ _ (by simp only [World.size_alloc]; omega)]
    exact newAt (by simp)
  · rw [Below.heap_alloc _ _ _ (by simp only [World.size_alloc]; omega), Below.heap_alloc _ _ _ (by simp only [World.size_alloc]; omega)]
    exact newAt (by simp)
  · rw [Below.heap_alloc _ _ _ (by simp only [World.size_alloc]; omega)]
    exact newAt (by simp)
  · exact newAt (by simp)
theorem Boxes.kept {W W' w : World} {c u : ZN} {j : PK} {t : ZN} (h : Boxes W w c u j t) (hb : Below W.heap.size W W') : Boxes W' w c u j t :=
  ⟨heap_kept h.bc hb, heap_kept h.bu hb, heap_kept h.bj hb, heap_kept h.bt hb⟩

def KRd (w : World) (a : Option Addr) (ks : List PK) : Prop := 0 < ks.length → ∃ g, a = some ⟨g, 0, none⟩ ∧ g < w.heap.size ∧
  ∀ i k, ks[i]? = some k → w.cell? ⟨g, i * 4, none⟩ = some (.string k.x) ∧ w.cell? ⟨g, i * 4 + 1, none⟩ = some (.string k.y) ∧ w.cell? ⟨g, i * 4 + 2, none⟩ = some (.string k.z) ∧ w.cell? ⟨g, i * 4 + 3, none⟩ = some (.int .i64 k.n)

theorem KRd.kept {w w' : World} {a : Option Addr} {ks : List PK} (h : KRd w a ks) (hb : Below w.heap.size w w') : KRd w' a ks := by
  intro hp
  obtain ⟨g, e, hlt, hc⟩ := h hp
  refine ⟨g, e, Nat.lt_of_lt_of_le hlt hb.size, fun i k hk => ?_⟩
  obtain ⟨q0, q1, q2, q3⟩ := hc i k hk
  rw [hb.cell (p := ⟨g, i * 4, none⟩) hlt, hb.cell (p := ⟨g, i * 4 + 1, none⟩) hlt, hb.cell (p := ⟨g, i * 4 + 2, none⟩) hlt, hb.cell (p := ⟨g, i * 4 + 3, none⟩) hlt]
  exact ⟨q0, q1, q2, q3⟩

theorem kcells_get (ks : List PK) : ∀ (i : Nat) (k : PK) (m : Nat), m < 4 → ks[i]? = some k → (kcells ks)[i * 4 + m]? = (keyList k)[m]? := by
  induction ks with
  | nil => intro i k m _ h; simp at h
  | cons k0 ks ih =>
    intro i k m hm h
    have e : kcells (k0 :: ks) = keyList k0 ++ kcells ks := by simp [kcells]
    have l : (keyList k0).length = 4 := rfl
    rw [e]
    cases i with
    | zero =>
      simp at h
      subst h
      rw [List.getElem?_append_left (by omega)]
      simp
    | succ i =>
      rw [List.getElem?_append_right (by omega), l, show (i + 1) * 4 + m - 4 = i * 4 + m from by omega]
      exact ih i k m hm (by simpa using h)

theorem own_shape {w : World} {B : Nat} {v : Value} {ks : List PK} (h : w.ownsRow B 39 4 v ks.length (kcells ks)) : ∃ a cap, v = .slice a ks.length cap ∧ KRd w a ks := by
  have hl := h.1
  rcases h.2 with ⟨rfl, h0⟩ | ⟨g, cap, cur, rfl, hb, hg, h1, h2, h3, h4⟩
  · rw [h0]
    exact ⟨none, 0, rfl, fun hp => absurd hp (by omega)⟩
  · refine ⟨_, cap, rfl, fun _ => ⟨g, rfl, lt_of_heap hg, fun i k hk => ?_⟩⟩
    have hi : i < ks.length := (List.getElem?_eq_some_iff.1 hk).1
    have q : ∀ m, m < 4 → w.cell? ⟨g, i * 4 + m, none⟩ = (keyList k)[m]? := by
      intro m hm
      rw [h.cellAt (i * 4 + m) (by omega)]
      exact kcells_get ks i k m hm hk
    exact ⟨q 0 (by omega), q 1 (by omega), q 2 (by omega), q 3 (by omega)⟩

theorem below_cell {w w' : World} (hb : Below w.heap.size w w') : ∀ b o, b < w.heap.size → w'.cell? ⟨b, o, none⟩ = w.cell? ⟨b, o, none⟩ := fun b o hlt => hb.cell (p := ⟨b, o, none⟩) hlt

theorem node_below {w w' : World} {o : Obj} (hb : Below (w.alloc o).drew.heap.size (w.alloc o).drew w') : Below w.heap.size w w' :=
  (((Below.refl _ _).alloc (Nat.le_refl _) _).drew).trans (hb.mono (by simp))

set_option maxRecDepth 100000 in
set_option maxHeartbeats 4000000 in
theorem deleg_any (L : ByteArray) (c u : ZN) (j : PK) (t : ZN) (zc zu zt : List Int) (w : World) (rc : Rd w c.a c.l c.c zc) (ru : Rd w u.a u.l u.c zu) (rt : Rd w t.a t.l t.c zt) :
    Calls Try.prog 6 #[.string L, .agg #[.string c.s, .string c.i, .slice c.a c.l c.c, .string c.k.x, .string c.k.y, .string c.k.z, .int .i64 c.k.n], .agg #[.string u.s, .string u.i, .slice u.a u.l u.c, .string u.k.x, .string u.k.y, .string u.k.z, .int .i64 u.k.n], .agg #[.string j.x, .string j.y, .string j.z, .int .i64 j.n], .agg #[.string t.s, .string t.i, .slice t.a t.l t.c, .string t.k.x, .string t.k.y, .string t.k.z, .int .i64 t.k.n]] w fun e w' => e = .returned (.bool true) ∧ Below w.heap.size w w' := by
  have RC := Hid.of rc
  have RU := Hid.of ru
  have RT := Hid.of rt
  clear rc ru rt
  go_enter Try.func6, Try.ntmps6
  go_upto_region 1 with fail
  obtain ⟨w1, hw1⟩ : ∃ w1, w1 = ((((w.alloc (.cells #[.string c.s, .string c.i, .slice c.a c.l c.c, .string c.k.x, .string c.k.y, .string c.k.z, .int .i64 c.k.n] 32)).alloc (.cells #[.string u.s, .string u.i, .slice u.a u.l u.c, .string u.k.x, .string u.k.y, .string u.k.z, .int .i64 u.k.n] 32)).alloc (.cells #[.string j.x, .string j.y, .string j.z, .int .i64 j.n] 30)).alloc (.cells #[.string t.s, .string t.i, .slice t.a t.l t.c, .string t.k.x, .string t.k.y, .string t.k.z, .int .i64 t.k.n] 32)) := ⟨_, rfl⟩
  rw [← hw1]
  have hbx : Boxes w1 w c u j t := by rw [hw1]; exact Boxes.mk' w c u j t
  have hb1 : Below w.heap.size w w1 := by rw [hw1]; exact box4 _ _ _ _ _
  clear hw1
  have BX := Hid.of hbx
  have HB1 := Hid.of hb1
  have fbc0 : w1.cell? ⟨w.heap.size, 0, none⟩ = some (.string c.s) := cell_of_row w1 _ 0 _ _ _ hbx.bc
  have fbc1 : w1.cell? ⟨w.heap.size, 1, none⟩ = some (.string c.i) := cell_of_row w1 _ 1 _ _ _ hbx.bc
  have fbc2 : w1.cell? ⟨w.heap.size, 2, none⟩ = some (.slice c.a c.l c.c) := cell_of_row w1 _ 2 _ _ _ hbx.bc
  have fbc3 : w1.cell? ⟨w.heap.size, 3, none⟩ = some (.string c.k.x) := cell_of_row w1 _ 3 _ _ _ hbx.bc
  have fbc4 : w1.cell? ⟨w.heap.size, 4, none⟩ = some (.string c.k.y) := cell_of_row w1 _ 4 _ _ _ hbx.bc
  have fbc5 : w1.cell? ⟨w.heap.size, 5, none⟩ = some (.string c.k.z) := cell_of_row w1 _ 5 _ _ _ hbx.bc
  have fbc6 : w1.cell? ⟨w.heap.size, 6, none⟩ = some (.int .i64 c.k.n) := cell_of_row w1 _ 6 _ _ _ hbx.bc
  have fbu0 : w1.cell? ⟨w.heap.size + 1, 0, none⟩ = some (.string u.s) := cell_of_row w1 _ 0 _ _ _ hbx.bu
  have fbu1 : w1.cell? ⟨w.heap.size + 1, 1, none⟩ = some (.string u.i) := cell_of_row w1 _ 1 _ _ _ hbx.bu
  have fbu2 : w1.cell? ⟨w.heap.size + 1, 2, none⟩ = some (.slice u.a u.l u.c) := cell_of_row w1 _ 2 _ _ _ hbx.bu
  have fbu3 : w1.cell? ⟨w.heap.size + 1, 3, none⟩ = some (.string u.k.x) := cell_of_row w1 _ 3 _ _ _ hbx.bu
  have fbu4 : w1.cell? ⟨w.heap.size + 1, 4, none⟩ = some (.string u.k.y) := cell_of_row w1 _ 4 _ _ _ hbx.bu
  have fbu5 : w1.cell? ⟨w.heap.size + 1, 5, none⟩ = some (.string u.k.z) := cell_of_row w1 _ 5 _ _ _ hbx.bu
  have fbu6 : w1.cell? ⟨w.heap.size + 1, 6, none⟩ = some (.int .i64 u.k.n) := cell_of_row w1 _ 6 _ _ _ hbx.bu
  have fbj0 : w1.cell? ⟨w.heap.size + 1 + 1, 0, none⟩ = some (.string j.x) := cell_of_row w1 _ 0 _ _ _ hbx.bj
  have fbj1 : w1.cell? ⟨w.heap.size + 1 + 1, 1, none⟩ = some (.string j.y) := cell_of_row w1 _ 1 _ _ _ hbx.bj
  have fbj2 : w1.cell? ⟨w.heap.size + 1 + 1, 2, none⟩ = some (.string j.z) := cell_of_row w1 _ 2 _ _ _ hbx.bj
  have fbj3 : w1.cell? ⟨w.heap.size + 1 + 1, 3, none⟩ = some (.int .i64 j.n) := cell_of_row w1 _ 3 _ _ _ hbx.bj
  have fbt0 : w1.cell? ⟨w.heap.size + 1 + 1 + 1, 0, none⟩ = some (.string t.s) := cell_of_row w1 _ 0 _ _ _ hbx.bt
  have fbt1 : w1.cell? ⟨w.heap.size + 1 + 1 + 1, 1, none⟩ = some (.string t.i) := cell_of_row w1 _ 1 _ _ _ hbx.bt
  have fbt2 : w1.cell? ⟨w.heap.size + 1 + 1 + 1, 2, none⟩ = some (.slice t.a t.l t.c) := cell_of_row w1 _ 2 _ _ _ hbx.bt
  have fbt3 : w1.cell? ⟨w.heap.size + 1 + 1 + 1, 3, none⟩ = some (.string t.k.x) := cell_of_row w1 _ 3 _ _ _ hbx.bt
  have fbt4 : w1.cell? ⟨w.heap.size + 1 + 1 + 1, 4, none⟩ = some (.string t.k.y) := cell_of_row w1 _ 4 _ _ _ hbx.bt
  have fbt5 : w1.cell? ⟨w.heap.size + 1 + 1 + 1, 5, none⟩ = some (.string t.k.z) := cell_of_row w1 _ 5 _ _ _ hbx.bt
  have fbt6 : w1.cell? ⟨w.heap.size + 1 + 1 + 1, 6, none⟩ = some (.int .i64 t.k.n) := cell_of_row w1 _ 6 _ _ _ hbx.bt
  have z3 : w.heap.size + 1 + 1 + 1 < w1.heap.size := lt_of_heap hbx.bt
  have z0 : w.heap.size < w1.heap.size := by omega
  have z1 : w.heap.size + 1 < w1.heap.size := by omega
  have z2 : w.heap.size + 1 + 1 < w1.heap.size := by omega
  have RC1 := Hid.of (RC.out.kept hb1)
  have RU1 := Hid.of (RU.out.kept hb1)
  have RT1 := Hid.of (RT.out.kept hb1)
  clear hbx hb1 RC RU RT
  go_wp2_with fail
  refine (bytes28_any L c u j t w1).mono ?_
  rintro e w2 ⟨⟨b28, rfl⟩, hb2⟩
  have HB2 := Hid.of hb2
  have hcl := below_cell hb2
  clear hb2
  cases b28
  · go_wp2_with fail
    go_ret
    exact ⟨rfl, HB1.out.trans (HB2.out.mono HB1.out.size)⟩
  go_wp2_with fail
  refine (tooBig_any L c u j t w2).mono ?_
  rintro e w3 ⟨⟨b17, rfl⟩, hb3⟩
  have HB3 := Hid.of (HB2.out.trans (hb3.mono HB2.out.size))
  clear hcl hb3 HB2
  have hcl := below_cell HB3.out
  cases b17
  rotate_left
  · go_wp2_with fail
    go_ret
    exact ⟨rfl, HB1.out.trans (HB3.out.mono HB1.out.size)⟩
  obtain ⟨own, hown⟩ : ∃ own, own = ((L.toList == c.s.toList) && allowB c.a zc) := ⟨_, rfl⟩
  have HOWN := Hid.of hown
  clear hown
  go_upto_region 5 with fail
  go_cut [11] from 25 (fun v wx => v = .bool own ∧ wx = w3)
  case first =>
    by_cases hL : (L.toList == c.s.toList) = true
    · go_wp2_with (go_at_call 26; refine (allowsLaw_any c.a c.l c.c zc _ ?_).mono ?_; (exact RC1.out.kept HB3.out); rintro e w' ⟨rfl, rfl⟩)
      go_meet
      case rel => exact ⟨by rw [HOWN.out, hL]; rfl, rfl⟩
    · have hL' : (L.toList == c.s.toList) = false := by simpa using hL
      go_wp2_with fail
      go_meet
      case rel => exact ⟨by rw [HOWN.out, hL']; rfl, rfl⟩
  case rest =>
    obtain ⟨rfl, rfl⟩ := hcut
    go_upto_region 6 with fail
    go_cut [12] from 25 (fun v wx => (∃ b, v = .pointer (some ⟨b, 0, none⟩) ∧ wx.heap[b]? = some (.cells #[.string j.x, .string j.y, .string j.z, .int .i64 j.n] 39)) ∧ Below w1.heap.size w1 wx)
    case first =>
      go_wp2_with (go_at_call 18; refine (newKey_any _ _ _ _ _).mono ?_; rintro e w' ⟨rfl, rfl⟩)
      go_meet
      case rel => exact ⟨⟨_, rfl, newAt (by simp)⟩, (HB3.out.alloc HB3.out.size _).alloc (by have := HB3.out.size; simp only [World.size_alloc]; omega) _⟩
    case rest =>
      obtain ⟨⟨bk, rfl, hk⟩, hb4⟩ := hcut
      have HB4 := Hid.of hb4
      have HK := Hid.of hk
      clear hk hcl HB3 hb4
      have hcl := below_cell HB4.out
      go_upto_region 7 with fail
      go_cut [13] from 25 (fun v wx => (∃ b, v = .pointer (some ⟨b, 0, none⟩) ∧ CrlAt wx b L) ∧ Below wc.heap.size wc wx)
      case first =>
        go_wp2_with (go_at_call 19; refine (newCRL_any _ _).mono ?_; rintro e w' ⟨b, rfl, hcr, hb⟩)
        go_meet
        case rel => exact ⟨⟨b, rfl, hcr⟩, hb⟩
      case rest =>
        obtain ⟨⟨bl, rfl, hcr⟩, hb5⟩ := hcut
        have HCR := Hid.of hcr
        have HK5 := Hid.of (heap_kept HK.out hb5)
        have HB5 := Hid.of (HB4.out.trans (hb5.mono HB4.out.size))
        clear hcr hb5 hcl HB4 HK
        have hcl := below_cell HB5.out
        go_upto_region 8 with fail
        go_cut [14] from 25 (fun v wx => (∃ b, v = .pointer (some ⟨b, 0, none⟩) ∧ NodeAt wx b c.s c.i c.k c.a c.l c.c) ∧ Below wc.heap.size wc wx)
        case first =>
          have g0 : wc.cell? ⟨w.heap.size, 0, none⟩ = some (.string c.s) := by rw [hcl _ _ (by omega)]; exact fbc0
          have g1 : wc.cell? ⟨w.heap.size, 1, none⟩ = some (.string c.i) := by rw [hcl _ _ (by omega)]; exact fbc1
          have g2 : wc.cell? ⟨w.heap.size, 2, none⟩ = some (.slice c.a c.l c.c) := by rw [hcl _ _ (by omega)]; exact fbc2
          have g3 : wc.cell? ⟨w.heap.size, 3, none⟩ = some (.string c.k.x) := by rw [hcl _ _ (by omega)]; exact fbc3
          have g4 : wc.cell? ⟨w.heap.size, 4, none⟩ = some (.string c.k.y) := by rw [hcl _ _ (by omega)]; exact fbc4
          have g5 : wc.cell? ⟨w.heap.size, 5, none⟩ = some (.string c.k.z) := by rw [hcl _ _ (by omega)]; exact fbc5
          have g6 : wc.cell? ⟨w.heap.size, 6, none⟩ = some (.int .i64 c.k.n) := by rw [hcl _ _ (by omega)]; exact fbc6
          clear hcl
          go_region_held3 (fun w' => w'.cell? ⟨w.heap.size, 0, none⟩ = some (.string c.s) ∧ w'.cell? ⟨w.heap.size, 1, none⟩ = some (.string c.i) ∧ w'.cell? ⟨w.heap.size, 2, none⟩ = some (.slice c.a c.l c.c) ∧ w'.cell? ⟨w.heap.size, 3, none⟩ = some (.string c.k.x) ∧ w'.cell? ⟨w.heap.size, 4, none⟩ = some (.string c.k.y) ∧ w'.cell? ⟨w.heap.size, 5, none⟩ = some (.string c.k.z) ∧ w'.cell? ⟨w.heap.size, 6, none⟩ = some (.int .i64 c.k.n)) (go_keep) (first | (go_at_call 18; refine (newKey_any _ _ _ _ _).mono ?_; rintro e w' ⟨rfl, rfl⟩) | (go_at_call 21; refine (newNode_any c.s c.i c.a c.l c.c c.k _).mono ?_; rintro e w' ⟨b, rfl, hn, hb⟩; have hbw := node_below hb; have k0 := keep_cell hbw g0; have k1 := keep_cell hbw g1; have k2 := keep_cell hbw g2; have k3 := keep_cell hbw g3; have k4 := keep_cell hbw g4; have k5 := keep_cell hbw g5; have k6 := keep_cell hbw g6))
          go_wp2_with fail
          go_meet
          case rel => exact ⟨⟨b, rfl, hn⟩, hbw⟩
        case rest =>
          obtain ⟨⟨bn, rfl, hn⟩, hb6⟩ := hcut
          have HN6 := Hid.of hn
          have HCR6 := Hid.of (HCR.out.kept hb6)
          have HK6 := Hid.of (heap_kept HK5.out hb6)
          have HB6 := Hid.of (HB5.out.trans (hb6.mono HB5.out.size))
          clear hn hb6 hcl HB5 HCR HK5
          have hcl := below_cell HB6.out
          go_upto_region 9 with fail
          go_cut [15] from 25 (fun v wx => (∃ b, v = .pointer (some ⟨b, 0, none⟩) ∧ NodeAt wx b u.s u.i u.k u.a u.l u.c) ∧ Below wc.heap.size wc wx)
          case first =>
            have g0 : wc.cell? ⟨w.heap.size + 1, 0, none⟩ = some (.string u.s) := by rw [hcl _ _ (by omega)]; exact fbu0
            have g1 : wc.cell? ⟨w.heap.size + 1, 1, none⟩ = some (.string u.i) := by rw [hcl _ _ (by omega)]; exact fbu1
            have g2 : wc.cell? ⟨w.heap.size + 1, 2, none⟩ = some (.slice u.a u.l u.c) := by rw [hcl _ _ (by omega)]; exact fbu2
            have g3 : wc.cell? ⟨w.heap.size + 1, 3, none⟩ = some (.string u.k.x) := by rw [hcl _ _ (by omega)]; exact fbu3
            have g4 : wc.cell? ⟨w.heap.size + 1, 4, none⟩ = some (.string u.k.y) := by rw [hcl _ _ (by omega)]; exact fbu4
            have g5 : wc.cell? ⟨w.heap.size + 1, 5, none⟩ = some (.string u.k.z) := by rw [hcl _ _ (by omega)]; exact fbu5
            have g6 : wc.cell? ⟨w.heap.size + 1, 6, none⟩ = some (.int .i64 u.k.n) := by rw [hcl _ _ (by omega)]; exact fbu6
            clear hcl
            go_region_held3 (fun w' => w'.cell? ⟨w.heap.size + 1, 0, none⟩ = some (.string u.s) ∧ w'.cell? ⟨w.heap.size + 1, 1, none⟩ = some (.string u.i) ∧ w'.cell? ⟨w.heap.size + 1, 2, none⟩ = some (.slice u.a u.l u.c) ∧ w'.cell? ⟨w.heap.size + 1, 3, none⟩ = some (.string u.k.x) ∧ w'.cell? ⟨w.heap.size + 1, 4, none⟩ = some (.string u.k.y) ∧ w'.cell? ⟨w.heap.size + 1, 5, none⟩ = some (.string u.k.z) ∧ w'.cell? ⟨w.heap.size + 1, 6, none⟩ = some (.int .i64 u.k.n)) (go_keep) (first | (go_at_call 18; refine (newKey_any _ _ _ _ _).mono ?_; rintro e w' ⟨rfl, rfl⟩) | (go_at_call 21; refine (newNode_any u.s u.i u.a u.l u.c u.k _).mono ?_; rintro e w' ⟨b, rfl, hn, hb⟩; have hbw := node_below hb; have k0 := keep_cell hbw g0; have k1 := keep_cell hbw g1; have k2 := keep_cell hbw g2; have k3 := keep_cell hbw g3; have k4 := keep_cell hbw g4; have k5 := keep_cell hbw g5; have k6 := keep_cell hbw g6))
            go_wp2_with fail
            go_meet
            case rel => exact ⟨⟨b, rfl, hn⟩, hbw⟩
          case rest =>
            obtain ⟨⟨bm, rfl, hn⟩, hb7⟩ := hcut
            have HN7 := Hid.of hn
            have HCR7 := Hid.of (HCR6.out.kept hb7)
            have HK7 := Hid.of (heap_kept HK6.out hb7)
            replace HN6 := Hid.of (HN6.out.kept hb7)
            have HB7 := Hid.of (HB6.out.trans (hb7.mono HB6.out.size))
            clear hn hb7 hcl HB6 HCR6 HK6
            have hcl := below_cell HB7.out
            go_upto_region 10 with fail
            go_cut [16] from 25 (fun v wx => (∃ b, v = .pointer (some ⟨b, 0, none⟩) ∧ NodeAt wx b t.s t.i t.k t.a t.l t.c) ∧ Below wc.heap.size wc wx)
            case first =>
              have g0 : wc.cell? ⟨w.heap.size + 1 + 1 + 1, 0, none⟩ = some (.string t.s) := by rw [hcl _ _ (by omega)]; exact fbt0
              have g1 : wc.cell? ⟨w.heap.size + 1 + 1 + 1, 1, none⟩ = some (.string t.i) := by rw [hcl _ _ (by omega)]; exact fbt1
              have g2 : wc.cell? ⟨w.heap.size + 1 + 1 + 1, 2, none⟩ = some (.slice t.a t.l t.c) := by rw [hcl _ _ (by omega)]; exact fbt2
              have g3 : wc.cell? ⟨w.heap.size + 1 + 1 + 1, 3, none⟩ = some (.string t.k.x) := by rw [hcl _ _ (by omega)]; exact fbt3
              have g4 : wc.cell? ⟨w.heap.size + 1 + 1 + 1, 4, none⟩ = some (.string t.k.y) := by rw [hcl _ _ (by omega)]; exact fbt4
              have g5 : wc.cell? ⟨w.heap.size + 1 + 1 + 1, 5, none⟩ = some (.string t.k.z) := by rw [hcl _ _ (by omega)]; exact fbt5
              have g6 : wc.cell? ⟨w.heap.size + 1 + 1 + 1, 6, none⟩ = some (.int .i64 t.k.n) := by rw [hcl _ _ (by omega)]; exact fbt6
              clear hcl
              go_region_held3 (fun w' => w'.cell? ⟨w.heap.size + 1 + 1 + 1, 0, none⟩ = some (.string t.s) ∧ w'.cell? ⟨w.heap.size + 1 + 1 + 1, 1, none⟩ = some (.string t.i) ∧ w'.cell? ⟨w.heap.size + 1 + 1 + 1, 2, none⟩ = some (.slice t.a t.l t.c) ∧ w'.cell? ⟨w.heap.size + 1 + 1 + 1, 3, none⟩ = some (.string t.k.x) ∧ w'.cell? ⟨w.heap.size + 1 + 1 + 1, 4, none⟩ = some (.string t.k.y) ∧ w'.cell? ⟨w.heap.size + 1 + 1 + 1, 5, none⟩ = some (.string t.k.z) ∧ w'.cell? ⟨w.heap.size + 1 + 1 + 1, 6, none⟩ = some (.int .i64 t.k.n)) (go_keep) (first | (go_at_call 18; refine (newKey_any _ _ _ _ _).mono ?_; rintro e w' ⟨rfl, rfl⟩) | (go_at_call 21; refine (newNode_any t.s t.i t.a t.l t.c t.k _).mono ?_; rintro e w' ⟨b, rfl, hn, hb⟩; have hbw := node_below hb; have k0 := keep_cell hbw g0; have k1 := keep_cell hbw g1; have k2 := keep_cell hbw g2; have k3 := keep_cell hbw g3; have k4 := keep_cell hbw g4; have k5 := keep_cell hbw g5; have k6 := keep_cell hbw g6))
              go_wp2_with fail
              go_meet
              case rel => exact ⟨⟨b, rfl, hn⟩, hbw⟩
            case rest =>
              obtain ⟨⟨bo, rfl, hn⟩, hb8⟩ := hcut
              have HN8 := Hid.of hn
              have HCR8 := Hid.of (HCR7.out.kept hb8)
              have HK8 := Hid.of (heap_kept HK7.out hb8)
              replace HN6 := Hid.of (HN6.out.kept hb8)
              replace HN7 := Hid.of (HN7.out.kept hb8)
              have HB8 := Hid.of (HB7.out.trans (hb8.mono HB7.out.size))
              clear hn hb8 hcl HB7 HCR7 HK7
              have hcl := below_cell HB8.out
              obtain ⟨A, hA⟩ : ∃ A, A = ((L.toList == c.i.toList) && allowB u.a zu) := ⟨_, rfl⟩
              have HA := Hid.of hA
              obtain ⟨B, hB⟩ : ∃ B, B = ((L.toList == t.s.toList) && allowB t.a zt) := ⟨_, rfl⟩
              have HB := Hid.of hB
              obtain ⟨ks, hks⟩ : ∃ ks, ks = opt A j ++ opt B t.k := ⟨_, rfl⟩
              have hkl : ks.length ≤ 2 := by rw [hks, List.length_append]; have := opt_len A j; have := opt_len B t.k; omega
              have HKS := Hid.of hks
              clear hA hB hks
              have RC8 := Hid.of (RC1.out.kept HB8.out)
              have RU8 := Hid.of (RU1.out.kept HB8.out)
              have RT8 := Hid.of (RT1.out.kept HB8.out)
              go_upto_region 11 with fail
              go_cut [17] from 25 (fun v wx => (∃ a cap, v = .slice a ks.length cap ∧ KRd wx a ks) ∧ Below wc.heap.size wc wx)
              case first =>
                have g0 : wc.cell? ⟨bk, 0, none⟩ = some (.string j.x) := cell_of_row wc _ 0 _ _ _ HK8.out
                have g1 : wc.cell? ⟨bk, 1, none⟩ = some (.string j.y) := cell_of_row wc _ 1 _ _ _ HK8.out
                have g2 : wc.cell? ⟨bk, 2, none⟩ = some (.string j.z) := cell_of_row wc _ 2 _ _ _ HK8.out
                have g3 : wc.cell? ⟨bk, 3, none⟩ = some (.int .i64 j.n) := cell_of_row wc _ 3 _ _ _ HK8.out
                clear hcl
                have hdr : Below wc.heap.size wc wc.drew := (Below.refl _ _).drew
                have HC : Hid (false = (false && (L.toList == c.s.toList) && allowB c.a zc)) := rfl
                go_region_held3 (fun w' => w'.cell? ⟨bk, 0, none⟩ = some (.string j.x) ∧ w'.cell? ⟨bk, 1, none⟩ = some (.string j.y) ∧ w'.cell? ⟨bk, 2, none⟩ = some (.string j.z) ∧ w'.cell? ⟨bk, 3, none⟩ = some (.int .i64 j.n)) (go_keep) (first
                  | (go_at_call 20; refine (newScope_any _ _).mono ?_; rintro e w' ⟨bs, rfl, hs, hb⟩; have hbw := hdr.trans hb; have k0 := keep_cell hbw g0; have k1 := keep_cell hbw g1; have k2 := keep_cell hbw g2; have k3 := keep_cell hbw g3)
                  | (go_at_call 22; refine (zzown_any bl bs bn bm bo L false c.s c.i u.s u.i t.s t.i c.k u.k t.k j c.a c.l c.c zc u.a u.l u.c zu t.a t.l t.c zt A B false _ HA HB HC ⟨HCR8.out.kept hbw, hs, HN6.out.kept hbw, HN7.out.kept hbw, HN8.out.kept hbw, RC8.out.kept hbw, RU8.out.kept hbw, RT8.out.kept hbw⟩).mono ?_; rintro e w'' ⟨v, rfl, ho, hb2⟩; have hbw2 := hbw.trans (hb2.mono hbw.size); have m0 := keep_cell hbw2 g0; have m1 := keep_cell hbw2 g1; have m2 := keep_cell hbw2 g2; have m3 := keep_cell hbw2 g3))
                go_wp2_with fail
                have hsh : ∃ a cap, v = .slice a ks.length cap ∧ KRd w'' a ks := by
                  refine own_shape (B := w'.heap.size) ?_
                  rw [HKS.out]
                  simpa [opt] using ho
                go_meet
                case rel => exact ⟨hsh, hbw2⟩
              case rest =>
                obtain ⟨⟨a1, cap1, rfl, hk1⟩, hb9⟩ := hcut
                have HK9 := Hid.of hk1
                have HB9 := Hid.of (HB8.out.trans (hb9.mono HB8.out.size))
                have HCR9 := Hid.of (HCR8.out.kept hb9)
                have HKB9 := Hid.of (heap_kept HK8.out hb9)
                have HM6 := Hid.of (HN6.out.kept hb9)
                have HM7 := Hid.of (HN7.out.kept hb9)
                have HM8 := Hid.of (HN8.out.kept hb9)
                have RC9 := Hid.of (RC8.out.kept hb9)
                have RU9 := Hid.of (RU8.out.kept hb9)
                have RT9 := Hid.of (RT8.out.kept hb9)
                clear hk1 hb9 HB8 HCR8 HK8 HN6 HN7 HN8 RC8 RU8 RT8 RC1 RU1 RT1 hcl
                go_upto_region 12 with fail
                go_cut [18] from 25 (fun v wx => (∃ a cap, v = .slice a (ks ++ opt own c.k).length cap ∧ KRd wx a (ks ++ opt own c.k)) ∧ Below wc.heap.size wc wx)
                case first =>
                  have g0 : wc.cell? ⟨bk, 0, none⟩ = some (.string j.x) := cell_of_row wc _ 0 _ _ _ HKB9.out
                  have g1 : wc.cell? ⟨bk, 1, none⟩ = some (.string j.y) := cell_of_row wc _ 1 _ _ _ HKB9.out
                  have g2 : wc.cell? ⟨bk, 2, none⟩ = some (.string j.z) := cell_of_row wc _ 2 _ _ _ HKB9.out
                  have g3 : wc.cell? ⟨bk, 3, none⟩ = some (.int .i64 j.n) := cell_of_row wc _ 3 _ _ _ HKB9.out
                  have hdr : Below wc.heap.size wc wc.drew := (Below.refl _ _).drew
                  have HC : Hid (own = (true && (L.toList == c.s.toList) && allowB c.a zc)) := by rw [HOWN.out]; exact (rfl : _ = _)
                  go_region_held3 (fun w' => w'.cell? ⟨bk, 0, none⟩ = some (.string j.x) ∧ w'.cell? ⟨bk, 1, none⟩ = some (.string j.y) ∧ w'.cell? ⟨bk, 2, none⟩ = some (.string j.z) ∧ w'.cell? ⟨bk, 3, none⟩ = some (.int .i64 j.n)) (go_keep) (first
                    | (go_at_call 20; refine (newScope_any _ _).mono ?_; rintro e w' ⟨bs, rfl, hs, hb⟩; have hbw := hdr.trans hb; have k0 := keep_cell hbw g0; have k1 := keep_cell hbw g1; have k2 := keep_cell hbw g2; have k3 := keep_cell hbw g3)
                    | (go_at_call 22; refine (zzown_any bl bs bn bm bo L true c.s c.i u.s u.i t.s t.i c.k u.k t.k j c.a c.l c.c zc u.a u.l u.c zu t.a t.l t.c zt A B own _ HA HB HC ⟨HCR9.out.kept hbw, hs, HM6.out.kept hbw, HM7.out.kept hbw, HM8.out.kept hbw, RC9.out.kept hbw, RU9.out.kept hbw, RT9.out.kept hbw⟩).mono ?_; rintro e w'' ⟨v, rfl, ho, hb2⟩; have hbw2 := hbw.trans (hb2.mono hbw.size); have m0 := keep_cell hbw2 g0; have m1 := keep_cell hbw2 g1; have m2 := keep_cell hbw2 g2; have m3 := keep_cell hbw2 g3))
                  go_wp2_with fail
                  have hsh : ∃ a cap, v = .slice a (ks ++ opt own c.k).length cap ∧ KRd w'' a (ks ++ opt own c.k) := by
                    refine own_shape (B := w'.heap.size) ?_
                    rw [HKS.out]
                    exact ho
                  go_meet
                  case rel => exact ⟨hsh, hbw2⟩
                case rest =>
                  obtain ⟨⟨a2, cap2, rfl, hk2⟩, hb10⟩ := hcut
                  have HKF := Hid.of (HK9.out.kept hb10)
                  have HKN := Hid.of hk2
                  have HB10 := Hid.of (HB9.out.trans (hb10.mono HB9.out.size))
                  clear hk2 hb10 HK9 HB9 HCR9 HKB9 HM6 HM7 HM8 RC9 RU9 RT9
                  have hcl := below_cell HB10.out
                  cases own with
                  | false =>
                    have e0 : ks ++ opt false c.k = ks := by simp [opt]
                    rw [e0] at HKN
                    rw [e0]
                    clear e0
                    go_wp2_with fail
                    go_loopw [20] (fun i wr => ∃ k : Nat, k ≤ ks.length ∧ i = .int .i64 k ∧ ∃ m, wr = wc.drewN m) (fun i _ => ks.length - (intOf i).toNat)
                    case atStart => exact ⟨0, Nat.zero_le _, rfl, 0, rfl⟩
                    case round =>
                      obtain ⟨k, hk, rfl, m, rfl⟩ := hrel
                      by_cases hlt : k < ks.length
                      · obtain ⟨kk, hkk⟩ : ∃ kk, ks[k]? = some kk := ⟨_, List.getElem?_eq_getElem hlt⟩
                        obtain ⟨ga, rfl, _, qa⟩ := HKF.out (by omega)
                        obtain ⟨gb, rfl, _, qb⟩ := HKN.out (by omega)
                        obtain ⟨p0, p1, p2, p3⟩ := qa k kk hkk
                        obtain ⟨q0, q1, q2, q3⟩ := qb k kk hkk
                        clear qa qb hkk
                        go_wp2_with fail
                        go_quiet (fail)
                        go_wp2_with fail
                        go_roundw
                        case rel => exact ⟨k + 1, by omega, by go_num, m + nq, rfl⟩
                        case measure => simp [intOf]; omega
                      · go_wp2_with fail
                        go_ret
                        exact ⟨rfl, HB1.out.trans ((HB10.out.trans (drewN_below _ _ m)).mono HB1.out.size)⟩
                  | true =>
                    have e0 : (ks ++ opt true c.k).length = ks.length + 1 := by simp [opt]
                    rw [e0]
                    clear e0
                    obtain ⟨gb, rfl, hgb, qb⟩ := HKN.out (by simp [opt])
                    have QB := Hid.of qb
                    clear qb
                    go_wp2_with fail
                    go_loopw [20] (fun i wr => ∃ k : Nat, k ≤ ks.length ∧ i = .int .i64 k ∧ ∃ m, wr = wc.drewN m) (fun i _ => ks.length - (intOf i).toNat)
                    case atStart => exact ⟨0, Nat.zero_le _, rfl, 0, rfl⟩
                    case round =>
                      obtain ⟨k, hk, rfl, m, rfl⟩ := hrel
                      by_cases hlt : k < ks.length
                      · obtain ⟨kk, hkk⟩ : ∃ kk, ks[k]? = some kk := ⟨_, List.getElem?_eq_getElem hlt⟩
                        obtain ⟨ga, rfl, _, qa⟩ := HKF.out (by omega)
                        obtain ⟨p0, p1, p2, p3⟩ := qa k kk hkk
                        obtain ⟨q0, q1, q2, q3⟩ := QB.out k kk (by rw [List.getElem?_append_left hlt]; exact hkk)
                        clear qa hkk
                        go_wp2_with fail
                        go_quiet (fail)
                        go_wp2_with fail
                        go_roundw
                        case rel => exact ⟨k + 1, by omega, by go_num, m + nq, rfl⟩
                        case measure => simp [intOf]; omega
                      · obtain ⟨q0, q1, q2, q3⟩ := QB.out ks.length c.k (by simp [opt])
                        have HB11 := Hid.of (HB10.out.trans (drewN_below _ _ m))
                        go_wp2_with fail
                        refine (fields_any c.k _).mono ?_
                        rintro e w' ⟨rfl, hb11⟩
                        have HB12 := Hid.of (HB11.out.trans (hb11.mono HB11.out.size))
                        clear hb11 hcl q0 q1 q2 q3
                        have hcl := below_cell HB12.out
                        go_wp2_with fail
                        refine (matches_any c.k _).mono ?_
                        rintro e w'' ⟨rfl, hb13⟩
                        have HB13 := Hid.of (HB12.out.trans (hb13.mono HB12.out.size))
                        clear hb13
                        go_wp2_with fail
                        go_ret
                        exact ⟨rfl, HB1.out.trans (HB13.out.mono HB1.out.size)⟩

end Go.Proofs.Qxb6618606a
