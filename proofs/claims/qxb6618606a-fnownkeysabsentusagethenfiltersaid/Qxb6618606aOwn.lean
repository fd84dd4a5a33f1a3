import Derived.Test.Qxb6618606aKeys
import Derived.Deep.RegionHeld3
import Derived.Deep.DeepCutAuto
namespace Go.Proofs.Qxb6618606a
open Go.RowKit

/-- What ownKeys is handed, as it lies in memory. -/
structure Own (w : World) (bl bs bc bi ba : Nat) (L : ByteArray) (d : Bool) (cs ci si ii sa ia : ByteArray) (kc ki ka : PK) (ac : Option Addr) (lc cc : Nat) (zc : List Int) (ai : Option Addr) (li cpi : Nat) (zi : List Int) (aa : Option Addr) (la ca : Nat) (za : List Int) : Prop where
  crl : CrlAt w bl L
  scope : ScopeAt w bs d
  c : NodeAt w bc cs ci kc ac lc cc
  i : NodeAt w bi si ii ki ai li cpi
  a : NodeAt w ba sa ia ka aa la ca
  rc : Rd w ac lc cc zc
  ri : Rd w ai li cpi zi
  ra : Rd w aa la ca za

theorem Own.kept {w w' : World} {bl bs bc bi ba : Nat} {L : ByteArray} {d : Bool} {cs ci si ii sa ia : ByteArray} {kc ki ka : PK} {ac : Option Addr} {lc cc : Nat} {zc : List Int} {ai : Option Addr} {li cpi : Nat} {zi : List Int} {aa : Option Addr} {la ca : Nat} {za : List Int}
    (h : Own w bl bs bc bi ba L d cs ci si ii sa ia kc ki ka ac lc cc zc ai li cpi zi aa la ca za) (hb : Below w.heap.size w w') : Own w' bl bs bc bi ba L d cs ci si ii sa ia kc ki ka ac lc cc zc ai li cpi zi aa la ca za :=
  ⟨h.crl.kept hb, h.scope.kept hb, h.c.kept hb, h.i.kept hb, h.a.kept hb, h.rc.kept hb, h.ri.kept hb, h.ra.kept hb⟩

theorem Try.info39 : (Try.prog.info? 39).map (fun i => (i.zero, i.size, i.bytes)) = some (some (.agg #[.string ⟨#[]⟩, .string ⟨#[]⟩, .string ⟨#[]⟩, .int .i64 0]), 4, 56) := by kernel_rfl

def keyList (k : PK) : List Value := [.string k.x, .string k.y, .string k.z, .int .i64 k.n]
def kcells (ks : List PK) : List Value := ks.flatMap keyList
def opt (b : Bool) (k : PK) : List PK := if b then [k] else []

theorem kcells_append (ks js : List PK) : kcells (ks ++ js) = kcells ks ++ kcells js := by simp [kcells]
theorem kcells_one (k : PK) : kcells [k] = keyList k := by simp [kcells]

theorem key_news (w : World) (k : PK) (t : TypeId) : ∀ j u, (keyList k)[j]? = some u → (w.alloc (.cells #[.string k.x, .string k.y, .string k.z, .int .i64 k.n] t)).cell? ((⟨w.heap.size, 0, none⟩ : Addr).add j) = some u := by
  intro j u hu
  rw [Addr.add_lit, Nat.zero_add, World.cell?_alloc_new]
  simpa [keyList] using hu
theorem key_one (k : PK) : ∀ u ∈ keyList k, u.oneCell' = true := by
  intro u hu
  simp only [keyList, List.mem_cons, List.not_mem_nil, or_false] at hu
  rcases hu with rfl | rfl | rfl | rfl <;> rfl

theorem own_below {w w' : World} {base : Nat} {e : TypeId} {size : Nat} {v : Value} {n : Nat} {xs : List Value} (h : w.ownsRow base e size v n xs) (hb : Below w.heap.size w w') : w'.ownsRow base e size v n xs :=
  h.kept (row := none) ⟨hb.os, hb.tape, hb.output, hb.size, fun k hk _ => hb.block k hk⟩ (by cases hv : v.ownBlock <;> simp)

theorem own_step {w : World} {B : Nat} {v : Value} {ks : List PK} {k : PK} (h : w.ownsRow B 39 4 v (ks.length + 1) (kcells ks ++ keyList k)) : w.ownsRow B 39 4 v (ks ++ opt true k).length (kcells (ks ++ opt true k)) := by
  have e : kcells (ks ++ opt true k) = kcells ks ++ keyList k := by simp [kcells, opt]
  have l : (ks ++ opt true k).length = ks.length + 1 := by simp [opt]
  rw [e, l]
  exact h
theorem own_same {w : World} {B : Nat} {v : Value} {ks : List PK} {k : PK} (h : w.ownsRow B 39 4 v ks.length (kcells ks)) : w.ownsRow B 39 4 v (ks ++ opt false k).length (kcells (ks ++ opt false k)) := by
  simpa [opt] using h

theorem opt_len (A : Bool) (k : PK) : (opt A k).length ≤ 1 := by cases A <;> simp [opt]
theorem opt_small (A : Bool) (k : PK) : (opt A k).length + 1 ≤ maxLen := by have := opt_len A k; simp only [maxLen]; omega
theorem opt_bytes (A : Bool) (k : PK) : ((opt A k).length + 1) * 56 ≤ 140737488355328 := by have := opt_len A k; omega

theorem opt_small2 (A B : Bool) (k j : PK) : (opt A k ++ opt B j).length + 1 ≤ maxLen := by have := opt_len A k; have := opt_len B j; simp only [maxLen, List.length_append]; omega
theorem opt_bytes2 (A B : Bool) (k j : PK) : ((opt A k ++ opt B j).length + 1) * 56 ≤ 140737488355328 := by have := opt_len A k; have := opt_len B j; simp only [List.length_append]; omega
theorem own_base {w : World} {B B' : Nat} {e : TypeId} {size : Nat} {v : Value} {n : Nat} {xs : List Value} (hB : B' ≤ B) (h : w.ownsRow B e size v n xs) : w.ownsRow B' e size v n xs := by
  refine ⟨h.1, ?_⟩
  rcases h.2 with hn | ⟨g, cap, cur, hv, hb, rest⟩
  · exact .inl hn
  · exact .inr ⟨g, cap, cur, hv, Nat.le_trans hB hb, rest⟩

theorem keep_cell {W w' : World} {p : Addr} {v : Value} (hb : Below W.heap.size W w') (h : W.cell? p = some v) : w'.cell? p = some v := by
  rw [hb.cell (World.block_lt_of_cell? W p h)]
  exact h

set_option maxRecDepth 100000 in
set_option maxHeartbeats 2000000 in
theorem own_any (bl bs bc bi ba : Nat) (L : ByteArray) (d : Bool) (cs ci si ii sa ia : ByteArray) (kc ki ka ik : PK) (ac : Option Addr) (lc cc : Nat) (zc : List Int) (ai : Option Addr) (li cpi : Nat) (zi : List Int) (aa : Option Addr) (la ca : Nat) (za : List Int) (A B C : Bool) (w : World)
    (hA : Hid (A = ((L.toList == ci.toList) && allowB ai zi))) (hB : Hid (B = ((L.toList == sa.toList) && allowB aa za))) (hC : Hid (C = (d && (L.toList == cs.toList) && allowB ac zc)))
    (h : Own w bl bs bc bi ba L d cs ci si ii sa ia kc ki ka ac lc cc zc ai li cpi zi aa la ca za) :
    Calls Try.prog 38 #[.pointer (some ⟨bl, 0, none⟩), .pointer (some ⟨bs, 0, none⟩), .pointer (some ⟨bc, 0, none⟩), .pointer (some ⟨bi, 0, none⟩), .agg #[.string ik.x, .string ik.y, .string ik.z, .int .i64 ik.n], .pointer (some ⟨ba, 0, none⟩)] w
      fun e w' => ∃ v, e = .returned v ∧ w'.ownsRow w.heap.size 39 4 v (opt A ik ++ opt B ka ++ opt C kc).length (kcells (opt A ik ++ opt B ka ++ opt C kc)) ∧ Below w.heap.size w w' := by
  have HO := Hid.of h
  clear h
  obtain ⟨i0, hi, hz0, hz1, hz2⟩ := info_parts Try.info39
  have I0 := Hid.of hi
  have I1 := Hid.of hz0
  have I2 := Hid.of hz1
  have I3 := Hid.of hz2
  clear hi hz0 hz1 hz2
  go_enter Try.func38, Try.ntmps38
  go_upto_region 2 with fail
  obtain ⟨w1, hw1⟩ : ∃ w1, w1 = w.alloc (.cells #[.string ik.x, .string ik.y, .string ik.z, .int .i64 ik.n] 39) := ⟨_, rfl⟩
  rw [← hw1]
  have hbox : Hid (w1.heap[w.heap.size]? = some (.cells #[.string ik.x, .string ik.y, .string ik.z, .int .i64 ik.n] 39)) := by rw [hw1]; exact newAt rfl
  have hb1 : Hid (Below w.heap.size w w1) := by rw [hw1]; exact (Below.refl _ _).alloc (Nat.le_refl _) _
  clear hw1
  have HO1 := Hid.of (HO.out.kept hb1.out)
  clear HO
  go_cut [29] from 14 (fun v wx => v = .bool A ∧ Below w1.heap.size w1 wx)
  case first =>
    obtain ⟨cb, q1, _⟩ := HO1.out.c
    obtain ⟨ib, q2, _⟩ := HO1.out.i
    have f0 : w1.cell? ⟨bl, 1, none⟩ = some (.string L) := cell_of_row w1 bl 1 _ _ _ HO1.out.crl
    have f1 : w1.cell? ⟨bc, 2, none⟩ = some (.string ci) := cell_of_row w1 bc 2 _ _ _ q1
    have f2 : w1.cell? ⟨bi, 7, none⟩ = some (.bool false) := cell_of_row w1 bi 7 _ _ _ q2
    have f3 : w1.cell? ⟨bi, 8, none⟩ = some (.int .i64 (-1)) := cell_of_row w1 bi 8 _ _ _ q2
    have f4 : w1.cell? ⟨bi, 9, none⟩ = some (.slice ai li cpi) := cell_of_row w1 bi 9 _ _ _ q2
    have f5 : w1.cell? ⟨bi, 10, none⟩ = some (.bool false) := cell_of_row w1 bi 10 _ _ _ q2
    clear q1 q2
    by_cases hL : (L.toList == ci.toList) = true
    · go_region_held3 (fun w' => w'.cell? ⟨bl, 1, none⟩ = some (.string L) ∧ w'.cell? ⟨bc, 2, none⟩ = some (.string ci) ∧ w'.cell? ⟨bi, 7, none⟩ = some (.bool false) ∧ w'.cell? ⟨bi, 8, none⟩ = some (.int .i64 (-1)) ∧ w'.cell? ⟨bi, 9, none⟩ = some (.slice ai li cpi) ∧ w'.cell? ⟨bi, 10, none⟩ = some (.bool false)) (go_keep) (first | (go_at_call 41; refine (allows_any ai li cpi zi _ ?_).mono ?_; (exact HO1.out.ri.kept (by exact (Below.refl _ _).drew)); rintro e w' ⟨rfl, hbb⟩; have g0 := keep_cell hbb f0; have g1 := keep_cell hbb f1; have g2 := keep_cell hbb f2; have g3 := keep_cell hbb f3; have g4 := keep_cell hbb f4; have g5 := keep_cell hbb f5))
      go_wp2_with fail
      go_meet
      case rel => exact ⟨by rw [hA.out, hL]; rfl, ((Below.refl _ _).drew).trans hbb⟩
    · have hL' : (L.toList == ci.toList) = false := by simpa using hL
      go_quiet (fail)
      go_wp2_with fail
      go_meet
      case rel => exact ⟨by rw [hA.out, hL']; rfl, drewN_below _ _ _⟩
  case rest =>
    obtain ⟨rfl, hb2⟩ := hcut
    go_upto_if 29 with fail
    go_cut [13] from 14 (fun v wx => wx.ownsRow w1.heap.size 39 4 v (opt A ik).length (kcells (opt A ik)) ∧ Below w1.heap.size w1 wx)
    case first =>
      have b0 := heap_kept hbox.out hb2
      have c0 : wc.cell? ⟨w.heap.size, 0, none⟩ = some (.string ik.x) := cell_of_row wc _ 0 _ _ _ b0
      have c1 : wc.cell? ⟨w.heap.size, 1, none⟩ = some (.string ik.y) := cell_of_row wc _ 1 _ _ _ b0
      have c2 : wc.cell? ⟨w.heap.size, 2, none⟩ = some (.string ik.z) := cell_of_row wc _ 2 _ _ _ b0
      have c3 : wc.cell? ⟨w.heap.size, 3, none⟩ = some (.int .i64 ik.n) := cell_of_row wc _ 3 _ _ _ b0
      clear b0
      have HB2 := Hid.of hb2
      clear hb2
      cases A with
      | false =>
        go_wp2_with fail
        go_meet
        case rel => exact ⟨World.ownsRow_nil _ _ _ _, HB2.out⟩
      | true =>
        go_wp2_with (at_builtin; refine wpList_append_own _ rfl (.tmp 30) (.tmp 32) 47 rfl w1.heap.size 39 i0 _ 4 56 Try.underlying47 I0.out I1.out I2.out I3.out rfl (by decide) (.slice none 0 0) 0 [] rfl (World.ownsRow_nil _ _ _ _) ⟨wc.heap.size, 0, none⟩ 1 1 (keyList ik) rfl rfl (key_news _ _ _) (key_one _) (by simp [maxLen]) (by omega) (by have := HB2.out.size; simp; omega) ?_; intro v' w2 hown hgr _)
        have hbe : Below w1.heap.size w1 w2 := (HB2.out.alloc HB2.out.size _).grown hgr (by have := HB2.out.size; simp; omega) (by simp [Value.ownBlock])
        go_meet
        case rel => exact ⟨own_step (ks := []) (by simpa [kcells] using hown), hbe⟩
    case rest =>
      obtain ⟨hown, hb3⟩ := hcut
      clear hb2
      have HW := Hid.of hown
      have HB3 := Hid.of hb3
      have HO2 := Hid.of (HO1.out.kept hb3)
      clear hown hb3
      go_upto_region 4 with fail
      go_cut [49] from 14 (fun v wx => v = .bool B ∧ wx.ownsRow w1.heap.size 39 4 u13 (opt A ik).length (kcells (opt A ik)) ∧ Below w1.heap.size w1 wx)
      case first =>
        obtain ⟨ab, q2, _⟩ := HO2.out.a
        have f0 : wc.cell? ⟨bl, 1, none⟩ = some (.string L) := cell_of_row wc bl 1 _ _ _ HO2.out.crl
        have f1 : wc.cell? ⟨ba, 1, none⟩ = some (.string sa) := cell_of_row wc ba 1 _ _ _ q2
        have f2 : wc.cell? ⟨ba, 7, none⟩ = some (.bool false) := cell_of_row wc ba 7 _ _ _ q2
        have f3 : wc.cell? ⟨ba, 8, none⟩ = some (.int .i64 (-1)) := cell_of_row wc ba 8 _ _ _ q2
        have f4 : wc.cell? ⟨ba, 9, none⟩ = some (.slice aa la ca) := cell_of_row wc ba 9 _ _ _ q2
        have f5 : wc.cell? ⟨ba, 10, none⟩ = some (.bool false) := cell_of_row wc ba 10 _ _ _ q2
        clear q2
        by_cases hL : (L.toList == sa.toList) = true
        · go_region_held3 (fun w' => w'.cell? ⟨bl, 1, none⟩ = some (.string L) ∧ w'.cell? ⟨ba, 1, none⟩ = some (.string sa) ∧ w'.cell? ⟨ba, 7, none⟩ = some (.bool false) ∧ w'.cell? ⟨ba, 8, none⟩ = some (.int .i64 (-1)) ∧ w'.cell? ⟨ba, 9, none⟩ = some (.slice aa la ca) ∧ w'.cell? ⟨ba, 10, none⟩ = some (.bool false)) (go_keep) (first | (go_at_call 41; refine (allows_any aa la ca za _ ?_).mono ?_; (exact HO2.out.ra.kept (by exact (Below.refl _ _).drew)); rintro e w' ⟨rfl, hbb⟩; have g0 := keep_cell hbb f0; have g1 := keep_cell hbb f1; have g2 := keep_cell hbb f2; have g3 := keep_cell hbb f3; have g4 := keep_cell hbb f4; have g5 := keep_cell hbb f5))
          go_wp2_with fail
          have hbc : Below wc.heap.size wc w' := ((Below.refl _ _).drew).trans hbb
          go_meet
          case rel => exact ⟨by rw [hB.out, hL]; rfl, own_below HW.out hbc, HB3.out.trans (hbc.mono HB3.out.size)⟩
        · have hL' : (L.toList == sa.toList) = false := by simpa using hL
          go_quiet (fail)
          go_wp2_with fail
          go_meet
          case rel => exact ⟨by rw [hB.out, hL']; rfl, own_below HW.out (drewN_below _ _ _), HB3.out.trans (drewN_below _ _ _)⟩
      case rest =>
        obtain ⟨rfl, hown, hb4⟩ := hcut
        have HW4 := Hid.of hown
        have HB4 := Hid.of hb4
        have HO4 := Hid.of (HO1.out.kept hb4)
        clear hown hb4 HW HB3 HO2
        go_upto_if 49 with fail
        go_cut [13] from 14 (fun v wx => wx.ownsRow w1.heap.size 39 4 v (opt A ik ++ opt B ka).length (kcells (opt A ik ++ opt B ka)) ∧ Below w1.heap.size w1 wx)
        case first =>
          obtain ⟨ab, q2, _⟩ := HO4.out.a
          have f3 : wc.cell? ⟨ba, 3, none⟩ = some (.string ka.x) := cell_of_row wc ba 3 _ _ _ q2
          have f4 : wc.cell? ⟨ba, 4, none⟩ = some (.string ka.y) := cell_of_row wc ba 4 _ _ _ q2
          have f5 : wc.cell? ⟨ba, 5, none⟩ = some (.string ka.z) := cell_of_row wc ba 5 _ _ _ q2
          have f6 : wc.cell? ⟨ba, 6, none⟩ = some (.int .i64 ka.n) := cell_of_row wc ba 6 _ _ _ q2
          clear q2
          cases B with
          | false =>
            go_wp2_with fail
            go_meet
            case rel => exact ⟨own_same HW4.out, HB4.out⟩
          | true =>
            go_wp2_with (at_builtin; refine wpList_append_own _ rfl (.tmp 50) (.tmp 55) 47 rfl w1.heap.size 39 i0 _ 4 56 Try.underlying47 I0.out I1.out I2.out I3.out rfl (by decide) u13 (opt A ik).length (kcells (opt A ik)) rfl (HW4.out.alloc _) ⟨wc.heap.size, 0, none⟩ 1 1 (keyList ka) rfl rfl (key_news _ _ _) (key_one _) (opt_small _ _) (opt_bytes _ _) (by have := HB4.out.size; simp; omega) ?_; intro v' w2 hown hgr _)
            have hbe : Below w1.heap.size w1 w2 := (HB4.out.alloc HB4.out.size _).grown hgr (by have := HB4.out.size; simp; omega) (fun k hk => (HW4.out.lt k hk).1)
            go_meet
            case rel => exact ⟨own_step hown, hbe⟩
        case rest =>
          obtain ⟨hown, hb5⟩ := hcut
          have HW5 := Hid.of hown
          have HB5 := Hid.of hb5
          have HO5 := Hid.of (HO1.out.kept hb5)
          clear hown hb5 HW4 HB4 HO4
          go_upto_region 6 with fail
          go_cut [78] from 14 (fun v wx => v = .bool C ∧ wx.ownsRow w1.heap.size 39 4 u13 (opt A ik ++ opt B ka).length (kcells (opt A ik ++ opt B ka)) ∧ Below w1.heap.size w1 wx)
          case first =>
            obtain ⟨ab, q2, _⟩ := HO5.out.c
            have f0 : wc.cell? ⟨bl, 1, none⟩ = some (.string L) := cell_of_row wc bl 1 _ _ _ HO5.out.crl
            have f1 : wc.cell? ⟨bc, 1, none⟩ = some (.string cs) := cell_of_row wc bc 1 _ _ _ q2
            have f2 : wc.cell? ⟨bc, 7, none⟩ = some (.bool false) := cell_of_row wc bc 7 _ _ _ q2
            have f3 : wc.cell? ⟨bc, 8, none⟩ = some (.int .i64 (-1)) := cell_of_row wc bc 8 _ _ _ q2
            have f4 : wc.cell? ⟨bc, 9, none⟩ = some (.slice ac lc cc) := cell_of_row wc bc 9 _ _ _ q2
            have f5 : wc.cell? ⟨bc, 10, none⟩ = some (.bool false) := cell_of_row wc bc 10 _ _ _ q2
            have f6 : wc.cell? ⟨bs, 3, none⟩ = some (.bool d) := cell_of_row wc bs 3 _ _ _ HO5.out.scope
            clear q2
            cases d with
            | false =>
              go_quiet (fail)
              go_wp2_with fail
              go_meet
              case rel => exact ⟨by rw [hC.out]; rfl, own_below HW5.out (drewN_below _ _ _), HB5.out.trans (drewN_below _ _ _)⟩
            | true =>
              by_cases hL : (L.toList == cs.toList) = true
              · go_region_held3 (fun w' => w'.cell? ⟨bl, 1, none⟩ = some (.string L) ∧ w'.cell? ⟨bc, 1, none⟩ = some (.string cs) ∧ w'.cell? ⟨bc, 7, none⟩ = some (.bool false) ∧ w'.cell? ⟨bc, 8, none⟩ = some (.int .i64 (-1)) ∧ w'.cell? ⟨bc, 9, none⟩ = some (.slice ac lc cc) ∧ w'.cell? ⟨bc, 10, none⟩ = some (.bool false) ∧ w'.cell? ⟨bs, 3, none⟩ = some (.bool true)) (go_keep) (first | (go_at_call 41; refine (allows_any ac lc cc zc _ ?_).mono ?_; (exact HO5.out.rc.kept (by exact (Below.refl _ _).drew)); rintro e w' ⟨rfl, hbb⟩; have g0 := keep_cell hbb f0; have g1 := keep_cell hbb f1; have g2 := keep_cell hbb f2; have g3 := keep_cell hbb f3; have g4 := keep_cell hbb f4; have g5 := keep_cell hbb f5; have g6 := keep_cell hbb f6))
                go_wp2_with fail
                have hbc : Below wc.heap.size wc w' := ((Below.refl _ _).drew).trans hbb
                go_meet
                case rel => exact ⟨by rw [hC.out, hL]; rfl, own_below HW5.out hbc, HB5.out.trans (hbc.mono HB5.out.size)⟩
              · have hL' : (L.toList == cs.toList) = false := by simpa using hL
                go_quiet (fail)
                go_wp2_with fail
                go_meet
                case rel => exact ⟨by rw [hC.out, hL']; rfl, own_below HW5.out (drewN_below _ _ _), HB5.out.trans (drewN_below _ _ _)⟩
          case rest =>
            obtain ⟨rfl, hown, hb6⟩ := hcut
            have HW6 := Hid.of hown
            have HB6 := Hid.of hb6
            have HO6 := Hid.of (HO1.out.kept hb6)
            have b0 := heap_kept hbox.out hb6
            have c0 : wc.cell? ⟨w.heap.size, 0, none⟩ = some (.string ik.x) := cell_of_row wc _ 0 _ _ _ b0
            have c1 : wc.cell? ⟨w.heap.size, 1, none⟩ = some (.string ik.y) := cell_of_row wc _ 1 _ _ _ b0
            have c2 : wc.cell? ⟨w.heap.size, 2, none⟩ = some (.string ik.z) := cell_of_row wc _ 2 _ _ _ b0
            have c3 : wc.cell? ⟨w.heap.size, 3, none⟩ = some (.int .i64 ik.n) := cell_of_row wc _ 3 _ _ _ b0
            clear hown hb6 HW5 HB5 HO5 b0
            cases C with
            | false =>
              go_wp2_with fail
              go_ret
              exact ⟨u13, rfl, own_base hb1.out.size (own_same HW6.out), hb1.out.trans (HB6.out.mono hb1.out.size)⟩
            | true =>
              go_wp2_with fail
              refine (working_any bc cs ci kc ac lc cc ik _ HO6.out.c).mono ?_
              rintro e w3 ⟨rfl, hb7⟩
              have HW7 := Hid.of (own_below HW6.out hb7)
              have HB7 := Hid.of (HB6.out.trans (hb7.mono HB6.out.size))
              clear c0 c1 c2 c3 hb7 HW6 HB6 HO6
              go_wp2_with (at_builtin; refine wpList_append_own _ rfl (.tmp 79) (.tmp 83) 47 rfl w1.heap.size 39 i0 _ 4 56 Try.underlying47 I0.out I1.out I2.out I3.out rfl (by decide) u13 (opt A ik ++ opt B ka).length (kcells (opt A ik ++ opt B ka)) rfl (HW7.out.alloc _) ⟨w3.heap.size, 0, none⟩ 1 1 (keyList kc) rfl rfl (key_news _ _ _) (key_one _) (opt_small2 _ _ _ _) (opt_bytes2 _ _ _ _) (by have := HB7.out.size; simp; omega) ?_; intro v' w4 hown hgr _)
              have hbe : Below w1.heap.size w1 w4 := (HB7.out.alloc HB7.out.size _).grown hgr (by have := HB7.out.size; simp; omega) (fun k hk => (HW7.out.lt k hk).1)
              go_ret
              exact ⟨v', rfl, own_base hb1.out.size (own_step hown), hb1.out.trans (hbe.mono hb1.out.size)⟩

set_option maxRecDepth 100000 in
theorem zzown_any (bl bs bc bi ba : Nat) (L : ByteArray) (d : Bool) (cs ci si ii sa ia : ByteArray) (kc ki ka ik : PK) (ac : Option Addr) (lc cc : Nat) (zc : List Int) (ai : Option Addr) (li cpi : Nat) (zi : List Int) (aa : Option Addr) (la ca : Nat) (za : List Int) (A B C : Bool) (w : World)
    (hA : Hid (A = ((L.toList == ci.toList) && allowB ai zi))) (hB : Hid (B = ((L.toList == sa.toList) && allowB aa za))) (hC : Hid (C = (d && (L.toList == cs.toList) && allowB ac zc)))
    (h : Own w bl bs bc bi ba L d cs ci si ii sa ia kc ki ka ac lc cc zc ai li cpi zi aa la ca za) :
    Calls Try.prog 22 #[.pointer (some ⟨bl, 0, none⟩), .pointer (some ⟨bs, 0, none⟩), .pointer (some ⟨bc, 0, none⟩), .pointer (some ⟨bi, 0, none⟩), .agg #[.string ik.x, .string ik.y, .string ik.z, .int .i64 ik.n], .pointer (some ⟨ba, 0, none⟩)] w
      fun e w' => ∃ v, e = .returned v ∧ w'.ownsRow w.heap.size 39 4 v (opt A ik ++ opt B ka ++ opt C kc).length (kcells (opt A ik ++ opt B ka ++ opt C kc)) ∧ Below w.heap.size w w' := by
  have hb1 : Below w.heap.size w (w.alloc (.cells #[.string ik.x, .string ik.y, .string ik.z, .int .i64 ik.n] 39)) := (Below.refl _ _).alloc (Nat.le_refl _) _
  have hc := Hid.of (own_any bl bs bc bi ba L d cs ci si ii sa ia kc ki ka ik ac lc cc zc ai li cpi zi aa la ca za A B C _ hA hB hC (h.kept hb1))
  have HB1 := Hid.of hb1
  clear h hb1
  go_enter Try.func22, Try.ntmps22
  go_wp2_with fail
  refine hc.out.mono ?_
  rintro e w2 ⟨v, rfl, hown, hb2⟩
  have hb3 : Below w.heap.size w w2 := HB1.out.trans (hb2.mono (by simp))
  have hown2 := own_base (B' := w.heap.size) (by simp) hown
  clear hc hown hb2
  go_wp2_with fail
  go_ret
  exact ⟨v, rfl, hown2, hb3⟩

end Go.Proofs.Qxb6618606a
