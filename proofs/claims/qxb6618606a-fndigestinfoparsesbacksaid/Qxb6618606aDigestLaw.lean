import Derived.Test.Qxb6618606aParse
import Derived.Deep.DeepCutAuto
namespace Go.Proofs.Qxb6618606a
open Go.RowKit

theorem bytes9_any (oid : ByteArray) (a1 : Option Addr) (l1 c1 : Nat) (a2 : Option Addr) (l2 c2 : Nat) (w : World) :
    Calls Try.prog 9 #[.string oid, .slice a1 l1 c1, .slice a2 l2 c2] w fun e w' => ∃ b, e = .returned (.bool b) ∧ w' = w := by
  go_enter Try.func9, Try.ntmps9
  go_wp2
  all_goals go_ret
  all_goals exact ⟨_, rfl, rfl⟩

theorem digest_out (oid : ByteArray) (a1 : Option Addr) (l1 c1 : Nat) (a2 : Option Addr) (l2 c2 : Nat) (w : World) (h : 119 < oid.size + l1 ∨ 119 < oid.size + l2) :
    Calls Try.prog 3 #[.string oid, .slice a1 l1 c1, .slice a2 l2 c2] w fun e w' => e = .returned (.bool true) ∧ Below w.heap.size w w' := by
  rcases h with h | h
  all_goals
    go_enter Try.func3, Try.ntmps3
    go_wp2_with fail
    refine (bytes9_any oid a1 l1 c1 a2 l2 c2 w).mono ?_
    rintro e w1 ⟨bb, rfl, rfl⟩
    cases bb
    · go_wp2_with fail
      go_ret
      exact ⟨rfl, Below.refl _ _⟩
    · go_wp2_with fail
      all_goals go_ret
      all_goals exact ⟨rfl, Below.refl _ _⟩

theorem rd_made {w : World} {g n : Nat} {zs : List Int} (hg : w.heap[g]? = some (.cells (splice (List.replicate n (Value.int .u8 0)) 0 (zs.map (Value.int .u8))).toArray 5 (0, 0))) (hn : zs.length = n) (hm : n ≤ maxLen) (hz : ∀ z ∈ zs, 0 ≤ z ∧ z ≤ 255) :
    Rd w (some ⟨g, 0, none⟩) n n zs := by
  refine rd_block hg ?_ hn (Nat.le_refl _) hm hz
  simp [splice, hn]
  exact List.take_of_length_le (by simp [hn])

theorem made_block {w : World} {B g n : Nat} (h : w.ownsRow B 5 1 (.slice (some ⟨g, 0, none⟩) n n) n (madeCells (Value.int .u8 0).cells (n * 1)).toList) :
    w.heap[g]? = some (.cells (List.replicate n (Value.int .u8 0)).toArray 5 (0, 0)) := by
  rcases h.2 with ⟨h', _⟩ | ⟨g', cap, cur, h', _, hg, _, _, hs, ht⟩
  · simp at h'
  · simp only [Value.slice.injEq, Option.some.injEq, Addr.mk.injEq, and_true, true_and] at h'
    obtain ⟨rfl, rfl⟩ := h'
    rw [hg]
    have e : cur.toList = List.replicate n (Value.int .u8 0) := by
      rw [List.take_of_length_le (by simp [hs])] at ht
      rw [ht, Nat.mul_one]
      exact toList_madeCells_one _ _
    rw [← e]

theorem add_block (x : Addr) (j : Nat) : (x.add j).block = x.block := by
  unfold Addr.add
  split <;> rfl

theorem Try.one5 : (Try.prog.info? 5).map (·.size) = some 1 := by kernel_rfl

theorem parse_len (oid : ByteArray) (b cap : Nat) (zs : List Int) (len : Nat) (w : World) (hrd : Rd w (some ⟨b, 0, none⟩) (oid.size + len + 10) cap (infoOf (nums oid) zs)) (hl : zs.length = len) (hsum : oid.size + len ≤ 119) :
    Calls Try.prog 11 #[.slice (some ⟨b, 0, none⟩) (oid.size + len + 10) cap] w fun e w' => ∃ a' c', e = .returned (.tuple #[.string oid, .slice a' len c', .bool true]) ∧ Rd w a' len c' zs ∧ ∃ n, w' = w.drewN n := by
  subst hl
  exact parse_any oid b cap zs (oid.size + zs.length + 10) (Nat.le_refl _) (Nat.le_refl _) w hrd hsum

theorem info_inj (o z1 z2 : List Int) : infoOf o z1 = infoOf o z2 ↔ z1 = z2 := by
  constructor
  · intro h
    have e := congrArg (List.drop (o.length + 10)) h
    have d : ∀ z, (infoOf o z).drop (o.length + 10) = z := by
      intro z
      have hl : ([48, (o.length : Int) + 6 + 2 + (z.length : Int)] ++ algOf o ++ [4, (z.length : Int)]).length = o.length + 10 := by simp [algOf_len]
      unfold infoOf
      rw [← hl]
      exact List.drop_left
    rw [d, d] at e
    exact e
  · intro h
    rw [h]

theorem info_dec (o z1 z2 : List Int) : decide (infoOf o z1 = infoOf o z2) = decide (z1 = z2) := decide_eq_decide.2 (info_inj o z1 z2)

set_option maxRecDepth 100000 in
set_option maxHeartbeats 1000000 in
theorem digest_in (oid : ByteArray) (a1 : Option Addr) (l1 c1 : Nat) (z1 : List Int) (a2 : Option Addr) (l2 c2 : Nat) (z2 : List Int) (w : World) (r1 : Rd w a1 l1 c1 z1) (r2 : Rd w a2 l2 c2 z2) (h1 : oid.size + l1 ≤ 119) (h2 : oid.size + l2 ≤ 119) :
    Calls Try.prog 3 #[.string oid, .slice a1 l1 c1, .slice a2 l2 c2] w fun e w' => e = .returned (.bool true) ∧ Below w.heap.size w w' := by
  obtain ⟨i0, hi, hz0, hz1, hz2⟩ := info_parts Try.info5
  have I0 : Hid (Try.prog.info? 5 = some i0) := hi
  have I1 : Hid (i0.zero = some (.int .u8 0)) := hz0
  have I2 : Hid (i0.size = 1) := hz1
  have I3 : Hid (i0.bytes = 1) := hz2
  clear hi hz0 hz1 hz2
  have R1 := Hid.mk' r1
  have R2 := Hid.mk' r2
  clear r1 r2
  go_enter Try.func3, Try.ntmps3
  go_wp2_with fail
  refine (bytes9_any oid a1 l1 c1 a2 l2 c2 w).mono ?_
  rintro e w1 ⟨bb, rfl, hw1⟩
  subst hw1
  cases bb
  · go_wp2_with fail
    go_ret
    exact ⟨rfl, Below.refl _ _⟩
  go_upto_if 50 with fail
  go_cut [1] from 17 (fun v wx => ∃ a c, v = .slice a l1 c ∧ Rd wx a l1 c z1 ∧ Below w1.heap.size w1 wx)
  case first =>
    cases a1 with
    | none =>
      go_wp2_with fail
      go_meet
      case rel => exact ⟨_, _, rfl, R1.out, Below.refl _ _⟩
    | some x =>
      obtain ⟨X1, hX1⟩ : ∃ X1, X1 = z1.map (Value.int .u8) := ⟨_, rfl⟩
      have HX1 := Hid.mk' hX1
      have hXl : X1.length ≤ l1 ∧ l1 ≤ X1.length := by rw [hX1, List.length_map, R1.out.len_eq]; exact ⟨Nat.le_refl _, Nat.le_refl _⟩
      have hXc : Hid (∀ j v, X1[j]? = some v → w1.cell? (x.add j) = some v) := by rw [hX1]; exact rd_news R1.out x rfl
      have hXo : Hid (∀ v ∈ X1, v.oneCell' = true) := by rw [hX1]; exact ints_oneCell _ _
      have hxb : Hid (0 < l1 → x.block < w1.heap.size) := fun hp => by
        obtain ⟨b, off, e, hlt, _⟩ := R1.out.cells hp
        cases e
        exact hlt
      clear hX1
      go_wp2_with (first | (at_make; refine wpList_make_full _ rfl (.tmp 52) (.tmp 52) 22 rfl w1.heap.size 5 i0 (.int .u8 0) 1 Try.underlying22 I0.out I1.out I2.out .i64 .i64 l1 l1 l1 rfl rfl rfl rfl (by rw [I3.out]; omega) (by simp only [maxLen]; omega) (Nat.le_refl _) ?_; intro w2 hown hgr; have hbl := Hid.mk' (made_block hown); have hbe := Hid.mk' ((Below.refl _ _).grown hgr (Nat.le_refl _) (by simp)); clear hown hgr) | (refine wpList_copy_splice rfl (.tmp 54) (.tmp 55) 22 22 rfl 5 Try.underlying22 Try.one5 _ _ _ _ _ _ rfl rfl w1.heap.size 0 (List.replicate l1 (Value.int .u8 0)) 5 hbl.out X1 ?_ ?_ ?_ hXo.out w1.heap.size w1 hbe.out (Nat.le_refl _) ?_))
      · simp; omega
      · intro hp j v hj
        rw [hbe.out.cell (p := x.add j) (by rw [add_block]; exact hxb.out (by omega))]
        exact hXc.out j v hj
      · simp; omega
      · intro w3 HG hB
        have hrd := rd_made (zs := z1) (by rw [← HX1.out]; exact HG.out) R1.out.len_eq (by simp only [maxLen]; omega) R1.out.byte
        go_wp2_with fail
        go_meet
        case rel => exact ⟨_, _, rfl, hrd, hB⟩
  case rest =>
    obtain ⟨a1', c1', rfl, r1', hb1⟩ := hcut
    have R1' := Hid.mk' r1'
    have HB1 := Hid.mk' hb1
    have R2' := Hid.mk' (R2.out.kept hb1)
    clear r1' hb1 R1 R2
    go_upto_if 59 with fail
    go_cut [2] from 17 (fun v wx => ∃ a c, v = .slice a l2 c ∧ Rd wx a l2 c z2 ∧ Rd wx a1' l1 c1' z1 ∧ Below w1.heap.size w1 wx)
    case first =>
      cases a2 with
      | none =>
        go_wp2_with fail
        go_meet
        case rel => exact ⟨_, _, rfl, R2'.out, R1'.out, HB1.out⟩
      | some x =>
        obtain ⟨X1, hX1⟩ : ∃ X1, X1 = z2.map (Value.int .u8) := ⟨_, rfl⟩
        have HX1 := Hid.mk' hX1
        have hXl : X1.length ≤ l2 ∧ l2 ≤ X1.length := by rw [hX1, List.length_map, R2'.out.len_eq]; exact ⟨Nat.le_refl _, Nat.le_refl _⟩
        have hXc : Hid (∀ j v, X1[j]? = some v → wc.cell? (x.add j) = some v) := by rw [hX1]; exact rd_news R2'.out x rfl
        have hXo : Hid (∀ v ∈ X1, v.oneCell' = true) := by rw [hX1]; exact ints_oneCell _ _
        have hxb : Hid (0 < l2 → x.block < wc.heap.size) := fun hp => by
          obtain ⟨b, off, e, hlt, _⟩ := R2'.out.cells hp
          cases e
          exact hlt
        clear hX1
        go_wp2_with (first | (at_make; refine wpList_make_full _ rfl (.tmp 61) (.tmp 61) 22 rfl wc.heap.size 5 i0 (.int .u8 0) 1 Try.underlying22 I0.out I1.out I2.out .i64 .i64 l2 l2 l2 rfl rfl rfl rfl (by rw [I3.out]; omega) (by simp only [maxLen]; omega) (Nat.le_refl _) ?_; intro w2 hown hgr; have hbl := Hid.mk' (made_block hown); have hbe := Hid.mk' ((Below.refl _ _).grown hgr (Nat.le_refl _) (by simp)); clear hown hgr) | (refine wpList_copy_splice rfl (.tmp 63) (.tmp 64) 22 22 rfl 5 Try.underlying22 Try.one5 _ _ _ _ _ _ rfl rfl wc.heap.size 0 (List.replicate l2 (Value.int .u8 0)) 5 hbl.out X1 ?_ ?_ ?_ hXo.out wc.heap.size wc hbe.out (Nat.le_refl _) ?_))
        · simp; omega
        · intro hp j v hj
          rw [hbe.out.cell (p := x.add j) (by rw [add_block]; exact hxb.out (by omega))]
          exact hXc.out j v hj
        · simp; omega
        · intro w3 HG hB
          have hrd := rd_made (zs := z2) (by rw [← HX1.out]; exact HG.out) R2'.out.len_eq (by simp only [maxLen]; omega) R2'.out.byte
          have hrd1 := R1'.out.kept hB
          have hB2 : Below w1.heap.size w1 w3 := HB1.out.trans (hB.mono HB1.out.size)
          clear hB
          go_wp2_with fail
          go_meet
          case rel => exact ⟨_, _, rfl, hrd, hrd1, hB2⟩
    case rest =>
      obtain ⟨a2', c2', rfl, r2', r1', hb1⟩ := hcut
      clear R1' R2' HB1
      go_wp2_with fail
      refine (zzdigest_any oid a1' l1 c1' z1 _ r1' h1).mono ?_
      rintro e w2 ⟨g1, k1, rfl, q1, hg1, hb2⟩
      have r1 := r1'.kept hb2
      have r2 := r2'.kept hb2
      have hb3 : Below w1.heap.size w1 w2 := hb1.trans (hb2.mono hb1.size)
      clear r1' r2' hb1 hb2 hg1
      go_wp2_with fail
      refine (zzdigest_any oid a2' l2 c2' z2 _ r2 h2).mono ?_
      rintro e w3 ⟨g2, k2, rfl, q2, hg2, hb4⟩
      replace r1 := r1.kept hb4
      replace r2 := r2.kept hb4
      replace q1 := q1.kept hb4
      have hb5 : Below w1.heap.size w1 w3 := hb3.trans (hb4.mono hb3.size)
      clear hb3 hb4 hg2
      go_wp2_with fail
      refine (parse_len oid g1 k1 z1 l1 _ q1 r1.len_eq h1).mono ?_
      rintro e w4 ⟨a3, c3, rfl, s1, n1, rfl⟩
      replace r1 := r1.drewN n1
      replace r2 := r2.drewN n1
      replace q1 := q1.drewN n1
      replace q2 := q2.drewN n1
      replace s1 := s1.drewN n1
      replace hb5 := hb5.trans (drewN_below _ _ n1)
      generalize w3.drewN n1 = w4 at *
      go_wp2_with fail
      refine (parse_len oid g2 k2 z2 l2 _ q2 r2.len_eq h2).mono ?_
      rintro e w5 ⟨a4, c4, rfl, s2, n2, rfl⟩
      replace r1 := r1.drewN n2
      replace r2 := r2.drewN n2
      replace q1 := q1.drewN n2
      replace q2 := q2.drewN n2
      replace s1 := s1.drewN n2
      replace s2 := s2.drewN n2
      replace hb5 := hb5.trans (drewN_below _ _ n2)
      generalize w4.drewN n2 = w5 at *
      go_wp2_with fail
      have e1 := equal_any a3 a1' l1 c3 l1 c1' z1 z1 w5 s1 r1
      rw [decide_eq_true rfl] at e1
      refine e1.mono ?_
      rintro e w6 ⟨rfl, n3, rfl⟩
      clear e1
      replace r1 := r1.drewN n3
      replace r2 := r2.drewN n3
      replace q1 := q1.drewN n3
      replace q2 := q2.drewN n3
      replace s2 := s2.drewN n3
      replace hb5 := hb5.trans (drewN_below _ _ n3)
      clear s1
      generalize w5.drewN n3 = w6 at *
      go_wp2_with fail
      have e2 := equal_any a4 a2' l2 c4 l2 c2' z2 z2 w6 s2 r2
      rw [decide_eq_true rfl] at e2
      refine e2.mono ?_
      rintro e w7 ⟨rfl, n4, rfl⟩
      clear e2
      replace r1 := r1.drewN n4
      replace r2 := r2.drewN n4
      replace q1 := q1.drewN n4
      replace q2 := q2.drewN n4
      replace hb5 := hb5.trans (drewN_below _ _ n4)
      clear s2
      generalize w6.drewN n4 = w7 at *
      go_wp2_with fail
      refine (equal_any (some ⟨g1, 0, none⟩) (some ⟨g2, 0, none⟩) (oid.size + l1 + 10) k1 (oid.size + l2 + 10) k2 _ _ w7 q1 q2).mono ?_
      rintro e w8 ⟨rfl, n5, rfl⟩
      replace r1 := r1.drewN n5
      replace r2 := r2.drewN n5
      replace hb5 := hb5.trans (drewN_below _ _ n5)
      clear q1 q2
      generalize w7.drewN n5 = w8 at *
      have hii : Hid (decide (infoOf (nums oid) z1 = infoOf (nums oid) z2) = decide (z1 = z2)) := info_dec (nums oid) z1 z2
      generalize decide (infoOf (nums oid) z1 = infoOf (nums oid) z2) = d1 at *
      go_wp2_with fail
      refine (equal_any a1' a2' l1 c1' l2 c2' z1 z2 w8 r1 r2).mono ?_
      rintro e w9 ⟨rfl, n6, rfl⟩
      replace hb5 := hb5.trans (drewN_below _ _ n6)
      generalize w8.drewN n6 = w9 at *
      generalize decide (z1 = z2) = d2 at *
      go_wp2_with fail
      go_ret
      refine ⟨?_, hb5⟩
      have he := hii.out
      subst he
      simp

theorem digest_law (oid : ByteArray) (a1 : Option Addr) (l1 c1 : Nat) (z1 : List Int) (a2 : Option Addr) (l2 c2 : Nat) (z2 : List Int) (w : World) (r1 : Rd w a1 l1 c1 z1) (r2 : Rd w a2 l2 c2 z2) :
    Calls Try.prog 3 #[.string oid, .slice a1 l1 c1, .slice a2 l2 c2] w fun e w' => e = .returned (.bool true) ∧ Below w.heap.size w w' := by
  by_cases h1 : oid.size + l1 ≤ 119
  · by_cases h2 : oid.size + l2 ≤ 119
    · exact digest_in oid a1 l1 c1 z1 a2 l2 c2 z2 w r1 r2 h1 h2
    · exact digest_out oid a1 l1 c1 a2 l2 c2 w (.inr (by omega))
  · exact digest_out oid a1 l1 c1 a2 l2 c2 w (.inl (by omega))

end Go.Proofs.Qxb6618606a
