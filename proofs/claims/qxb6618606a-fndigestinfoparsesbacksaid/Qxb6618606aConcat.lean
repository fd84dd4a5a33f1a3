import Derived.Test.Qxb6618606aGrow
namespace Go.Proofs.Qxb6618606a
open Go.RowKit

/-- One of the slices that Concat is handed: where it lies, how long it is, its bytes. -/
structure Part where
  a : Option Addr
  len : Nat
  cap : Nat
  zs : List Int
def Part.val (p : Part) : Value := .slice p.a p.len p.cap
def Part.ok (w : World) (p : Part) : Prop := Rd w p.a p.len p.cap p.zs
def cat (vs : List Part) (k : Nat) : List Int := (vs.take k).flatMap Part.zs

theorem cat_succ {vs : List Part} {k : Nat} {p : Part} (h : vs[k]? = some p) : cat vs (k + 1) = cat vs k ++ p.zs := by
  obtain ⟨hk, e⟩ := List.getElem?_eq_some_iff.1 h
  unfold cat
  rw [List.take_succ_eq_append_getElem hk, List.flatMap_append, e]
  simp

theorem cat_le (vs : List Part) (k : Nat) : (cat vs k).length ≤ (cat vs vs.length).length := by
  unfold cat
  rw [List.take_length]
  conv => rhs; rw [← List.take_append_drop k vs]
  rw [List.flatMap_append, List.length_append]
  omega

theorem own_rd {w : World} {B g n cap : Nat} {zs : List Int} (h : w.ownsRow B 5 1 (.slice (some ⟨g, 0, none⟩) n cap) n (zs.map (Value.int .u8))) (hz : ∀ z ∈ zs, 0 ≤ z ∧ z ≤ 255) : Rd w (some ⟨g, 0, none⟩) n cap zs := by
  have hlen : zs.length = n := by simpa using h.1
  have hlt := h.lt g rfl
  have hfit : n ≤ cap ∧ cap ≤ maxLen := by
    rcases h.2 with ⟨h', _⟩ | ⟨g', cap', cur, h', _, _, h1, h2, _⟩
    · simp at h'
    · simp only [Value.slice.injEq, true_and] at h'
      obtain ⟨_, rfl⟩ := h'
      exact ⟨h1, h2⟩
  refine ⟨hlen, hfit.1, hfit.2, by simp, fun _ => ⟨g, 0, rfl, hlt.2, fun i hi => ?_⟩, hz⟩
  rw [Nat.zero_add, h.cellAt i (by omega)]
  simp [List.getD, show i < zs.length by omega]

theorem rd_news {w : World} {a : Option Addr} {len cap : Nat} {zs : List Int} (h : Rd w a len cap zs) : ∀ ad, a = some ad → ∀ j u, (zs.map (Value.int .u8))[j]? = some u → w.cell? (ad.add j) = some u := by
  intro ad had j u hu
  have hj : j < zs.length := by simpa using (List.getElem?_eq_some_iff.1 hu).1
  obtain ⟨b, off, e, _, hc⟩ := h.cells (by have := h.len_eq; omega)
  rw [e] at had
  cases had
  rw [Addr.add_lit, hc j (by rw [← h.len_eq]; exact hj)]
  rw [← hu]
  simp [List.getD, hj]

theorem rd_none {w : World} {a : Option Addr} {len cap : Nat} {zs : List Int} (h : Rd w a len cap zs) : a = none → len = 0 ∧ cap = 0 := by
  intro e
  have := h.nil e
  have := h.le_cap
  omega

theorem own_cat {w : World} {B g cap k : Nat} {vs : List Part} {pl : Nat} {pz : List Int} (h : w.ownsRow B 5 1 (.slice (some ⟨g, 0, none⟩) ((cat vs k).length + pl) cap) ((cat vs k).length + pl) ((cat vs k).map (Value.int .u8) ++ pz.map (Value.int .u8)))
    (hs : cat vs (k + 1) = cat vs k ++ pz) (hl : pz.length = pl) : w.ownsRow B 5 1 (.slice (some ⟨g, 0, none⟩) (cat vs (k + 1)).length cap) (cat vs (k + 1)).length ((cat vs (k + 1)).map (Value.int .u8)) := by
  rw [hs, List.length_append, hl, List.map_append]
  exact h

theorem cat_byte {w : World} {vs : List Part} (hok : ∀ p ∈ vs, p.ok w) (k : Nat) : ∀ z ∈ cat vs k, 0 ≤ z ∧ z ≤ 255 := by
  intro z hz
  obtain ⟨p, hp, hz⟩ := List.mem_flatMap.1 hz
  exact (hok p (List.mem_of_mem_take hp)).byte z hz

set_option maxRecDepth 100000 in
set_option maxHeartbeats 1000000 in
theorem concat_any (vs : List Part) (bo : Nat) (w : World) (hcell : ∀ j p, vs[j]? = some p → w.cell? ⟨bo, j, none⟩ = some p.val) (hbo : bo < w.heap.size)
    (hok : ∀ p ∈ vs, p.ok w) (h0 : 0 < (cat vs vs.length).length) (hmax : (cat vs vs.length).length ≤ 65536) (hvs : vs.length ≤ 65536) :
    Calls Try.prog 40 #[.slice (some ⟨bo, 0, none⟩) vs.length vs.length] w fun e w' => ∃ g cap, e = .returned (.slice (some ⟨g, 0, none⟩) (cat vs vs.length).length cap) ∧
      Rd w' (some ⟨g, 0, none⟩) (cat vs vs.length).length cap (cat vs vs.length) ∧ w.heap.size ≤ g ∧ Below w.heap.size w w' := by
  obtain ⟨i0, hi, hz0, hz1, hz2⟩ := info_parts Try.info5
  have I0 : Hid (Try.prog.info? 5 = some i0) := hi
  have I2 : Hid (i0.size = 1) := hz1
  clear hi hz0 hz1 hz2
  have HC : Hid (∀ j p, vs[j]? = some p → w.cell? ⟨bo, j, none⟩ = some p.val) := hcell
  have HO : Hid (∀ p ∈ vs, p.ok w) := hok
  clear hcell hok
  obtain ⟨N, hN⟩ : ∃ N, N = (cat vs vs.length).length := ⟨_, rfl⟩
  obtain ⟨m, hm⟩ : ∃ m, m = vs.length := ⟨_, rfl⟩
  rw [← hN] at h0 hmax
  rw [← hm] at hvs
  rw [← hN, ← hm]
  have HN : Hid (N = (cat vs vs.length).length) := hN
  have HM : Hid (m = vs.length) := hm
  clear hN hm
  go_enter Try.func40, Try.ntmps40
  go_wp2_with fail
  go_loop [3, 11] (fun s i => ∃ k : Nat, k ≤ m ∧ i = .int .i64 k ∧ s = .int .i64 ((cat vs k).length : Nat)) (fun _ i => m - (intOf i).toNat)
  case atStart => exact ⟨0, Nat.zero_le _, rfl, rfl⟩
  case round =>
    obtain ⟨k, hk, rfl, rfl⟩ := hrel
    have hle : (cat vs k).length ≤ N := by rw [HN.out]; exact cat_le vs k
    by_cases hlt : k < m
    · obtain ⟨p, hp⟩ : ∃ p, vs[k]? = some p := ⟨_, List.getElem?_eq_getElem (by rw [← HM.out]; exact hlt)⟩
      have hrd := HO.out p (List.mem_of_getElem? hp)
      have hcl := HC.out k p hp
      have hsl := hrd.len_eq
      have hsu := cat_succ hp
      have hle2 : (cat vs (k + 1)).length ≤ N := by rw [HN.out]; exact cat_le vs (k + 1)
      obtain ⟨pa, pl, pc, pz⟩ := p
      simp only [Part.val] at hcl
      have hs' : (cat vs (k + 1)).length = (cat vs k).length + pl := by rw [hsu, List.length_append]; simp only at hsl; rw [hsl]
      have HS : Hid ((cat vs (k + 1)).length = (cat vs k).length + pl) := hs'
      have hb : (cat vs k).length + pl ≤ N := by rw [← HS.out]; exact hle2
      clear hrd hsl hsu hp hle2 hs'
      go_wp2_with fail
      go_round
      case rel => exact ⟨k + 1, by omega, by go_num, by rw [HS.out]; go_num⟩
      case measure => simp [intOf]; omega
    · have hkm : k = m := by omega
      have hkN : (cat vs k).length = N := by rw [HN.out, hkm, HM.out]
      rw [hkN] at hle
      rw [hkN]
      clear hkN hkm
      go_wp2_with fail
      refine (grow_any N h0 hmax w).mono ?_
      rintro e w1 ⟨cap, rfl, hc1, hc2, hown, hgr, hsz⟩
      have hb1 : Below w.heap.size w w1 := (Below.refl _ _).grown hgr (Nat.le_refl _) (by simp)
      go_wp2_with fail
      go_loopw [6, 27] (fun v i wr => ∃ k : Nat, k ≤ m ∧ i = .int .i64 k ∧ v = .slice (some ⟨w.heap.size, 0, none⟩) (cat vs k).length cap ∧ wr.ownsRow w.heap.size 5 1 (.slice (some ⟨w.heap.size, 0, none⟩) (cat vs k).length cap) (cat vs k).length ((cat vs k).map (Value.int .u8)) ∧ Below w.heap.size w wr) (fun _ i _ => m - (intOf i).toNat)
      case atStart => exact ⟨0, Nat.zero_le _, rfl, rfl, hown, hb1⟩
      case round =>
        obtain ⟨k, hk, rfl, rfl, hown2, hb2⟩ := hrel
        clear hown hgr hsz hb1
        by_cases hlt : k < m
        · obtain ⟨p, hp⟩ : ∃ p, vs[k]? = some p := ⟨_, List.getElem?_eq_getElem (by rw [← HM.out]; exact hlt)⟩
          have hrd := HO.out p (List.mem_of_getElem? hp)
          have hcl := HC.out k p hp
          have hsl := hrd.len_eq
          have hsu := cat_succ hp
          have hle2 : (cat vs (k + 1)).length ≤ N := by rw [HN.out]; exact cat_le vs (k + 1)
          rw [hsu, List.length_append, hsl] at hle2
          rw [← hb2.cell (p := ⟨bo, k, none⟩) hbo] at hcl
          obtain ⟨pa, pl, pc, pz⟩ := p
          simp only [Part.val] at hcl
          simp only at hsu hsl hle2
          have hrd2 : Rd wr pa pl pc pz := Rd.kept hrd hb2
          have HSU : Hid (cat vs (k + 1) = cat vs k ++ pz) := hsu
          have HSL : Hid (pz.length = pl) := hsl
          clear hrd hsu hp hsl
          go_wp2_with (at_builtin; refine wpList_append_fits_any _ rfl (.tmp 31) (.tmp 32) 22 rfl w.heap.size 5 i0 1 Try.underlying22 I0.out I2.out w.heap.size (cat vs k).length cap _ rfl hown2 pa pl pc (pz.map (Value.int .u8)) rfl (by simpa using HSL.out) (rd_none hrd2) (rd_news hrd2) (ints_oneCell _ _) (by omega) ?_; intro w2 hown3 hgr3)
          have hb3 : Below w.heap.size w w2 := hb2.grown hgr3 hb2.size (by simp)
          have hown4 := own_cat hown3 HSU.out HSL.out
          have hs' : (cat vs (k + 1)).length = (cat vs k).length + pl := by rw [HSU.out, List.length_append, HSL.out]
          go_roundw
          case rel => exact ⟨k + 1, by omega, by go_num, by rw [hs'], hown4, hb3⟩
          case measure => simp [intOf]; omega
        · have hkm : k = m := by omega
          have hkN : (cat vs k).length = N := by rw [HN.out, hkm, HM.out]
          have hz := cat_byte HO.out k
          have hrd := own_rd hown2 hz
          rw [hkN] at hrd
          rw [hkN]
          clear hown2 hkN
          go_wp2_with fail
          go_ret
          rw [hkm] at hrd
          exact ⟨w.heap.size, cap, rfl, hrd, Nat.le_refl _, hb2⟩
end Go.Proofs.Qxb6618606a
