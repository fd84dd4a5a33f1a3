import Derived.Test.Qxb6618606aConcat
import Derived.Laws.IdiomStrings
namespace Go.Proofs.Qxb6618606a
open Go.RowKit

/-- The bytes of a string, as numbers. -/
def nums (s : ByteArray) : List Int := s.data.toList.map fun b => (b.toNat : Int)
theorem nums_len (s : ByteArray) : (nums s).length = s.size := by simp [nums]
theorem nums_byte (s : ByteArray) : ∀ z ∈ nums s, 0 ≤ z ∧ z ≤ 255 := by
  intro z hz
  obtain ⟨b, _, rfl⟩ := List.mem_map.1 hz
  have := b.toNat_lt
  omega

/-- The AlgorithmIdentifier and the DigestInfo as lists of bytes. -/
def algOf (o : List Int) : List Int := [48, (o.length : Int) + 4, 6, (o.length : Int)] ++ o ++ [5, 0]
def infoOf (o z : List Int) : List Int := [48, (o.length : Int) + 6 + 2 + (z.length : Int)] ++ algOf o ++ [4, (z.length : Int)] ++ z
theorem algOf_len (o : List Int) : (algOf o).length = o.length + 6 := by simp [algOf]
theorem infoOf_len (o z : List Int) : (infoOf o z).length = o.length + z.length + 10 := by simp [infoOf, algOf_len]; omega

theorem rd_block {W : World} {b n cap : Nat} {e : TypeId} {arr : Array Value} {fr : Nat × Nat} {zs : List Int} (hg : W.heap[b]? = some (.cells arr e fr)) (ht : arr.toList.take n = zs.map (Value.int .u8))
    (hn : zs.length = n) (h1 : n ≤ cap) (h2 : cap ≤ maxLen) (hz : ∀ z ∈ zs, 0 ≤ z ∧ z ≤ 255) : Rd W (some ⟨b, 0, none⟩) n cap zs := by
  refine ⟨hn, h1, h2, by simp, fun _ => ⟨b, 0, rfl, (Array.getElem?_eq_some_iff.1 hg).1, fun i hi => ?_⟩, hz⟩
  rw [Nat.zero_add, cell_of_row W b i arr e fr hg]
  have hx : (arr.toList.take n)[i]? = some (.int .u8 (zs.getD i 0)) := by
    rw [ht]
    simp [List.getD, show i < zs.length by omega]
  rw [List.getElem?_take, if_pos hi] at hx
  simpa using hx

theorem alloc_new {w : World} {o : Obj} {k : Nat} (h : k = w.heap.size) : (w.alloc o).heap[k]? = some o := by
  subst h
  show (w.heap.push o)[w.heap.size]? = _
  simp
theorem alloc_old {w : World} {o : Obj} {k : Nat} (h : k < w.heap.size) : (w.alloc o).heap[k]? = w.heap[k]? := Below.heap_alloc w o k h
theorem drew_heap (w : World) : w.drew.heap = w.heap := rfl

/-- The world at the first call of Concat. -/
theorem world1 (w : World) (oid : ByteArray) (cap : Nat) (fr : Nat × Nat) (hc : oid.size ≤ cap) (hm : cap ≤ maxLen) (hs : oid.size ≤ 119) :
    let W := ((((w.alloc (.cells (bytesRow oid cap) 5 fr)).alloc (.cells #[.int .u8 48, .int .u8 ((oid.size : Int) + 4), .int .u8 6, .int .u8 (oid.size : Int)] 5)).alloc (.cells #[.int .u8 5, .int .u8 0] 5)).alloc
        (.cells #[.slice (some ⟨w.heap.size + 1, 0, none⟩) 4 4, .slice (some ⟨w.heap.size, 0, none⟩) oid.size cap, .slice (some ⟨w.heap.size + 1 + 1, 0, none⟩) 2 2] 22)).drew
    let vs : List Part := [⟨some ⟨w.heap.size + 1, 0, none⟩, 4, 4, [48, (oid.size : Int) + 4, 6, (oid.size : Int)]⟩, ⟨some ⟨w.heap.size, 0, none⟩, oid.size, cap, nums oid⟩, ⟨some ⟨w.heap.size + 1 + 1, 0, none⟩, 2, 2, [5, 0]⟩]
    (∀ j p, vs[j]? = some p → W.cell? ⟨w.heap.size + 1 + 1 + 1, j, none⟩ = some p.val) ∧ (∀ p ∈ vs, p.ok W) ∧ Below w.heap.size w W ∧ W.heap.size = w.heap.size + 4 := by
  intro W vs
  have b0 : W.heap[w.heap.size]? = some (.cells (bytesRow oid cap) 5 fr) := by
    simp only [W, drew_heap]
    rw [alloc_old (by simp; omega), alloc_old (by simp; omega), alloc_old (by simp), alloc_new rfl]
  have b1 : W.heap[w.heap.size + 1]? = some (.cells #[.int .u8 48, .int .u8 ((oid.size : Int) + 4), .int .u8 6, .int .u8 (oid.size : Int)] 5) := by
    simp only [W, drew_heap]
    rw [alloc_old (by simp), alloc_old (by simp), alloc_new (by simp)]
  have b2 : W.heap[w.heap.size + 1 + 1]? = some (.cells #[.int .u8 5, .int .u8 0] 5) := by
    simp only [W, drew_heap]
    rw [alloc_old (by simp), alloc_new (by simp)]
  have b3 : W.heap[w.heap.size + 1 + 1 + 1]? = some (.cells #[.slice (some ⟨w.heap.size + 1, 0, none⟩) 4 4, .slice (some ⟨w.heap.size, 0, none⟩) oid.size cap, .slice (some ⟨w.heap.size + 1 + 1, 0, none⟩) 2 2] 22) := by
    simp only [W, drew_heap]
    rw [alloc_new (by simp)]
  refine ⟨fun j p hj => ?_, fun p hp => ?_, ?_, by simp [W]⟩
  · rw [cell_of_row W _ j _ _ _ b3]
    match j, hj with
    | 0, hj => simp [vs] at hj; subst hj; rfl
    | 1, hj => simp [vs] at hj; subst hj; rfl
    | 2, hj => simp [vs] at hj; subst hj; rfl
    | j + 3, hj => simp [vs] at hj
  · simp only [vs, List.mem_cons, List.not_mem_nil, or_false] at hp
    rcases hp with rfl | rfl | rfl
    · exact rd_block b1 (by simp) rfl (Nat.le_refl 4) (by simp [maxLen]) (by simp; omega)
    · refine rd_block b0 ?_ (nums_len oid) hc hm (nums_byte oid)
      have hl : (oid.data.toList.map fun b => Value.int .u8 (b.toNat : Int)).length = oid.size := by simp
      simp only [bytesRow, nums, Array.toList_append, Array.toList_map, List.map_map]
      rw [← hl]
      exact List.take_left
    · exact rd_block b2 (by simp) rfl (Nat.le_refl 2) (by simp [maxLen]) (by simp)
  · exact ((((((Below.refl _ _).alloc (Nat.le_refl _) _).alloc (by simp) _).alloc (by simp; omega) _).alloc (by simp; omega) _)).drew

theorem cat3 (p q r : Part) : cat [p, q, r] [p, q, r].length = p.zs ++ q.zs ++ r.zs := by simp [cat]
theorem cat4 (p q r s : Part) : cat [p, q, r, s] [p, q, r, s].length = p.zs ++ q.zs ++ r.zs ++ s.zs := by simp [cat]

theorem concat1 (w : World) (oid : ByteArray) (cap : Nat) (fr : Nat × Nat) (hc : oid.size ≤ cap) (hm : cap ≤ maxLen) (hs : oid.size ≤ 119) :
    Calls Try.prog 40 #[.slice (some ⟨w.heap.size + 1 + 1 + 1, 0, none⟩) 3 3]
      (((((w.alloc (.cells (bytesRow oid cap) 5 fr)).alloc (.cells #[.int .u8 48, .int .u8 ((oid.size : Int) + 4), .int .u8 6, .int .u8 (oid.size : Int)] 5)).alloc (.cells #[.int .u8 5, .int .u8 0] 5)).alloc
        (.cells #[.slice (some ⟨w.heap.size + 1, 0, none⟩) 4 4, .slice (some ⟨w.heap.size, 0, none⟩) oid.size cap, .slice (some ⟨w.heap.size + 1 + 1, 0, none⟩) 2 2] 22)).drew)
      fun e w' => ∃ g c', e = .returned (.slice (some ⟨g, 0, none⟩) (oid.size + 6) c') ∧ Rd w' (some ⟨g, 0, none⟩) (oid.size + 6) c' (algOf (nums oid)) ∧ w.heap.size ≤ g ∧ Below w.heap.size w w' := by
  obtain ⟨h1, h2, h3, h4⟩ := world1 w oid cap fr hc hm hs
  have hcat := cat3 ⟨some ⟨w.heap.size + 1, 0, none⟩, 4, 4, [48, (oid.size : Int) + 4, 6, (oid.size : Int)]⟩ ⟨some ⟨w.heap.size, 0, none⟩, oid.size, cap, nums oid⟩ ⟨some ⟨w.heap.size + 1 + 1, 0, none⟩, 2, 2, [5, 0]⟩
  have halg : [48, (oid.size : Int) + 4, 6, (oid.size : Int)] ++ nums oid ++ [5, 0] = algOf (nums oid) := by simp only [algOf, nums_len]
  simp only at hcat
  rw [halg] at hcat
  have hlen : (algOf (nums oid)).length = oid.size + 6 := by rw [algOf_len, nums_len]
  have hcon := concat_any _ (w.heap.size + 1 + 1 + 1) _ h1 (by rw [h4]; omega) h2 (by rw [hcat, hlen]; omega) (by rw [hcat, hlen]; omega) (by simp)
  rw [hcat, hlen] at hcon
  refine hcon.mono ?_
  rintro e w' ⟨g, c', he, hr, hg, hb⟩
  exact ⟨g, c', he, hr, by omega, h3.trans (hb.mono (by omega))⟩

theorem Hid.mk' {p : Prop} (h : p) : Hid p := h

theorem concat2 (w : World) (o : List Int) (g c1 : Nat) (a : Option Addr) (len cap : Nat) (zs : List Int) (hr1 : Rd w (some ⟨g, 0, none⟩) (o.length + 6) c1 (algOf o)) (hr2 : Rd w a len cap zs) (hs : o.length + len ≤ 119) :
    Calls Try.prog 40 #[.slice (some ⟨w.heap.size + 1 + 1, 0, none⟩) 4 4]
      (((w.alloc (.cells #[.int .u8 48, .int .u8 ((o.length : Int) + 6 + 2 + (len : Int))] 5)).alloc (.cells #[.int .u8 4, .int .u8 (len : Int)] 5)).alloc
        (.cells #[.slice (some ⟨w.heap.size, 0, none⟩) 2 2, .slice (some ⟨g, 0, none⟩) (o.length + 6) c1, .slice (some ⟨w.heap.size + 1, 0, none⟩) 2 2, .slice a len cap] 22))
      fun e w' => ∃ g' c', e = .returned (.slice (some ⟨g', 0, none⟩) (o.length + len + 10) c') ∧ Rd w' (some ⟨g', 0, none⟩) (o.length + len + 10) c' (infoOf o zs) ∧ w.heap.size ≤ g' ∧ Below w.heap.size w w' := by
  obtain ⟨W, hW⟩ : ∃ W, W = (((w.alloc (.cells #[.int .u8 48, .int .u8 ((o.length : Int) + 6 + 2 + (len : Int))] 5)).alloc (.cells #[.int .u8 4, .int .u8 (len : Int)] 5)).alloc
        (.cells #[.slice (some ⟨w.heap.size, 0, none⟩) 2 2, .slice (some ⟨g, 0, none⟩) (o.length + 6) c1, .slice (some ⟨w.heap.size + 1, 0, none⟩) 2 2, .slice a len cap] 22)) := ⟨_, rfl⟩
  rw [← hW]
  have b0 : W.heap[w.heap.size]? = some (.cells #[.int .u8 48, .int .u8 ((o.length : Int) + 6 + 2 + (len : Int))] 5) := by
    rw [hW, alloc_old (by simp; omega), alloc_old (by simp), alloc_new rfl]
  have b1 : W.heap[w.heap.size + 1]? = some (.cells #[.int .u8 4, .int .u8 (len : Int)] 5) := by
    rw [hW, alloc_old (by simp), alloc_new (by simp)]
  have b2 : W.heap[w.heap.size + 1 + 1]? = some (.cells #[.slice (some ⟨w.heap.size, 0, none⟩) 2 2, .slice (some ⟨g, 0, none⟩) (o.length + 6) c1, .slice (some ⟨w.heap.size + 1, 0, none⟩) 2 2, .slice a len cap] 22) := by
    rw [hW, alloc_new (by simp)]
  have h3 : Below w.heap.size w W := by
    rw [hW]
    exact (((Below.refl _ _).alloc (Nat.le_refl _) _).alloc (by simp) _).alloc (by simp; omega) _
  have h4 : W.heap.size = w.heap.size + 3 := by rw [hW]; simp
  have k1 := hr1.kept h3
  have k2 := hr2.kept h3
  clear hW
  have hzl := hr2.len_eq
  have hcat := cat4 ⟨some ⟨w.heap.size, 0, none⟩, 2, 2, [48, (o.length : Int) + 6 + 2 + (len : Int)]⟩ ⟨some ⟨g, 0, none⟩, o.length + 6, c1, algOf o⟩ ⟨some ⟨w.heap.size + 1, 0, none⟩, 2, 2, [4, (len : Int)]⟩ ⟨a, len, cap, zs⟩
  have halg : [48, (o.length : Int) + 6 + 2 + (len : Int)] ++ algOf o ++ [4, (len : Int)] ++ zs = infoOf o zs := by simp only [infoOf, hzl]
  simp only at hcat
  rw [halg] at hcat
  have hlen : (infoOf o zs).length = o.length + len + 10 := by rw [infoOf_len, hzl]
  have hcon := concat_any [⟨some ⟨w.heap.size, 0, none⟩, 2, 2, [48, (o.length : Int) + 6 + 2 + (len : Int)]⟩, ⟨some ⟨g, 0, none⟩, o.length + 6, c1, algOf o⟩, ⟨some ⟨w.heap.size + 1, 0, none⟩, 2, 2, [4, (len : Int)]⟩, ⟨a, len, cap, zs⟩]
    (w.heap.size + 1 + 1) W ?_ (by rw [h4]; omega) ?_ (by rw [hcat, hlen]; omega) (by rw [hcat, hlen]; omega) (by simp)
  · rw [hcat, hlen] at hcon
    refine hcon.mono ?_
    rintro e w' ⟨g', c', he, hr, hg, hb⟩
    exact ⟨g', c', he, hr, by omega, h3.trans (hb.mono (by omega))⟩
  · intro j p hj
    rw [cell_of_row W _ j _ _ _ b2]
    match j, hj with
    | 0, hj => simp at hj; subst hj; rfl
    | 1, hj => simp at hj; subst hj; rfl
    | 2, hj => simp at hj; subst hj; rfl
    | 3, hj => simp at hj; subst hj; rfl
    | j + 4, hj => simp at hj
  · intro p hp
    simp only [List.mem_cons, List.not_mem_nil, or_false] at hp
    rcases hp with rfl | rfl | rfl | rfl
    · exact rd_block b0 (by simp) rfl (Nat.le_refl 2) (by simp [maxLen]) (by simp; omega)
    · exact k1
    · exact rd_block b1 (by simp) rfl (Nat.le_refl 2) (by simp [maxLen]) (by simp; omega)
    · exact k2

set_option maxRecDepth 100000 in
set_option maxHeartbeats 1000000 in
theorem digest_any (oid : ByteArray) (a : Option Addr) (len cap : Nat) (zs : List Int) (b : Nat) (w : World) (hcell : w.cell? ⟨b, 2, none⟩ = some (.string oid)) (hrd : Rd w a len cap zs) (hsum : oid.size + len ≤ 119) :
    Calls Try.prog 32 #[.pointer (some ⟨b, 0, none⟩), .slice a len cap] w fun e w' => ∃ g cap', e = .returned (.slice (some ⟨g, 0, none⟩) (oid.size + len + 10) cap') ∧
      Rd w' (some ⟨g, 0, none⟩) (oid.size + len + 10) cap' (infoOf (nums oid) zs) ∧ w.heap.size ≤ g ∧ Below w.heap.size w w' := by
  have hcv := fun w => run_bytes_of_string (P := Try.prog) w 9 22 5 oid Try.underlying9 Try.underlying22 Try.underlying5
  have hg1 := grownCap_ge w oid.size 0 5
  have hg2 := grownCap_le_maxLen w oid.size 0 5 (by simp only [maxLen]; omega)
  go_enter Try.func32, Try.ntmps32
  go_wp2_with fail
  refine (concat1 w oid _ _ hg1 hg2 (by omega)).mono ?_
  rintro e w1 ⟨g1, c1, rfl, hrd1, hg, hb1⟩
  clear hcv hcell
  generalize grownCap w oid.size 0 5 = c0 at *
  have hrd2 := hrd.kept hb1
  have hc2 := concat2 w1 (nums oid) g1 c1 a len cap zs (by rw [nums_len]; exact hrd1) hrd2 (by rw [nums_len]; exact hsum)
  rw [nums_len] at hc2
  have HC2 := Hid.mk' hc2
  clear hrd hrd2 hc2 hrd1
  go_wp2_with fail
  refine HC2.out.mono ?_
  rintro e w2 ⟨g2, c2, rfl, hrd3, hg3, hb3⟩
  clear HC2
  have hb4 : Below w.heap.size w w2 := hb1.trans (hb3.mono hb1.size)
  have hg4 : w.heap.size ≤ g2 := Nat.le_trans hb1.size hg3
  clear hb3 hg3 hb1 hg
  go_wp2_with fail
  go_ret
  exact ⟨g2, c2, rfl, hrd3, hg4, hb4⟩

set_option maxHeartbeats 1000000 in
theorem zzdigest_any (oid : ByteArray) (a : Option Addr) (len cap : Nat) (zs : List Int) (w : World) (hrd : Rd w a len cap zs) (hsum : oid.size + len ≤ 119) :
    Calls Try.prog 10 #[.string oid, .slice a len cap] w fun e w' => ∃ g cap', e = .returned (.slice (some ⟨g, 0, none⟩) (oid.size + len + 10) cap') ∧
      Rd w' (some ⟨g, 0, none⟩) (oid.size + len + 10) cap' (infoOf (nums oid) zs) ∧ w.heap.size ≤ g ∧ Below w.heap.size w w' := by
  have hb1 : Below w.heap.size w (w.alloc (.cells #[.nilFunc, .int .u64 0, .string oid, .bool false, .bool false] 66)) := (Below.refl _ _).alloc (Nat.le_refl _) _
  have hd := digest_any oid a len cap zs w.heap.size _ (by rw [World.cell?_alloc_new]; rfl) (hrd.kept hb1) hsum
  have HD := Hid.mk' hd
  have HB := Hid.mk' hb1
  clear hd hrd hb1
  go_enter Try.func10, Try.ntmps10
  go_wp2_with fail
  refine HD.out.mono ?_
  rintro e w2 ⟨g2, c2, rfl, hrd3, hg3, hb3⟩
  have hb4 : Below w.heap.size w w2 := HB.out.trans (hb3.mono (by simp))
  have hg4 : w.heap.size ≤ g2 := Nat.le_trans (by simp) hg3
  clear hb3 hg3 HB HD
  go_wp2_with fail
  go_ret
  exact ⟨g2, c2, rfl, hrd3, hg4, hb4⟩
end Go.Proofs.Qxb6618606a
