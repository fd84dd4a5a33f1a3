import Derived.Test.Qxb6618894aSpace
import Derived.Deep.DeepCutAuto
import Derived.Deep.RegionHeld3
namespace Go.Proofs.Qxb6618894a
open Go.RowKit

def SomeBool (e : Ending) : Prop := ∃ b, e = .returned (.bool b)
theorem someBool (b : Bool) : SomeBool (.returned (.bool b)) := ⟨b, rfl⟩
theorem slice_len {x : Option Addr} {m n : Nat} (h : m = n) : Value.slice x m m = Value.slice x n n := by rw [h]
theorem min_left {a b : Nat} (h : a ≤ b) : a.min b = a := Nat.min_eq_left h
theorem rd_lt {w : World} {a : Option Addr} {l c : Nat} {zs : List Int} (h : Rd w a l c zs) : ∀ x, a = some x → 0 < l → x.block < w.heap.size := by
  intro x hx hp
  obtain ⟨b, off, e, hlt, _⟩ := h.cells hp
  rw [e] at hx
  cases hx
  exact hlt

set_option maxRecDepth 100000 in
set_option maxHeartbeats 1000000 in
theorem clone_eq (a : Option Addr) (l c : Nat) (zs : List Int) (w : World) (h : Rd w a l c zs) (hl : l ≤ 1048576) :
    Calls Try.prog 18 #[.slice a l c] w fun e w' => ∃ a', e = .returned (.slice a' l l) ∧ Rd w' a' l l zs ∧ Below w.heap.size w w' := by
  have hnil := nil39
  obtain ⟨i0, hi, hz0, hz1, hz2⟩ := info_parts Try.info5
  have I0 := Hid.of hi
  have I1 := Hid.of hz0
  have I2 := Hid.of hz1
  have I3 := Hid.of hz2
  clear hi hz0 hz1 hz2
  have R1 := Hid.of h
  clear h
  cases a with
  | none =>
    obtain ⟨rfl, rfl⟩ : l = 0 ∧ c = 0 := by have := R1.out.nil rfl; have := R1.out.le_cap; omega
    go_enter Try.func18, Try.ntmps18
    go_wp2_with fail
    go_ret
    exact ⟨_, rfl, R1.out, Below.refl _ _⟩
  | some x =>
    obtain ⟨X1, hX1⟩ : ∃ X1, X1 = zs.map (Value.int .u8) := ⟨_, rfl⟩
    have HX1 := Hid.of hX1
    have hXl : X1.length ≤ l ∧ l ≤ X1.length := by rw [hX1, List.length_map, R1.out.len_eq]; exact ⟨Nat.le_refl _, Nat.le_refl _⟩
    have hXc : Hid (∀ j v, X1[j]? = some v → w.cell? (x.add j) = some v) := by rw [hX1]; exact rd_news R1.out x rfl
    have hXo : Hid (∀ v ∈ X1, v.oneCell' = true) := by rw [hX1]; exact ints_oneCell _ _
    have hxb : Hid (0 < l → x.block < w.heap.size) := fun hp => by
      obtain ⟨b, off, e, hlt, _⟩ := R1.out.cells hp
      cases e
      exact hlt
    clear hX1
    go_enter Try.func18, Try.ntmps18
    go_wp2_with (first | (at_make; refine wpList_make_full _ rfl (.tmp 7) (.tmp 7) 39 rfl w.heap.size 5 i0 (.int .u8 0) 1 Try.underlying39 I0.out I1.out I2.out .i64 .i64 l l l rfl rfl rfl rfl (by rw [I3.out]; omega) (by simp only [maxLen]; omega) (Nat.le_refl _) ?_; intro w2 hown hgr; have hbl := Hid.of (made_block hown); have hbe := Hid.of ((Below.refl _ _).grown hgr (Nat.le_refl _) (by simp)); clear hown hgr) | (refine wpList_copy_splice rfl (.tmp 9) (.tmp 10) 39 39 rfl 5 Try.underlying39 Try.one5 _ _ _ _ _ _ rfl rfl w.heap.size 0 (List.replicate l (Value.int .u8 0)) 5 hbl.out X1 ?_ ?_ ?_ hXo.out w.heap.size w hbe.out (Nat.le_refl _) ?_))
    · simp; omega
    · intro hp j v hj
      rw [hbe.out.cell (p := x.add j) (by rw [add_block]; exact hxb.out (by omega))]
      exact hXc.out j v hj
    · simp; omega
    · intro w3 HG hB
      have hrd := rd_row (zs := zs) HG.out (by rw [HX1.out]; simp [splice, R1.out.len_eq]) R1.out.len_eq (by simp only [maxLen]; omega) R1.out.byte
      go_wp2_with fail
      go_ret
      exact ⟨_, rfl, hrd, hB⟩


/-- The bytes of a string, as numbers. -/
def nums (s : ByteArray) : List Int := s.data.toList.map fun b => (b.toNat : Int)
theorem nums_len (s : ByteArray) : (nums s).length = s.size := by simp [nums]
theorem nums_byte (s : ByteArray) : ∀ z ∈ nums s, 0 ≤ z ∧ z ≤ 255 := by
  intro z hz
  obtain ⟨b, _, rfl⟩ := List.mem_map.1 hz
  have := b.toNat_lt
  omega
theorem nums_at (s : ByteArray) (k : Nat) (h : k < s.size) : (nums s).getD k 0 = (s[k].toNat : Int) := by
  have hk : k < s.data.size := h
  simp only [nums, List.getD, List.getElem?_map, Array.getElem?_toList]
  rw [Array.getElem?_eq_getElem hk]
  rfl

section
variable {P : Program} {w : World}
/-- 'copy(dst, s)', s a string no longer than dst, dst lying in a row that is known whole. -/
theorem run_copy_str (dT sT ty elem : TypeId) (dp : Option Addr) (dLen dCap : Nat) (t : ByteArray) (hu : P.underlying dT = some (.slice elem)) (hsz : (P.info? elem).map (·.size) = some 1) (hle : t.size ≤ dLen)
    (g off : Nat) (cur : List Value) (e : TypeId) (hg : w.heap[g]? = some (.cells cur.toArray e (0, 0))) (cs : List Value) (hcs : cs = t.data.toList.map fun x => Value.int .u8 (x.toNat : Int))
    (hpos : 0 < cs.length → dp = some ⟨g, off, none⟩) (hfit : off + cs.length ≤ cur.length) :
    ∃ w', (Builtin.copy_ #[dT, sT] ty #[.slice dp dLen dCap, .string t]).run P w = .ok (goInt t.size) w' ∧ w'.heap[g]? = some (.cells (splice cur off cs).toArray e (0, 0)) ∧ (∀ k, k ≠ g → w'.heap[k]? = w.heap[k]?) ∧ w'.os = w.os ∧ w'.tape = w.tape ∧ w'.output = w.output ∧ w.heap.size ≤ w'.heap.size := by
  have hl : cs.length = t.size := by rw [hcs]; simp
  have hmin : t.size.min dLen = t.size := Nat.min_eq_left hle
  cases hq : P.info? elem with
  | none => simp [hq] at hsz
  | some i =>
    have hi : i.size = 1 := by simpa [hq] using hsz
    have hx : List.take t.size (List.map (fun b : UInt8 => Value.int .u8 (b.toNat : Int)) t.data.toList) = cs := by
      rw [hcs]
      exact List.take_of_length_le (by simp)
    by_cases h0 : cs.length = 0
    · have e0 : cs = [] := List.eq_nil_of_length_eq_zero h0
      refine ⟨w, ?_, ?_, fun _ _ => rfl, rfl, rfl, rfl, Nat.le_refl _⟩
      · cases dp with
        | none => simp [Builtin.copy_, run_underlying hu, Builtin.lenOf, Builtin.firstCells, sizeOf, typeInfo, hq, hmin]
        | some x =>
          simp [Builtin.copy_, run_underlying hu, Builtin.lenOf, Builtin.firstCells, sizeOf, typeInfo, hq, hmin]
          rw [hx, e0]
          simp [storeCells]
      · rw [e0]
        simpa [splice] using hg
    · have hdp := hpos (by omega)
      subst hdp
      have h1 : ∀ v ∈ cs, v.oneCell' = true := by
        intro v hv
        rw [hcs] at hv
        obtain ⟨x, _, rfl⟩ := List.mem_map.1 hv
        rfl
      have hst := run_storeCells_at P g off e cs 0 cur.toArray w hg (by simpa using hfit) h1
      refine ⟨w.setRow g (splice cur off cs).toArray, ?_, ?_, ?_, ?_⟩
      · simp [Builtin.copy_, run_underlying hu, Builtin.lenOf, Builtin.firstCells, sizeOf, typeInfo, hq, hmin]
        rw [hx, hst]
        simp [splice]
      · exact setRow_heap w g _ _ e _ hg
      · exact fun k hk => setRow_other w g k _ hk
      · exact ⟨rfl, rfl, rfl, by simp [World.setRow]⟩

theorem wpList_copy_str {ops : Array Oper} {rest : List Oper} {o : Oper} {a : Act} {Q : Exit → Act → World → Prop} (hgd : o.guard = none) (d s : Operand) (dT sT : TypeId)
    (ho : o.op = .call { callee := .builtin .copy, args := #[d, s], argTypes := #[dT, sT] }) (elem : TypeId) (hu : P.underlying dT = some (.slice elem)) (hsz : (P.info? elem).map (·.size) = some 1)
    (dp : Option Addr) (dLen dCap : Nat) (t : ByteArray) (hd : a.eval d = .slice dp dLen dCap) (hs : a.eval s = .string t) (hle : t.size ≤ dLen)
    (g off : Nat) (cur : List Value) (e : TypeId) (hg : w.heap[g]? = some (.cells cur.toArray e (0, 0))) (cs : List Value) (hcs : cs = t.data.toList.map fun x => Value.int .u8 (x.toNat : Int))
    (hpos : 0 < cs.length → dp = some ⟨g, off, none⟩) (hfit : off + cs.length ≤ cur.length) (B : Nat) (w0 : World) (hb : Below B w0 w) (hBg : B ≤ g)
    (h : ∀ w', Hid (w'.heap[g]? = some (.cells (splice cur off cs).toArray e (0, 0))) → Below B w0 w' → wpList P ops Q rest (a.put o.dst (goInt t.size)) w') :
    wpList P ops Q (o :: rest) a w := by
  refine wpList_plain hgd fun K hK => ?_
  obtain ⟨w', hrun, h1, h2, h3, h4, h5, h6⟩ := run_copy_str (P := P) (w := w) dT sT o.type elem dp dLen dCap t hu hsz hle g off cur e hg cs hcs hpos hfit
  unfold Oper.wp
  simp [execOp, ho, resolve, invoke, builtin, hd, hs, hrun, Result.andThen]
  exact hK _ _ (h w' h1 (hb.trans ⟨h3, h4, h5, h6, fun k hk => h2 k (by omega)⟩))
end

theorem news_take {w : World} {a : Option Addr} {len cap p : Nat} {zs : List Int} (h : Rd w a len cap zs) : ∀ ad, a = some ad → ∀ j u, ((zs.take p).map (Value.int .u8))[j]? = some u → w.cell? (ad.add j) = some u := by
  intro ad had j u hu
  refine rd_news h ad had j u ?_
  rw [List.getElem?_map] at hu ⊢
  rw [List.getElem?_take] at hu
  split at hu
  · exact hu
  · simp at hu
theorem news_drop {w : World} {b off len cap p : Nat} {zs : List Int} (h : Rd w (some ⟨b, off, none⟩) len cap zs) : ∀ j u, ((zs.drop p).map (Value.int .u8))[j]? = some u → w.cell? ((⟨b, off + p, none⟩ : Addr).add j) = some u := by
  intro j u hu
  rw [List.getElem?_map, List.getElem?_drop, ← List.getElem?_map] at hu
  have := rd_news h _ rfl (p + j) u hu
  rw [Addr.add_lit] at this ⊢
  rw [show off + p + j = off + (p + j) from by omega]
  exact this

theorem bytes16_any (a1 : Option Addr) (l1 c1 : Nat) (p : Int) (t : ByteArray) (w : World) :
    Calls Try.prog 16 #[.slice a1 l1 c1, .int .i64 p, .string t] w fun e w' => SomeBool e ∧ w' = w := by
  go_enter Try.func16, Try.ntmps16
  go_wp2
  all_goals go_ret
  all_goals exact ⟨someBool _, rfl⟩

theorem skip_out (a1 : Option Addr) (l1 c1 : Nat) (p : Int) (t : ByteArray) (w : World) (h : 524288 < l1 ∨ 524288 < t.size ∨ p < 0 ∨ (l1 : Int) < p) :
    Calls Try.prog 4 #[.slice a1 l1 c1, .int .i64 p, .string t] w fun e w' => e = .returned (.bool true) ∧ Below w.heap.size w w' := by
  rcases h with h | h | h | h
  all_goals
    go_enter Try.func4, Try.ntmps4
    go_wp2_with fail
    refine (bytes16_any a1 l1 c1 p t w).mono ?_
    rintro e w1 ⟨⟨bb, rfl⟩, rfl⟩
    cases bb
    · go_wp2_with fail
      go_ret
      exact ⟨rfl, Below.refl _ _⟩
    · go_wp2_with fail
      all_goals go_ret
      all_goals exact ⟨rfl, Below.refl _ _⟩

theorem all_of {zs : List Int} (h : ∀ i, i < zs.length → blk (zs.getD i 0) = true) : ∀ z ∈ zs, blk z = true := by
  intro z hz
  obtain ⟨i, hi, rfl⟩ := List.mem_iff_getElem.1 hz
  have := h i hi
  simpa [List.getD, hi] using this

set_option maxRecDepth 100000 in
set_option maxHeartbeats 2000000 in
theorem skip_in (a1 : Option Addr) (l1 c1 : Nat) (z1 : List Int) (p : Nat) (t : ByteArray) (w : World) (r1 : Rd w a1 l1 c1 z1) (h1 : l1 ≤ 524288) (h2 : t.size ≤ 524288) (hp : p ≤ l1) :
    Calls Try.prog 4 #[.slice a1 l1 c1, .int .i64 p, .string t] w fun e w' => e = .returned (.bool true) ∧ Below w.heap.size w w' := by
  obtain ⟨i0, hi, hz0, hz1, hz2⟩ := info_parts Try.info5
  have I0 := Hid.of hi
  have I1 := Hid.of hz0
  have I2 := Hid.of hz1
  have I3 := Hid.of hz2
  clear hi hz0 hz1 hz2
  have R1 := Hid.of r1
  clear r1
  have n1 : ¬ (524288 : Int) < (l1 : Int) := by omega
  have n2 : ¬ (524288 : Int) < (t.size : Int) := by omega
  have n3 : ¬ (p : Int) < 0 := by omega
  have n4 : ¬ (l1 : Int) < (p : Int) := by omega
  have n5 : ¬ l1 < p := by omega
  go_enter Try.func4, Try.ntmps4
  go_wp2_with fail
  refine (bytes16_any a1 l1 c1 p t w).mono ?_
  rintro e w1 ⟨⟨bb, rfl⟩, hw1⟩
  subst hw1
  cases bb
  · go_wp2_with fail
    go_ret
    exact ⟨rfl, Below.refl _ _⟩
  go_wp2_with fail
  go_loopg [7] t.size (fun g s7 wx => wx = w1 ∧ ∃ k : Nat, k ≤ t.size ∧ g = t.size - k ∧ s7 = .int .i64 k ∧ Hid (∀ i, i < k → blk ((nums t).getD i 0) = true))
  case atStart => exact ⟨rfl, 0, Nat.zero_le _, rfl, rfl, fun i hi => absurd hi (by omega)⟩
  case round =>
    obtain ⟨rfl, k, hk, rfl, rfl, HK⟩ := hrel
    by_cases hlt : k < t.size
    · have HNA := Hid.of (nums_at t k hlt)
      obtain ⟨z, hz⟩ : ∃ z : Int, z = (t[k].toNat : Int) := ⟨_, rfl⟩
      have HZ := Hid.of hz
      go_wp2_with fail
      rw [← hz]
      clear hz
      refine (isBlank_any z _).mono ?_
      rintro e w' ⟨rfl, rfl⟩
      cases hb : blk z with
      | false =>
        clear hb
        go_wp2_with fail
        go_ret
        exact ⟨rfl, Below.refl _ _⟩
      | true =>
        have HK2 : Hid (∀ i, i < k + 1 → blk ((nums t).getD i 0) = true) := fun i hi => by
          by_cases e : i = k
          · rw [e, HNA.out, ← HZ.out]; exact hb
          · exact HK.out i (by omega)
        clear hb
        go_wp2_with fail
        go_roundg (t.size - (k + 1))
        case measure => omega
        case rel => exact ⟨rfl, k + 1, by omega, rfl, by go_num, HK2⟩
    · have HW : Hid (∀ z ∈ nums t, blk z = true) := all_of fun i hi => HK.out i (by rw [nums_len] at hi; omega)
      clear HK
      go_wp2_with fail
      refine (clone_eq a1 l1 c1 z1 _ R1.out (by omega)).mono ?_
      rintro e w2 ⟨b1, rfl, s1, hb2⟩
      have S1 := Hid.of s1
      have HB2 := Hid.of hb2
      clear s1 hb2 R1
      go_wp2_with fail
      refine (clone_eq b1 l1 l1 z1 _ S1.out (by omega)).mono ?_
      rintro e w3 ⟨f1, rfl, sf, hb3⟩
      have SF := Hid.of sf
      replace S1 := Hid.of (S1.out.kept hb3)
      have HB3 := Hid.of (HB2.out.trans (hb3.mono HB2.out.size))
      clear sf hb3 HB2
      obtain ⟨X1, hX1⟩ : ∃ X1, X1 = (z1.take p).map (Value.int .u8) := ⟨_, rfl⟩
      obtain ⟨X2, hX2⟩ : ∃ X2, X2 = t.data.toList.map fun x => Value.int .u8 (x.toNat : Int) := ⟨_, rfl⟩
      obtain ⟨X3, hX3⟩ : ∃ X3, X3 = (z1.drop p).map (Value.int .u8) := ⟨_, rfl⟩
      have L1 := S1.out.len_eq
      have hXl1 : X1.length ≤ p ∧ p ≤ X1.length := by rw [hX1]; simp; omega
      have hXl2 : X2.length ≤ t.size ∧ t.size ≤ X2.length := by rw [hX2]; simp
      have hXl3 : X3.length + p ≤ l1 ∧ l1 ≤ X3.length + p := by rw [hX3]; simp; omega
      have hXo1 : Hid (∀ v ∈ X1, v.oneCell' = true) := by rw [hX1]; exact ints_oneCell _ _
      have hXo3 : Hid (∀ v ∈ X3, v.oneCell' = true) := by rw [hX3]; exact ints_oneCell _ _
      have HX1 := Hid.of hX1
      have HX2 := Hid.of hX2
      have HX3 := Hid.of hX3
      clear hX1 hX2 hX3 L1
      obtain ⟨n, hn⟩ : ∃ n, n = l1 + t.size := ⟨_, rfl⟩
      have HN := Hid.of hn
      have hnl : n ≤ l1 + t.size ∧ l1 + t.size ≤ n := by omega
      clear hn
      obtain ⟨Z0, hZ0⟩ : ∃ Z0, Z0 = List.replicate n (Value.int .u8 0) := ⟨_, rfl⟩
      have HZ0 := Hid.of hZ0
      have hZl : Z0.length ≤ n ∧ n ≤ Z0.length := by rw [hZ0]; simp
      clear hZ0
      go_upto_region 18 with (first
        | (at_make; refine wpList_make_full _ rfl (.tmp 51) (.tmp 51) 39 rfl w3.heap.size 5 i0 (.int .u8 0) 1 Try.underlying39 I0.out I1.out I2.out .i64 .i64 _ _ n rfl rfl (by rw [HN.out]; omega) (by rw [HN.out]; omega) (by rw [I3.out]; omega) (by simp only [maxLen]; omega) (Nat.le_refl _) ?_; intro w4 hown hgr; have hbl := Hid.of (made_block hown); have hbe := Hid.of ((Below.refl _ _).grown hgr (Nat.le_refl _) (by simp)); clear hown hgr)
        | (refine wpList_copy_splice rfl (.tmp 53) (.tmp 56) 39 39 rfl 5 Try.underlying39 Try.one5 _ _ _ _ _ _ rfl rfl w3.heap.size 0 Z0 5 (by rw [HZ0.out]; exact hbl.out) X1 ?_ ?_ ?_ hXo1.out w3.heap.size w3 hbe.out (Nat.le_refl _) ?_))
      · rw [min_left (by omega)]; omega
      · intro hp'
        obtain ⟨bb, off, e, hlt, _⟩ := S1.out.cells (by omega)
        subst e
        refine ⟨_, rfl, fun j v hj => ?_⟩
        rw [hbe.out.cell (p := (⟨bb, off, none⟩ : Addr).add j) (by rw [add_block]; exact hlt)]
        rw [HX1.out] at hj
        exact news_take S1.out _ rfl j v hj
      · omega
      intro w5 HG5 hB5
      clear hbl hbe
      have HB5 := Hid.of hB5
      clear hB5
      have hsp1 : (splice Z0 0 X1).length ≤ n ∧ n ≤ (splice Z0 0 X1).length := by rw [length_splice Z0 0 X1 (by omega)]; omega
      obtain ⟨Z1, hZ1⟩ : ∃ Z1, Z1 = splice Z0 0 X1 := ⟨_, rfl⟩
      rw [← hZ1] at HG5 hsp1
      have HZ1 := Hid.of hZ1
      clear hZ1
      go_upto_region 18 with fail
      go_cut [9] from 13 to 62 (fun v wx => v = .slice (some ⟨w3.heap.size, 0, none⟩) n n ∧ Hid (wx.heap[w3.heap.size]? = some (.cells (splice Z1 p X2).toArray 5 (0, 0))) ∧ Hid (Below w3.heap.size w3 wx))
      case first =>
        go_wp2_with (refine wpList_copy_str rfl (.tmp 60) (.tmp 61) 39 9 rfl 5 Try.underlying39 Try.one5 _ _ _ t rfl rfl ?_ w3.heap.size p Z1 5 HG5.out X2 HX2.out ?_ ?_ w3.heap.size w3 HB5.out (Nat.le_refl _) ?_)
        · omega
        · intro hp'; omega
        · omega
        all_goals
          intro w6 HG6 hB6
          go_wp2_with fail
          go_meet
          first | exact ⟨rfl, HG6, hB6⟩ | exact ⟨slice_len (by omega), HG6, hB6⟩
      case rest =>
        obtain ⟨rfl, HG6, HB6⟩ := hcut
        have hsp2 : (splice Z1 p X2).length ≤ n ∧ n ≤ (splice Z1 p X2).length := by rw [length_splice Z1 p X2 (by omega)]; omega
        obtain ⟨Z2, hZ2⟩ : ∃ Z2, Z2 = splice Z1 p X2 := ⟨_, rfl⟩
        rw [← hZ2] at HG6 hsp2
        have HZ2 := Hid.of hZ2
        clear hZ2
        have S16 := Hid.of (S1.out.kept HB6.out)
        obtain ⟨q, hq⟩ : ∃ q, q = p + t.size := ⟨_, rfl⟩
        have HQ := Hid.of hq
        have hql : q ≤ p + t.size ∧ p + t.size ≤ q := by omega
        clear hq
        go_upto_region 19 with fail
        go_cut [9] from 63 to 72 (fun v wx => v = .slice (some ⟨w3.heap.size, 0, none⟩) n n ∧ Hid (wx.heap[w3.heap.size]? = some (.cells (splice Z2 q X3).toArray 5 (0, 0))) ∧ Hid (Below w3.heap.size w3 wx))
        case first =>
          have hwr : IntKind.i64.wrap ((p : Int) + (t.size : Int)) = (q : Int) := by rw [IntKind.wrap_i64]; omega
          have hqn : (q : Int) ≤ (n : Int) := by omega
          have hq0 : (0 : Int) ≤ (q : Int) := by omega
          by_cases hpl : p = l1
          · subst hpl
            have hnq : n = q := by omega
            subst hnq
            have hX0 : X3.length = 0 := by omega
            have HX0 := Hid.of hX0
            clear hX0
            go_region_held3 (fun w' => w'.heap[w3.heap.size]? = some (.cells Z2.toArray 5 (0, 0)) ∨ True) (exact Or.inr trivial) (first | (refine step_copy_splice rfl (.tmp 68) (.tmp 71) 39 39 rfl 5 Try.underlying39 Try.one5 _ _ _ _ _ _ rfl rfl w3.heap.size n Z2 5 HG6.out X3 (by rw [HX0.out]; simp) (fun h => absurd h (by rw [HX0.out]; omega)) (by rw [HX0.out]; omega) hXo3.out w3.heap.size w3 HB6.out.drew (Nat.le_refl _) ?_; intro w7 hg7 hb7))
            go_wp2_with fail
            go_meet
            case rel => exact ⟨rfl, hg7, hb7⟩
          · obtain ⟨bb, off, e, hlt, _⟩ := S16.out.cells (by omega)
            subst e
            have hqn2 : ¬ n = q := by omega
            have hlp : ¬ l1 = p := by omega
            have hpi : (p : Int) ≤ (l1 : Int) := by omega
            have hn1 : X3.length = Nat.min (l1 - p) (n - q) := by rw [min_left (by omega)]; omega
            have HN1 := Hid.of hn1
            have HSR : Hid (∀ j v, X3[j]? = some v → wc.cell? ((⟨bb, off + p, none⟩ : Addr).add j) = some v) := by rw [HX3.out]; exact news_drop S16.out
            clear hn1
            go_region_held3 (fun w' => w'.heap[w3.heap.size]? = some (.cells Z2.toArray 5 (0, 0)) ∨ True) (exact Or.inr trivial) (first | (refine step_copy_splice rfl (.tmp 68) (.tmp 71) 39 39 rfl 5 Try.underlying39 Try.one5 _ _ _ _ _ _ rfl rfl w3.heap.size q Z2 5 HG6.out X3 HN1.out (fun _ => ⟨rfl, _, rfl, HSR.out⟩) (by omega) hXo3.out w3.heap.size w3 HB6.out.drew (Nat.le_refl _) ?_; intro w7 hg7 hb7))
            go_wp2_with fail
            go_meet
            case rel => exact ⟨rfl, hg7, hb7⟩
        case rest =>
          obtain ⟨rfl, HG7, HB7⟩ := hcut
          have hrow : splice Z2 q X3 = (z1.take p ++ (nums t ++ z1.drop p)).map (Value.int .u8) := by
            have e1 : X1.length = p := by omega
            have e2 : X2.length = t.size := by omega
            rw [HZ2.out, HZ1.out, HQ.out, splice_splice_splice Z0 X1 X2 X3 p t.size e1 e2 (by omega), HX1.out, HX2.out, HX3.out, List.map_append, List.map_append]
            congr 2
            simp [nums]
          have L1 := S1.out.len_eq
          have hjl : (z1.take p ++ (nums t ++ z1.drop p)).length = n := by
            rw [List.length_append, List.length_append, List.length_take, List.length_drop, nums_len, L1, HN.out]; omega
          have SJ := Hid.of (rd_row (n := n) (zs := z1.take p ++ (nums t ++ z1.drop p)) HG7.out hrow hjl (by simp only [maxLen]; omega)
            (fun z hz => (List.mem_append.1 hz).elim (fun h => S1.out.byte z (List.mem_of_mem_take h)) (fun h => (List.mem_append.1 h).elim (nums_byte t z) (fun h => S1.out.byte z (List.mem_of_mem_drop h)))))
          have HINS := Hid.of (spc_insert z1 (nums t) p (by omega) HW.out)
          have hr1 : spc z1 p ≤ l1 := by rw [← L1]; exact spc_le (by omega)
          obtain ⟨zj, hzj⟩ : ∃ zj, zj = z1.take p ++ (nums t ++ z1.drop p) := ⟨_, rfl⟩
          rw [← hzj] at SJ HINS
          rw [nums_len] at HINS
          replace S1 := Hid.of (S1.out.kept HB7.out)
          replace SF := Hid.of (SF.out.kept HB7.out)
          have HB := Hid.of (HB3.out.trans (HB7.out.mono HB3.out.size))
          clear hzj hjl hrow L1 HG7 HG6 HG5 HB5 HB6 HB7 HB3 HX1 HX2 HX3 HZ0 HZ1 HZ2 hXo1 hXo3 hXl1 hXl2 hXl3 hZl hsp1 hsp2 I0 I1 I2 I3 S16 HQ hql
          go_wp2_with fail
          refine (newDec_any f1 l1 l1 p _).mono ?_
          rintro e wbA ⟨rfl, hwb⟩
          have hb : Below wc.heap.size wc wbA := by rw [hwb]; exact (Below.refl _ _).alloc (Nat.le_refl _) _
          have hd : DecAt wbA wc.heap.size f1 l1 l1 p := by rw [hwb]; exact newAt rfl
          clear hwb
          have HSP := Hid.of (zzspace_any wc.heap.size f1 l1 l1 p z1 wbA hd (SF.out.kept hb) (rd_lt SF.out) (by omega) (by omega))
          have HBb := Hid.of hb
          clear hb hd
          go_wp2_with fail
          refine HSP.out.mono ?_
          rintro e wdA ⟨rfl, hd, hb⟩
          have hb2 : Below wc.heap.size wc wdA := HBb.out.trans hb
          replace S1 := Hid.of (S1.out.kept hb2)
          replace SJ := Hid.of (SJ.out.kept hb2)
          replace HB := Hid.of (HB.out.trans (hb2.mono HB.out.size))
          have HDA := Hid.of hd
          clear hd hb hb2 HSP HBb
          go_wp2_with fail
          refine (pos_any _ _ _ _ _ _ HDA.out).mono ?_
          rintro e weA ⟨rfl, rfl⟩
          clear HDA
          go_wp2_with fail
          refine (newDec_any (some ⟨w3.heap.size, 0, none⟩) n n p _).mono ?_
          rintro e wbB ⟨rfl, hwb⟩
          have hb : Below weA.heap.size weA wbB := by rw [hwb]; exact (Below.refl _ _).alloc (Nat.le_refl _) _
          have hd : DecAt wbB weA.heap.size (some ⟨w3.heap.size, 0, none⟩) n n p := by rw [hwb]; exact newAt rfl
          clear hwb
          have HSP := Hid.of (zzspace_any weA.heap.size (some ⟨w3.heap.size, 0, none⟩) n n p zj wbB hd (SJ.out.kept hb) (rd_lt SJ.out) (by omega) (by omega))
          have HBb := Hid.of hb
          clear hb hd
          go_wp2_with fail
          refine HSP.out.mono ?_
          rintro e wdB ⟨rfl, hd, hb⟩
          have hb2 : Below weA.heap.size weA wdB := HBb.out.trans hb
          replace S1 := Hid.of (S1.out.kept hb2)
          replace HB := Hid.of (HB.out.trans (hb2.mono HB.out.size))
          have HDB := Hid.of hd
          clear hd hb hb2 HSP HBb
          have HST := Hid.of (stops_any b1 l1 l1 p z1 wdB S1.out (by omega) (by omega))
          rw [HINS.out] at HDB
          generalize spc z1 p = r1 at *
          go_wp2_with fail
          refine HST.out.mono ?_
          rintro e w9 ⟨rfl, rfl⟩
          go_wp2_with fail
          refine (pos_any _ _ _ _ _ _ HDB.out).mono ?_
          rintro e w10 ⟨rfl, rfl⟩
          go_wp2_with fail
          go_ret
          refine ⟨?_, HB.out⟩
          simp

theorem skip_law (a1 : Option Addr) (l1 c1 : Nat) (z1 : List Int) (p : Int) (t : ByteArray) (w : World) (r1 : Rd w a1 l1 c1 z1) :
    Calls Try.prog 4 #[.slice a1 l1 c1, .int .i64 p, .string t] w fun e w' => e = .returned (.bool true) ∧ Below w.heap.size w w' := by
  by_cases h1 : 524288 < l1
  · exact skip_out _ _ _ _ _ _ (.inl h1)
  by_cases h2 : 524288 < t.size
  · exact skip_out _ _ _ _ _ _ (.inr (.inl h2))
  by_cases h3 : p < 0
  · exact skip_out _ _ _ _ _ _ (.inr (.inr (.inl h3)))
  by_cases h4 : (l1 : Int) < p
  · exact skip_out _ _ _ _ _ _ (.inr (.inr (.inr h4)))
  obtain ⟨q, rfl⟩ := Int.eq_ofNat_of_zero_le (show 0 ≤ p by omega)
  exact skip_in a1 l1 c1 z1 q t w r1 (by omega) (by omega) (by omega)
end Go.Proofs.Qxb6618894a
