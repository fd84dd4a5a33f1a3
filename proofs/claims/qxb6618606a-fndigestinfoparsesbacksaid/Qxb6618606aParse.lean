import Derived.Test.Qxb6618606aDigest
import Derived.Laws.BytesArg
namespace Go.Proofs.Qxb6618606a
open Go.RowKit

set_option maxHeartbeats 400000 in
theorem tlv_any (a : Option Addr) (len cap : Nat) (zs : List Int) (w : World) (hrd : Rd w a len cap zs) (i t n s f : Int) (h0 : 0 ≤ i) (h1 : i + 2 ≤ len) (ht : zs.getD i.toNat 0 = t) (hn : zs.getD (i.toNat + 1) 0 = n)
    (hn1 : 0 ≤ n) (hn2 : n < 128) (he : i + 2 + n ≤ len) (hs : s = i + 2) (hf : f = i + 2 + n) :
    Calls Try.prog 33 #[.slice a len cap, .int .i64 i, .int .u8 t] w fun e w' => e = .returned (.tuple #[.int .i64 s, .int .i64 f, .bool true]) ∧ w' = w := by
  subst hs hf
  obtain ⟨k, rfl⟩ := Int.eq_ofNat_of_zero_le h0
  have hm1 := hrd.cap_le
  have hm2 := hrd.le_cap
  obtain ⟨b, off, rfl, _, hc⟩ := hrd.cells (by omega)
  have c0 := hc k (by omega)
  have c1 := hc (k + 1) (by omega)
  have ht' : zs.getD k 0 = t := ht
  have hn' : zs.getD (k + 1) 0 = n := hn
  rw [ht'] at c0
  rw [hn'] at c1
  unfold maxLen at hm1
  have hbt : (t != t) = false := by simp
  clear hrd hc ht hn ht' hn'
  go_enter Try.func33, Try.ntmps33
  go_wp2
  go_ret3
  exact ⟨rfl, rfl⟩

theorem info_at (o z : List Int) : (infoOf o z).getD 0 0 = 48 ∧ (infoOf o z).getD 1 0 = (o.length : Int) + 6 + 2 + z.length ∧ (infoOf o z).getD 2 0 = 48 ∧ (infoOf o z).getD 3 0 = (o.length : Int) + 4 ∧
    (infoOf o z).getD 4 0 = 6 ∧ (infoOf o z).getD 5 0 = (o.length : Int) ∧ (∀ i, i < o.length → (infoOf o z).getD (6 + i) 0 = o.getD i 0) ∧ (infoOf o z).getD (o.length + 6) 0 = 5 ∧ (infoOf o z).getD (o.length + 7) 0 = 0 ∧
    (infoOf o z).getD (o.length + 8) 0 = 4 ∧ (infoOf o z).getD (o.length + 9) 0 = (z.length : Int) ∧ ∀ i, (infoOf o z).getD (o.length + 10 + i) 0 = z.getD i 0 := by
  have h : infoOf o z = [48, (o.length : Int) + 6 + 2 + (z.length : Int), 48, (o.length : Int) + 4, 6, (o.length : Int)] ++ (o ++ ([5, 0, 4, (z.length : Int)] ++ z)) := by simp [infoOf, algOf]
  have r : ∀ j, (infoOf o z).getD (6 + j) 0 = (o ++ ([5, 0, 4, (z.length : Int)] ++ z)).getD j 0 := by
    intro j
    rw [h]
    simp only [List.getD]
    rw [List.getElem?_append_right (by simp)]
    simp
  have q : ∀ j, (infoOf o z).getD (o.length + 6 + j) 0 = ([5, 0, 4, (z.length : Int)] ++ z).getD j 0 := by
    intro j
    rw [show o.length + 6 + j = 6 + (o.length + j) from by omega, r]
    simp only [List.getD]
    rw [List.getElem?_append_right (by omega)]
    simp
  refine ⟨by rw [h]; rfl, by rw [h]; rfl, by rw [h]; rfl, by rw [h]; rfl, by rw [h]; rfl, by rw [h]; rfl, fun i hi => ?_, by rw [← Nat.add_zero (o.length + 6), q]; rfl, by rw [show o.length + 7 = o.length + 6 + 1 from by omega, q]; rfl, by rw [show o.length + 8 = o.length + 6 + 2 from by omega, q]; rfl, by rw [show o.length + 9 = o.length + 6 + 3 from by omega, q]; rfl, fun i => ?_⟩
  · rw [r]
    simp only [List.getD]
    rw [List.getElem?_append_left hi]
  · rw [show o.length + 10 + i = o.length + 6 + (4 + i) from by omega, q]
    simp only [List.getD]
    rw [List.getElem?_append_right (by simp)]
    simp

theorem strOf_nums (s : ByteArray) : strOfNums (nums s) = s := by
  unfold strOfNums nums
  have h : ((s.data.toList.map fun b => (b.toNat : Int)).map fun n => UInt8.ofNat n.toNat) = s.data.toList := by
    rw [List.map_map]
    have hid : ((fun n : Int => UInt8.ofNat n.toNat) ∘ fun b : UInt8 => (b.toNat : Int)) = id := by
      funext b
      simp
    rw [hid, List.map_id]
  rw [h]

theorem info_cut {w : World} {b N cap : Nat} {oid : ByteArray} {zs : List Int} (h : Rd w (some ⟨b, 0, none⟩) N cap (infoOf (nums oid) zs)) (hN1 : N ≤ oid.size + zs.length + 10) (hN2 : oid.size + zs.length + 10 ≤ N) :
    Rd w (some ⟨b, oid.size + 10, none⟩) zs.length (cap - (oid.size + 10)) zs := by
  have h1 := h.le_cap
  have h2 := h.cap_le
  refine ⟨rfl, by omega, by omega, by simp, fun hp => ?_, fun z hz => h.byte z ?_⟩
  · obtain ⟨b', off, e, hlt, hc⟩ := h.cells (by omega)
    cases e
    refine ⟨b, oid.size + 10, rfl, hlt, fun i hi => ?_⟩
    have := hc (oid.size + 10 + i) (by omega)
    rw [Nat.zero_add] at this
    rw [this, ← nums_len oid, (info_at (nums oid) zs).2.2.2.2.2.2.2.2.2.2.2 i]
  · simp only [infoOf, List.mem_append]
    exact .inr hz

theorem info_end {w : World} {a : Option Addr} {c : Nat} {zs : List Int} (h : zs.length = 0) (hc : c = 0) : Rd w a zs.length c zs := by
  subst hc
  have e := List.eq_nil_of_length_eq_zero h
  subst e
  exact ⟨rfl, Nat.le_refl _, Nat.zero_le _, fun _ => rfl, fun hp => absurd hp (by simp), by simp⟩

set_option maxRecDepth 100000 in
set_option maxHeartbeats 1000000 in
theorem parse_any (oid : ByteArray) (b cap : Nat) (zs : List Int) (N : Nat) (hN1 : N ≤ oid.size + zs.length + 10) (hN2 : oid.size + zs.length + 10 ≤ N) (w : World) (hrd : Rd w (some ⟨b, 0, none⟩) N cap (infoOf (nums oid) zs)) (hsum : oid.size + zs.length ≤ 119) :
    Calls Try.prog 11 #[.slice (some ⟨b, 0, none⟩) N cap] w fun e w' => ∃ a' c', e = .returned (.tuple #[.string oid, .slice a' zs.length c', .bool true]) ∧ Rd w a' zs.length c' zs ∧ ∃ n, w' = w.drewN n := by
  obtain ⟨f0, f1, f2, f3, f4, f5, f6, f7, f8, f9, f10, f11⟩ := info_at (nums oid) zs
  rw [nums_len] at f1 f3 f5 f7 f8 f9 f10
  have hc := hrd.le_cap
  have HR := Hid.mk' hrd
  have T1 := Hid.mk' (tlv_any _ _ _ _ w hrd 0 48 ((oid.size : Int) + 6 + 2 + zs.length) 2 N (by omega) (by omega) f0 f1 (by omega) (by omega) (by omega) (by omega) (by omega))
  have T2 := Hid.mk' (tlv_any _ _ _ _ w hrd 2 48 ((oid.size : Int) + 4) 4 ((oid.size : Int) + 8) (by omega) (by omega) f2 f3 (by omega) (by omega) (by omega) (by omega) (by omega))
  have T3 := Hid.mk' (tlv_any _ _ _ _ w hrd 4 6 (oid.size : Int) 6 ((oid.size : Int) + 6) (by omega) (by omega) f4 f5 (by omega) (by omega) (by omega) (by omega) (by omega))
  have T4 := Hid.mk' (tlv_any _ _ _ _ w hrd ((oid.size : Int) + 6) 5 0 ((oid.size : Int) + 8) ((oid.size : Int) + 8) (by omega) (by omega) f7 f8 (by omega) (by omega) (by omega) (by omega) (by omega))
  have T5 := Hid.mk' (tlv_any _ _ _ _ w hrd ((oid.size : Int) + 8) 4 (zs.length : Int) ((oid.size : Int) + 10) N (by omega) (by omega) f9 f10 (by omega) (by omega) (by omega) (by omega) (by omega))
  have hcv : ∀ W : World, (∀ i, i < oid.size → W.cell? ⟨b, 6 + i, none⟩ = some (.int .u8 ((nums oid).getD i 0))) → (convert 22 9 (.slice (some ⟨b, 6, none⟩) oid.size (cap - 6))).run Try.prog W = .ok (.string (strOfNums (nums oid))) W :=
    fun W hW => run_convert_bytes_arg W 22 5 Try.underlying22 Try.underlying5 b 6 oid.size (cap - 6) (nums oid) (nums_len oid) hW 9 Try.underlying9
  have hcv2 : ∀ n : Nat, (convert 22 9 (.slice (some ⟨b, 6, none⟩) oid.size (cap - 6))).run Try.prog (w.drewN n) = .ok (.string oid) (w.drewN n) := by
    intro n
    rw [hcv, strOf_nums]
    intro i hi
    obtain ⟨b', off', e, _, hcl⟩ := hrd.cells (by omega)
    cases e
    have := hcl (6 + i) (by omega)
    rw [Nat.zero_add, f6 i (by rw [nums_len]; exact hi)] at this
    exact this
  clear f0 f1 f2 f3 f4 f5 f6 f7 f8 f9 f10 f11 hrd hcv
  go_enter Try.func11, Try.ntmps11
  go_wp2_with fail
  refine T1.out.mono ?_
  rintro e w1 ⟨rfl, rfl⟩
  clear T1
  go_wp2_with fail
  refine T2.out.mono ?_
  rintro e w1 ⟨rfl, rfl⟩
  clear T2
  go_wp2_with fail
  refine T3.out.mono ?_
  rintro e w1 ⟨rfl, rfl⟩
  clear T3
  go_wp2_with fail
  refine T4.out.mono ?_
  rintro e w1 ⟨rfl, rfl⟩
  clear T4
  go_wp2_with fail
  refine T5.out.mono ?_
  rintro e w1 ⟨rfl, rfl⟩
  clear T5
  go_wp2_with fail
  go_quiet (fail)
  go_wp2_with fail
  · have hl : N - (oid.size + 10) = zs.length := by omega
    rw [hl]
    go_ret3
    exact ⟨_, _, rfl, info_end (by omega) (by omega), _, rfl⟩
  · have hl : N - (oid.size + 10) = zs.length := by omega
    rw [hl]
    go_ret3
    exact ⟨_, _, rfl, info_cut HR.out hN1 hN2, _, rfl⟩
end Go.Proofs.Qxb6618606a
