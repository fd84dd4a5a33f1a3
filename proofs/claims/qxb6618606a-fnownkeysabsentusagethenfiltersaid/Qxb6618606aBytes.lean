import Derived.Test.Qxb6618606aProg
import Derived.WalkKit
import Derived.WalkLawsBesides
import Derived.WalkSpells
import Derived.Deep.QuietTactic
import Derived.BigQuiet
import Derived.Laws.CopyOwn
namespace Go.Proofs.Qxb6618606a
open Go.RowKit

/-- 'The slice '.slice a len cap' reads as the bytes zs in the world w.' -/
structure Rd (w : World) (a : Option Addr) (len cap : Nat) (zs : List Int) : Prop where
  len_eq : zs.length = len
  le_cap : len ≤ cap
  cap_le : cap ≤ maxLen
  nil : a = none → cap = 0
  cells : 0 < len → ∃ b off, a = some ⟨b, off, none⟩ ∧ b < w.heap.size ∧ ∀ i, i < len → w.cell? ⟨b, off + i, none⟩ = some (.int .u8 (zs.getD i 0))
  byte : ∀ z ∈ zs, 0 ≤ z ∧ z ≤ 255

theorem Rd.below {B : Nat} {w w' : World} {a : Option Addr} {len cap : Nat} {zs : List Int} (h : Rd w a len cap zs) (hb : Below B w w') (hB : ∀ x, a = some x → 0 < len → x.block < B) : Rd w' a len cap zs := by
  refine ⟨h.len_eq, h.le_cap, h.cap_le, h.nil, fun hp => ?_, h.byte⟩
  obtain ⟨b, off, e, hlt, hc⟩ := h.cells hp
  have hbB : b < B := hB _ e hp
  refine ⟨b, off, e, Nat.lt_of_lt_of_le hlt hb.size, fun i hi => ?_⟩
  rw [hb.cell (p := ⟨b, off + i, none⟩) hbB]
  exact hc i hi

theorem Rd.kept {w w' : World} {a : Option Addr} {len cap : Nat} {zs : List Int} (h : Rd w a len cap zs) (hb : Below w.heap.size w w') : Rd w' a len cap zs := by
  refine h.below hb fun x hx hp => ?_
  obtain ⟨b, off, e, hlt, _⟩ := h.cells hp
  rw [e] at hx
  cases hx
  exact hlt

theorem drewN_below (B : Nat) (w : World) (n : Nat) : Below B w (w.drewN n) := ⟨rfl, rfl, rfl, Nat.le_refl _, fun _ _ => rfl⟩

theorem Rd.drewN {w : World} {a : Option Addr} {len cap : Nat} {zs : List Int} (h : Rd w a len cap zs) (n : Nat) : Rd (w.drewN n) a len cap zs :=
  h.kept (drewN_below _ w n)

theorem take_succ_ne {za zb : List Int} {k : Nat} (h : (za[k]?.getD 0 != zb[k]?.getD 0) = true) : za ≠ zb := by
  intro e
  subst e
  simp at h

theorem take_succ_eq {za zb : List Int} {k : Nat} (ha : k < za.length) (hb : k < zb.length) (ht : za.take k = zb.take k) (h : (za[k]?.getD 0 != zb[k]?.getD 0) = false) : za.take (k + 1) = zb.take (k + 1) := by
  rw [List.take_succ_eq_append_getElem ha, List.take_succ_eq_append_getElem hb, ht]
  simp [ha, hb] at h
  rw [h]

theorem ret_bool {a b : Bool} (h : a = b) : Ending.returned (.bool a) = .returned (.bool b) := by rw [h]

set_option maxHeartbeats 400000 in
theorem equal_any (a b : Option Addr) (la ca lb cb : Nat) (za zb : List Int) (w : World) (ha : Rd w a la ca za) (hb : Rd w b lb cb zb) :
    Calls Try.prog 12 #[.slice a la ca, .slice b lb cb] w fun e w' => e = .returned (.bool (decide (za = zb))) ∧ ∃ n, w' = w.drewN n := by
  have hm1 := ha.cap_le
  have hm2 := ha.le_cap
  unfold maxLen at hm1
  by_cases hne : la = lb
  · subst hne
    rcases Nat.eq_zero_or_pos la with h0 | hp
    · subst h0
      have e1 : za = [] := List.eq_nil_of_length_eq_zero ha.len_eq
      have e2 : zb = [] := List.eq_nil_of_length_eq_zero hb.len_eq
      subst e1 e2
      clear ha hb
      go_enter Try.func12, Try.ntmps12
      go_wp2
      refine wp_loop_rounds 1 ?_
      rw [rounds_succ]
      go_wp2
      go_ret
      exact ⟨rfl, 0, rfl⟩
    · obtain ⟨ba, oa, rfl, hla, hca⟩ := ha.cells hp
      obtain ⟨bb, ob, rfl, hlb, hcb⟩ := hb.cells hp
      have e1 := ha.len_eq
      have e2 := hb.len_eq
      have E1 : Hid (za.length = la) := e1
      have E2 : Hid (zb.length = la) := e2
      clear ha hb hla hlb e1 e2
      go_enter Try.func12, Try.ntmps12
      go_wp2
      go_loopw [5] (fun i wr => ∃ k : Nat, k ≤ la ∧ i = .int .i64 k ∧ (∃ n, wr = w.drewN n) ∧ za.take k = zb.take k) (fun i _ => la - (intOf i).toNat)
      case atStart => exact ⟨0, Nat.zero_le _, rfl, ⟨0, rfl⟩, rfl⟩
      case round =>
        obtain ⟨k, hk, rfl, ⟨n, rfl⟩, ht⟩ := hrel
        have HT : Hid (za.take k = zb.take k) := ht
        clear ht
        by_cases hlt : k < la
        · have g1 := hca k hlt
          have g2 := hcb k hlt
          go_wp2
          go_quiet (fail)
          go_wp2
          · go_ret
            have hx : (za[k]?.getD 0 != zb[k]?.getD 0) = true := by assumption
            exact ⟨ret_bool (by simp [take_succ_ne hx]), n + nq, World.drewN_drewN ..⟩
          · go_roundw
            case rel =>
              have hx : (za[k]?.getD 0 != zb[k]?.getD 0) = false := by assumption
              exact ⟨k + 1, by omega, by go_num, ⟨n + nq, rfl⟩, take_succ_eq (by rw [E1.out]; exact hlt) (by rw [E2.out]; exact hlt) HT.out hx⟩
            case measure => simp [intOf]; omega
        · go_wp2
          go_ret
          refine ⟨ret_bool ?_, _, rfl⟩
          have hkl : k = la := by omega
          have e := HT.out
          rw [List.take_of_length_le (by rw [E1.out]; omega), List.take_of_length_le (by rw [E2.out]; omega)] at e
          simp [e]
  · have hlen : za ≠ zb := by
      intro e
      subst e
      exact hne (ha.len_eq.symm.trans hb.len_eq)
    have HL : Hid (za ≠ zb) := hlen
    have hne' : ((la : Int) == (lb : Int)) = false := by simp; omega
    clear hlen ha hb
    go_enter Try.func12, Try.ntmps12
    go_wp2
    go_ret
    exact ⟨ret_bool (by simp [HL.out]), 0, rfl⟩
end Go.Proofs.Qxb6618606a
