import Derived.Test.Qxb6618606aCheckWalks
import Derived.OpenShut
namespace Go.Proofs.Qxb6618606a
open Go.RowKit

theorem fresh_cell (n : Int) (w : World) : (w.alloc (fresh n)).cell? ⟨w.heap.size, 27, none⟩ = some (.int .i64 n) := by
  simp [fresh]

theorem fresh_free (n : Int) (w : World) : (w.alloc (fresh n)).frozen? ⟨w.heap.size, 27, none⟩ = false := by
  simp [fresh]

theorem fresh_grown (n : Int) {w w' : World} (h : Grown w w') : Grown w (w'.alloc (fresh n)) := h.alloc _ _

theorem step_cell {w : World} {p : Addr} {u : Value} {c d : Int} (h : w.cell? p = some u) (e : c = d) : (w.setCell p (.int .i64 c)).cell? p = some (.int .i64 d) := by
  rw [World.cell?_setCell_same' w p _ (by rw [h]; rfl), e]

set_option maxHeartbeats 400000 in
theorem budget_walk (n k : Int) (w0 : (Lit.int .i64 n).wf = true) (w : World) :
    Calls Try.prog 7 #[.int .i64 n, .int .i64 k] w fun e w' => e = .returned (.bool true) ∧ Grown w w' := by
  obtain ⟨hn1, hn2⟩ := bounds_i64 w0
  clear w0
  by_cases h1 : k < 0
  · go_enter Try.func7, Try.ntmps7
    go_wp2
    go_ret
    exact ⟨rfl, Grown.refl _⟩
  by_cases h2 : 65536 < k
  · go_enter Try.func7, Try.ntmps7
    go_wp2
    go_ret
    exact ⟨rfl, Grown.refl _⟩
  by_cases h3 : n < -9223372036854775808 + k
  · go_enter Try.func7, Try.ntmps7
    go_wp2
    go_ret
    exact ⟨rfl, Grown.refl _⟩
  have hc0 := fresh_cell n w
  have hf0 := fresh_free n w
  have hg0 := fresh_grown n (Grown.refl w)
  go_enter Try.func7, Try.ntmps7
  go_wp2_with (first | (go_at_call 29; refine (new_any n _).mono ?_; rintro e w' ⟨rfl, rfl⟩))
  generalize w.alloc (fresh n) = W at *
  go_loopw [6] (fun i wr => ∃ t : Nat, (t : Int) ≤ k ∧ i = .int .i64 t ∧ wr.cell? ⟨w.heap.size, 27, none⟩ = some (.int .i64 (n - t)) ∧ wr.frozen? ⟨w.heap.size, 27, none⟩ = false ∧ Grown w wr)
    (fun i _ => k.toNat - (intOf i).toNat)
  case atStart => exact ⟨0, by omega, rfl, by simpa using hc0, hf0, hg0⟩
  case round =>
    obtain ⟨t, ht, rfl, hc, hf, hg⟩ := hrel
    clear hc0 hf0 hg0
    by_cases hlt : (t : Int) < k
    · go_wp2_with (first | (go_at_call 30; refine (check_any (n - t) _ _ (by omega) (by omega) hc hf).mono ?_; rintro e w' ⟨rfl, rfl⟩))
      · exfalso
        have hx : (!decide (1 ≤ n - (t : Int)) == decide ((t : Int) < n)) = true := by assumption
        rw [show decide (1 ≤ n - (t : Int)) = decide ((t : Int) < n) from by rw [decide_eq_decide]; omega] at hx
        simp at hx
      · go_roundw
        case rel =>
          exact ⟨t + 1, by omega, by go_num, step_cell hc (by omega), by rw [World.frozen?_setCell]; exact hf, hg.setCell (Nat.le_refl _) _⟩
        case measure => simp [intOf]; omega
    · go_wp2_with (first | (go_at_call 31; refine (checks_any (n - t) _ _ hc).mono ?_; rintro e w' ⟨rfl, rfl⟩))
      go_ret
      refine ⟨?_, hg⟩
      have e : (t : Int) = k := by omega
      simp [e]
end Go.Proofs.Qxb6618606a
