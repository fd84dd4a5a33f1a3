import Derived.Test.Qxb6618606aBudgetWalk
namespace Go.Proofs.Qxb6618606a
open Go.RowKit

/-- The verifiers that the law has made: each lies in a block of its own above the old memory and has so many checks left. -/
def Has (w0 w : World) (p : Nat × Int) : Prop :=
  w0.heap.size ≤ p.1 ∧ p.1 < w.heap.size ∧ w.cell? ⟨p.1, 27, none⟩ = some (.int .i64 p.2) ∧ w.frozen? ⟨p.1, 27, none⟩ = false
def St (w0 w : World) (l : List (Nat × Int)) : Prop := Grown w0 w ∧ (l.map Prod.fst).Nodup ∧ ∀ p ∈ l, Has w0 w p

theorem St.init (w : World) : St w w [] := ⟨Grown.refl w, by simp, by simp⟩
theorem St.tail {w0 w : World} {p : Nat × Int} {l : List (Nat × Int)} (h : St w0 w (p :: l)) : St w0 w l :=
  ⟨h.1, (by have := h.2.1; simp at this ⊢; exact this.2), fun q hq => h.2.2 q (by simp [hq])⟩
theorem St.swap {w0 w : World} {p q : Nat × Int} {l : List (Nat × Int)} (h : St w0 w (p :: q :: l)) : St w0 w (q :: p :: l) := by
  refine ⟨h.1, ?_, fun r hr => h.2.2 r ?_⟩
  · have h2 := h.2.1
    simp only [List.map_cons, List.nodup_cons, List.mem_cons, not_or] at h2 ⊢
    exact ⟨⟨fun e => h2.1.1 e.symm, h2.2.1⟩, h2.1.2, h2.2.2⟩
  · simp only [List.mem_cons] at hr ⊢
    rcases hr with h | h | h
    · exact .inr (.inl h)
    · exact .inl h
    · exact .inr (.inr h)

theorem new_st {w0 : World} {l : List (Nat × Int)} (n : Int) (w : World) (h : St w0 w l) :
    Calls Try.prog 29 #[.int .i64 n] w fun e w' => ∃ b, e = .returned (.pointer (some ⟨b, 0, none⟩)) ∧ St w0 w' ((b, n) :: l) := by
  refine (new_any n w).mono ?_
  rintro e w' ⟨rfl, rfl⟩
  have hz : (w.alloc (fresh n)).heap.size = w.heap.size + 1 := World.size_alloc ..
  refine ⟨_, rfl, fresh_grown n h.1, ?_, ?_⟩
  · simp only [List.map_cons, List.nodup_cons]
    refine ⟨fun hm => ?_, h.2.1⟩
    obtain ⟨q, hq, e⟩ := List.mem_map.1 hm
    have := (h.2.2 q hq).2.1
    omega
  · intro q hq
    rcases List.mem_cons.1 hq with rfl | hq
    · exact ⟨h.1.2.2, by rw [hz]; simp, fresh_cell n w, fresh_free n w⟩
    · obtain ⟨h1, h2, h3, h4⟩ := h.2.2 q hq
      exact ⟨h1, by omega, by rw [World.cell?_alloc_lt _ _ _ h2]; exact h3, by rw [World.frozen?_alloc_old _ _ _ (by simp; omega)]; exact h4⟩

theorem check_st {w0 : World} {l : List (Nat × Int)} (c : Int) (b : Nat) (w : World) (h1 : -9223372036854775808 < c) (h2 : c ≤ 9223372036854775807) (h : St w0 w ((b, c) :: l)) :
    Calls Try.prog 30 #[.pointer (some ⟨b, 0, none⟩)] w fun e w' => e = .returned (.bool (decide (1 ≤ c))) ∧ St w0 w' ((b, c - 1) :: l) := by
  obtain ⟨g1, g2, g3, g4⟩ := h.2.2 (b, c) (by simp)
  refine (check_any c b w h1 h2 g3 g4).mono ?_
  rintro e w' ⟨rfl, rfl⟩
  have hz : (w.setCell ⟨b, 27, none⟩ (.int .i64 (c - 1))).heap.size = w.heap.size := by simp [World.setCell]
  refine ⟨rfl, h.1.setCell g1 _, by simpa using h.2.1, ?_⟩
  intro q hq
  rcases List.mem_cons.1 hq with rfl | hq
  · exact ⟨g1, by rw [hz]; exact g2, step_cell g3 rfl, by rw [World.frozen?_setCell]; exact g4⟩
  · obtain ⟨k1, k2, k3, k4⟩ := h.2.2 q (by simp [hq])
    have hne : q.1 ≠ b := by
      intro e
      have hn := h.2.1
      simp only [List.map_cons, List.nodup_cons] at hn
      exact hn.1 (e ▸ List.mem_map_of_mem hq)
    exact ⟨k1, by rw [hz]; exact k2, by rw [World.cell?_setCell_other _ _ _ _ (fun e => hne (congrArg Addr.block e).symm)]; exact k3, by rw [World.frozen?_setCell]; exact k4⟩

theorem checks_st {w0 : World} {l : List (Nat × Int)} (c : Int) (b : Nat) (w : World) (h : St w0 w ((b, c) :: l)) :
    Calls Try.prog 31 #[.pointer (some ⟨b, 0, none⟩)] w fun e w' => e = .returned (.int .i64 c) ∧ w' = w :=
  checks_any c b w (h.2.2 (b, c) (by simp)).2.2.1


set_option maxHeartbeats 400000 in
theorem resumes_late (n a b : Int) (h1 : ¬ a < 0) (h2 : ¬ 65536 < a) (h3 : ¬ b < 0) (h4 : ¬ 65536 < b) (h5 : ¬ n < -9223372036854775808 + a + b + 1) (h6 : n ≤ 9223372036854775807) (w : World) :
    Calls Try.prog 8 #[.int .i64 n, .int .i64 a, .int .i64 b] w fun e w' => e = .returned (.bool true) ∧ Grown w w' := by
  have hst := St.init w
  go_enter Try.func8, Try.ntmps8
  go_wp2_with fail
  refine (new_st n _ hst).mono ?_
  rintro e w1 ⟨bu, rfl, hst1⟩
  clear hst
  go_wp2_with fail
  refine (check_st n bu _ (by omega) (by omega) hst1).mono ?_
  rintro e w2 ⟨rfl, hst2⟩
  replace hst2 := hst2.tail
  clear hst1
  go_wp2_with fail
  refine (new_st n _ hst2).mono ?_
  rintro e w3 ⟨bv, rfl, hst3⟩
  clear hst2
  go_wp2_with fail
  go_loopw [9] (fun i wr => ∃ t : Nat, (t : Int) ≤ a ∧ i = .int .i64 t ∧ St w wr [(bv, n - t)])
    (fun i _ => a.toNat - (intOf i).toNat)
  case atStart => exact ⟨0, by omega, rfl, by simpa using hst3⟩
  case round =>
    obtain ⟨t, ht, rfl, hst4⟩ := hrel
    clear hst3
    by_cases hlt : (t : Int) < a
    · go_wp2_with fail
      refine (check_st (n - t) bv _ (by omega) (by omega) hst4).mono ?_
      rintro e w4 ⟨rfl, hst5⟩
      go_wp2_with fail
      go_roundw
      case rel => exact ⟨t + 1, by omega, by go_num, by rw [show n - ((t + 1 : Nat) : Int) = n - t - 1 from by omega]; exact hst5⟩
      case measure => simp [intOf]; omega
    · have hta : (t : Int) = a := by omega
      have hst5 : St w wr [(bv, n - a)] := by rw [← hta]; exact hst4
      clear hst4 hta
      go_wp2_with fail
      refine (new_st (n - a) _ hst5).mono ?_
      rintro e w4 ⟨bw, rfl, hst6⟩
      replace hst6 := hst6.swap
      clear hst5
      go_wp2_with fail
      go_loopw [11] (fun i wr => ∃ t : Nat, (t : Int) ≤ b ∧ i = .int .i64 t ∧ St w wr [(bv, n - a - t), (bw, n - a - t)])
        (fun i _ => b.toNat - (intOf i).toNat)
      case atStart => exact ⟨0, by omega, rfl, by simpa using hst6⟩
      case round =>
        obtain ⟨s, hs, rfl, hst7⟩ := hrel
        clear hst6
        by_cases hls : (s : Int) < b
        · go_wp2_with fail
          refine (check_st (n - a - s) bv _ (by omega) (by omega) hst7).mono ?_
          rintro e w5 ⟨rfl, hst8⟩
          replace hst8 := hst8.swap
          go_wp2_with fail
          refine (check_st (n - a - s) bw _ (by omega) (by omega) hst8).mono ?_
          rintro e w6 ⟨rfl, hst9⟩
          replace hst9 := hst9.swap
          go_wp2_with fail
          go_roundw
          case rel => exact ⟨s + 1, by omega, by go_num, by rw [show n - a - ((s + 1 : Nat) : Int) = n - a - s - 1 from by omega]; exact hst9⟩
          case measure => simp [intOf]; omega
        · go_wp2_with fail
          refine (checks_st (n - a - s) bv _ hst7).mono ?_
          rintro e w5 ⟨rfl, rfl⟩
          go_wp2_with fail
          refine (checks_st (n - a - s) bw _ hst7.swap).mono ?_
          rintro e w6 ⟨rfl, rfl⟩
          go_wp2_with fail
          go_ret
          exact ⟨by simp, hst7.1⟩

theorem resumes_walk (n a b : Int) (w0 : (Lit.int .i64 n).wf = true) (w : World) :
    Calls Try.prog 8 #[.int .i64 n, .int .i64 a, .int .i64 b] w fun e w' => e = .returned (.bool true) ∧ Grown w w' := by
  obtain ⟨hn1, hn2⟩ := bounds_i64 w0
  clear w0
  by_cases h1 : a < 0
  · go_enter Try.func8, Try.ntmps8
    go_wp2
    go_ret
    exact ⟨rfl, Grown.refl _⟩
  by_cases h2 : 65536 < a
  · go_enter Try.func8, Try.ntmps8
    go_wp2
    go_ret
    exact ⟨rfl, Grown.refl _⟩
  by_cases h3 : b < 0
  · go_enter Try.func8, Try.ntmps8
    go_wp2
    go_ret
    exact ⟨rfl, Grown.refl _⟩
  by_cases h4 : 65536 < b
  · go_enter Try.func8, Try.ntmps8
    go_wp2
    go_ret
    exact ⟨rfl, Grown.refl _⟩
  by_cases h5 : n < -9223372036854775808 + a + b + 1
  · go_enter Try.func8, Try.ntmps8
    go_wp2
    go_ret
    exact ⟨rfl, Grown.refl _⟩
  exact resumes_late n a b h1 h2 h3 h4 h5 hn2 w
end Go.Proofs.Qxb6618606a
