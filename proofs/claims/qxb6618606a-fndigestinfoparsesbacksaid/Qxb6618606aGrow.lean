import Derived.Test.Qxb6618606aBytes
namespace Go.Proofs.Qxb6618606a
open Go.RowKit

theorem Try.info5 : (Try.prog.info? 5).map (fun i => (i.zero, i.size, i.bytes)) = some (some (.int .u8 0), 1, 1) := by kernel_rfl

section
variable {P : Program} (w : World)

/-- 'append(nil, make([]T, n)...)': a new row of at least n zero cells. -/
theorem run_append_make_nil (t u ty e : TypeId) (i : TypeInfo) (z : Value) (ht : P.underlying t = some (.slice e)) (hu : P.underlying u = some (.int .i64)) (hi : P.info? e = some i) (hz : i.zero = some z)
    (hs : i.size = 1) (hb : i.bytes = 1) (n : Nat) (h0 : 0 < n) (hn2 : n ≤ 65536) :
    (Builtin.append_ #[t, u] ty #[.slice none 0 0, .int .i64 n]).run P w =
      .ok (.slice (some ⟨w.heap.size, 0, none⟩) n (grownCap w n 0 e)) (w.drew.alloc (.cells (Builtin.zeroCells z.cells n ++ Builtin.zeroCells z.cells (grownCap w n 0 e - n)) e)) := by
  have hn : n ≠ 0 := by omega
  have h63' : ¬ (9223372036854775807 < (n : Int)) := by omega
  have hw : IntKind.i64.wrap (n : Int) = (n : Int) := by rw [IntKind.wrap_i64]; omega
  have h1 : ¬ ((n : Int) < 0) := by omega
  have h2 : ¬ (281474976710656 < (n : Int)) := by omega
  have h48'' : ¬ (281474976710656 < Builtin.nextslicecap n 0) := by rw [nextslicecap_zero h0]; omega
  simp [Builtin.append_, run_underlying ht, run_underlying hu, sizeOf, typeInfo, zeroValue, hi, hz, hs, hb, asInt, asIntOf, hw, hn, h1, h2, h63', h48'', Question.forced, run_firstCells_none, newRow, grownCap]

theorem wpList_append_make {ops : Array Oper} {rest : List Oper} {o : Oper} {a : Act} {Q : Exit → Act → World → Prop}
    (hg : o.guard = none) (s x : Operand) (t u : TypeId) (hop : o.op = Op.call { callee := Callee.builtin Builtin.append, args := #[s, x], argTypes := #[t, u] })
    (e : TypeId) (i : TypeInfo) (z : Value) (ht : P.underlying t = some (.slice e)) (hu : P.underlying u = some (.int .i64)) (hi : P.info? e = some i) (hz : i.zero = some z)
    (hs : i.size = 1) (hb : i.bytes = 1) (hz1 : z.cells.size = 1) (n : Nat) (h0 : 0 < n) (hn2 : n ≤ 65536) (hes : a.eval s = .slice none 0 0) (hex : a.eval x = .int .i64 n)
    (hK : ∀ cap w', n ≤ cap → cap ≤ maxLen → w'.ownsRow w.heap.size e 1 (.slice (some ⟨w.heap.size, 0, none⟩) 0 cap) 0 [] → w.grownBy w' none → w'.heap.size = w.heap.size + 1 →
      wpList P ops Q rest (a.put o.dst (.slice (some ⟨w.heap.size, 0, none⟩) n cap)) w') :
    wpList P ops Q (o :: rest) a w := by
  refine wpList_plain hg fun K hK' => ?_
  have hrun := run_append_make_nil (P := P) w t u o.type e i z ht hu hi hz hs hb n h0 hn2
  have hge := grownCap_ge w n 0 e
  have hcm : grownCap w n 0 e ≤ maxLen := grownCap_le_maxLen w n 0 e (by simp only [maxLen]; omega)
  have hown := World.ownsRow_made (base := w.heap.size) (e := e) (size := 1) w.drew (Builtin.zeroCells z.cells n ++ Builtin.zeroCells z.cells (grownCap w n 0 e - n)) (grownCap w n 0 e) (Nat.le_refl _) hcm
    (by simp only [Array.size_append, size_zeroCells, hz1]; omega)
  unfold Oper.wp
  simp [execOp, hop, resolve, invoke, builtin, hes, hex, hrun, Result.andThen]
  exact hK' _ _ (hK _ _ hge hcm hown ⟨rfl, rfl, rfl, by simp, fun k hk _ => Below.heap_alloc w.drew _ k hk⟩ (by simp))
end

set_option maxRecDepth 100000 in
set_option maxHeartbeats 400000 in
theorem grow_any (n : Nat) (h0 : 0 < n) (hn : n ≤ 65536) (w : World) :
    Calls Try.prog 44 #[.slice none 0 0, .int .i64 n] w fun e w' => ∃ cap, e = .returned (.slice (some ⟨w.heap.size, 0, none⟩) 0 cap) ∧ n ≤ cap ∧ cap ≤ maxLen ∧ w'.ownsRow w.heap.size 5 1 (.slice (some ⟨w.heap.size, 0, none⟩) 0 cap) 0 [] ∧ w.grownBy w' none ∧ w'.heap.size = w.heap.size + 1 := by
  obtain ⟨i0, hi, hz0, hz1, hz2⟩ := info_parts Try.info5
  have I0 : Hid (Try.prog.info? 5 = some i0) := hi
  have I1 : Hid (i0.zero = some (.int .u8 0)) := hz0
  have I2 : Hid (i0.size = 1) := hz1
  have I3 : Hid (i0.bytes = 1) := hz2
  clear hi hz0 hz1 hz2
  go_enter Try.func44, Try.ntmps44
  go_wp2_with (at_builtin; refine wpList_append_make _ rfl (.tmp 20) (.tmp 21) 22 3 rfl 5 i0 (.int .u8 0) Try.underlying22 Try.underlying3 I0.out I1.out I2.out I3.out rfl n h0 hn rfl rfl ?_; intro cap w1 hc1 hc2 hown hgr hsz)
  go_ret
  exact ⟨cap, rfl, hc1, hc2, hown, hgr, hsz⟩
end Go.Proofs.Qxb6618606a
