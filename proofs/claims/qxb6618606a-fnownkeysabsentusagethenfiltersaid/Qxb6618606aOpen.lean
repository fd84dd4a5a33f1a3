import Derived.Test.Qxb6618606aSizes
import Derived.ProofKit
import Derived.OpenShut
import Derived.Carry
namespace Go.Proofs.Qxb6618606a
open Go.ChangeShapes Go.WideShapes Go.ChangeAt Go.RowKit

theorem Try.cells3 : Try.prog.cellsOf 3 = 1 := by kernel_rfl
theorem Try.cells5 : Try.prog.cellsOf 5 = 1 := by kernel_rfl
theorem Try.cells9 : Try.prog.cellsOf 9 = 1 := by kernel_rfl
theorem Try.cells22 : Try.prog.cellsOf 22 = 1 := by kernel_rfl
theorem Try.cells30 : Try.prog.cellsOf 30 = 4 := by kernel_rfl
theorem Try.cells32 : Try.prog.cellsOf 32 = 7 := by kernel_rfl

theorem list4 {α : Type} {cs : List α} (h : cs.length = 4) : ∃ a b c d, cs = [a, b, c, d] := by
  match cs, h with
  | [a, b, c, d], _ => exact ⟨a, b, c, d, rfl⟩
theorem list7 {α : Type} {cs : List α} (h : cs.length = 7) : ∃ a b c d e f g, cs = [a, b, c, d, e, f, g] := by
  match cs, h with
  | [a, b, c, d, e, f, g], _ => exact ⟨a, b, c, d, e, f, g, rfl⟩

section
variable {H : Type} {enc : TypeId × Value → H} {W : World} {held : Bool}

theorem some_of {α : Type} {o : Option α} {xs : List α} {i : Nat} (h : o = xs[i]?) (hi : i < xs.length) : ∃ y, o = some y := ⟨xs[i], by rw [h]; simp [hi]⟩

theorem open_key {spare : Nat → Bool} {fuel : Nat} {cs : List Value} {x : DataW H × List MemPlace} (h : DataW.trod enc Try.prog W 0 spare held fuel 30 cs = some x) :
    ∃ k : PK, cs = [.string k.x, .string k.y, .string k.z, .int .i64 k.n] := by
  obtain ⟨xs, n, _, _, hl, hlen, hf⟩ := DataW.trod_struct Try.underlying30 h
  obtain ⟨y0, h0⟩ := some_of (hf 0 _ rfl) (by rw [hlen]; decide)
  obtain ⟨y1, h1⟩ := some_of (hf 1 _ rfl) (by rw [hlen]; decide)
  obtain ⟨y2, h2⟩ := some_of (hf 2 _ rfl) (by rw [hlen]; decide)
  obtain ⟨y3, h3⟩ := some_of (hf 3 _ rfl) (by rw [hlen]; decide)
  rw [Try.cells30] at hl
  obtain ⟨a, b, c, d, rfl⟩ := list4 hl
  replace h0 : DataW.trod enc Try.prog W 0 spare held n 9 [a] = some y0 := by simpa [Try.cells9] using h0
  replace h1 : DataW.trod enc Try.prog W 0 spare held n 9 [b] = some y1 := by simpa [Try.cells9] using h1
  replace h2 : DataW.trod enc Try.prog W 0 spare held n 9 [c] = some y2 := by simpa [Try.cells9] using h2
  replace h3 : DataW.trod enc Try.prog W 0 spare held n 3 [d] = some y3 := by simpa [Try.cells3] using h3
  obtain ⟨s0, e0, _⟩ := DataW.trod_string Try.underlying9 h0
  obtain ⟨s1, e1, _⟩ := DataW.trod_string Try.underlying9 h1
  obtain ⟨s2, e2, _⟩ := DataW.trod_string Try.underlying9 h2
  obtain ⟨m, e3, _⟩ := DataW.trod_int Try.underlying3 h3
  simp only [List.cons.injEq, and_true] at e0 e1 e2 e3
  subst e0 e1 e2 e3
  exact ⟨⟨s0, s1, s2, m⟩, rfl⟩

theorem ints_rd {fuel : Nat} {cs : List Value} {x : DataW H × List MemPlace} (h : DataW.trod enc Try.prog W 0 (fun _ => true) held fuel 22 cs = some x) :
    ∃ a l c zs, cs = [.slice a l c] ∧ Rd W a l c zs := by
  rcases open_ints Try.underlying22 Try.underlying5 Try.cells5 h with ⟨rfl, _⟩ | ⟨x, len, cap, zs, rfl, _, hl, hm, hz, _, hcell, hwz⟩
  · exact ⟨none, 0, 0, [], rfl, rfl, Nat.le_refl _, Nat.zero_le _, fun _ => rfl, fun hp => absurd hp (by simp), by simp⟩
  · simp only [if_true] at hz
    refine ⟨some x, len, cap, zs.take len, rfl, by simp; omega, hl, hm, by simp, fun hp => ?_, fun z hzm => bounds_u8 (hwz z (List.mem_of_mem_take hzm))⟩
    obtain ⟨b, off, spot⟩ := x
    have hc := hcell 0 (by omega)
    have hspot : spot = none := by simpa [Addr.add] using World.cell?_spot hc
    subst hspot
    refine ⟨b, off, rfl, World.block_lt_of_cell? W _ (by simpa [Addr.add] using hc), fun i hi => ?_⟩
    have hci := hcell i (by omega)
    rw [Addr.add_lit] at hci
    rw [hci]
    simp [List.getD, hi]

theorem open_node {fuel : Nat} {cs : List Value} {x : DataW H × List MemPlace} (h : DataW.trod enc Try.prog W 0 (fun _ => true) held fuel 32 cs = some x) :
    ∃ (q : ZN) (zs : List Int), cs = [.string q.s, .string q.i, .slice q.a q.l q.c, .string q.k.x, .string q.k.y, .string q.k.z, .int .i64 q.k.n] ∧ Rd W q.a q.l q.c zs := by
  obtain ⟨xs, n, _, _, hl, hlen, hf⟩ := DataW.trod_struct Try.underlying32 h
  obtain ⟨y0, h0⟩ := some_of (hf 0 _ rfl) (by rw [hlen]; decide)
  obtain ⟨y1, h1⟩ := some_of (hf 1 _ rfl) (by rw [hlen]; decide)
  obtain ⟨y2, h2⟩ := some_of (hf 2 _ rfl) (by rw [hlen]; decide)
  obtain ⟨y3, h3⟩ := some_of (hf 3 _ rfl) (by rw [hlen]; decide)
  rw [Try.cells32] at hl
  obtain ⟨a, b, c, d, e, f, g, rfl⟩ := list7 hl
  replace h0 : DataW.trod enc Try.prog W 0 (fun _ => true) held n 9 [a] = some y0 := by simpa [Try.cells9] using h0
  replace h1 : DataW.trod enc Try.prog W 0 (fun _ => true) held n 9 [b] = some y1 := by simpa [Try.cells9] using h1
  replace h2 : DataW.trod enc Try.prog W 0 (fun _ => true) held n 22 [c] = some y2 := by simpa [Try.cells22] using h2
  replace h3 : DataW.trod enc Try.prog W 0 (fun _ => true) held n 30 [d, e, f, g] = some y3 := by simpa [Try.cells30] using h3
  obtain ⟨s0, e0, _⟩ := DataW.trod_string Try.underlying9 h0
  obtain ⟨s1, e1, _⟩ := DataW.trod_string Try.underlying9 h1
  obtain ⟨u, l, v, zs, e2, hr⟩ := ints_rd h2
  obtain ⟨k, e3⟩ := open_key h3
  simp only [List.cons.injEq, and_true] at e0 e1 e2 e3
  obtain ⟨rfl, rfl, rfl, rfl⟩ := e3
  subst e0 e1 e2
  exact ⟨⟨s0, s1, u, l, v, k⟩, zs, rfl, hr⟩

set_option maxRecDepth 100000 in
/-- A node by value that came in: its shape, and that its keyUsage reads. -/
theorem arg_node {r : Reach} {b0 : Nat} {v : Value} {d : DataW H} {p : List MemPlace} (hv : Value.okWide Try.prog W r b0 32 v) (h : DataW.Trod enc Try.prog W 0 (fun _ => true) held 32 v d p) :
    ∃ (q : ZN) (zs : List Int), v = .agg #[.string q.s, .string q.i, .slice q.a q.l q.c, .string q.k.x, .string q.k.y, .string q.k.z, .int .i64 q.k.n] ∧ Rd W q.a q.l q.c zs := by
  obtain ⟨cs, rfl, _⟩ := okWide_struct Try.underlying32 hv
  obtain ⟨fuel, hf⟩ := h
  obtain ⟨q, zs, e, hr⟩ := open_node hf
  refine ⟨q, zs, ?_, hr⟩
  simp only [Value.cells] at e
  rw [← e]

set_option maxRecDepth 100000 in
theorem arg_key {r : Reach} {b0 : Nat} {v : Value} {d : DataW H} {p : List MemPlace} (hv : Value.okWide Try.prog W r b0 30 v) (h : DataW.Trod enc Try.prog W 0 (fun _ => true) held 30 v d p) :
    ∃ k : PK, v = .agg #[.string k.x, .string k.y, .string k.z, .int .i64 k.n] := by
  obtain ⟨cs, rfl, _⟩ := okWide_struct Try.underlying30 hv
  obtain ⟨fuel, hf⟩ := h
  obtain ⟨k, e⟩ := open_key hf
  refine ⟨k, ?_⟩
  simp only [Value.cells] at e
  rw [← e]
end
end Go.Proofs.Qxb6618606a
