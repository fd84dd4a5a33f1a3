import Derived.Test.Qxb6618894aKeep
import Derived.ProofKit
import Derived.OpenShut
import Derived.Carry
namespace Go.Proofs.Qxb6618894a
open Go.ChangeShapes Go.WideShapes Go.ChangeAt Go.RowKit

theorem Try.cells4 : Try.prog.cellsOf 4 = 1 := by kernel_rfl
theorem Try.cells9 : Try.prog.cellsOf 9 = 1 := by kernel_rfl
theorem Try.cells25 : Try.prog.cellsOf 25 = 3 := by kernel_rfl
instance : Inhabited FC := ⟨⟨ByteArray.empty, ByteArray.empty, false⟩⟩

theorem list3 {α : Type} {cs : List α} (h : cs.length = 3) : ∃ a b c, cs = [a, b, c] := by
  match cs, h with
  | [a, b, c], _ => exact ⟨a, b, c, rfl⟩
theorem some_of {α : Type} {o : Option α} {xs : List α} {i : Nat} (h : o = xs[i]?) (hi : i < xs.length) : ∃ y, o = some y := ⟨xs[i], by rw [h]; simp [hi]⟩

open Classical in
/-- A call for each place below n. -/
theorem pick_lt {n : Nat} {p : Nat → FC → Prop} (h : ∀ i, i < n → ∃ x, p i x) : ∃ f : Nat → FC, ∀ i, i < n → p i (f i) :=
  ⟨fun i => epsilon (p i), fun i hi => epsilon_spec (h i hi)⟩

section
variable {H : Type} {enc : TypeId × Value → H} {W : World} {held : Bool}
theorem open_call {spare : Nat → Bool} {fuel : Nat} {cs : List Value} {x : DataW H × List MemPlace} (h : DataW.trod enc Try.prog W 0 spare held fuel 25 cs = some x) :
    ∃ k : FC, cs = [.string k.F, .string k.T, .bool k.N] := by
  obtain ⟨xs, n, _, _, hl, hlen, hf⟩ := DataW.trod_struct Try.underlying25 h
  obtain ⟨y0, h0⟩ := some_of (hf 0 _ rfl) (by rw [hlen]; decide)
  obtain ⟨y1, h1⟩ := some_of (hf 1 _ rfl) (by rw [hlen]; decide)
  obtain ⟨y2, h2⟩ := some_of (hf 2 _ rfl) (by rw [hlen]; decide)
  rw [Try.cells25] at hl
  obtain ⟨a, b, c, rfl⟩ := list3 hl
  replace h0 : DataW.trod enc Try.prog W 0 spare held n 9 [a] = some y0 := by simpa [Try.cells9] using h0
  replace h1 : DataW.trod enc Try.prog W 0 spare held n 9 [b] = some y1 := by simpa [Try.cells9] using h1
  replace h2 : DataW.trod enc Try.prog W 0 spare held n 4 [c] = some y2 := by simpa [Try.cells4] using h2
  obtain ⟨s0, e0, _⟩ := DataW.trod_string Try.underlying9 h0
  obtain ⟨s1, e1, _⟩ := DataW.trod_string Try.underlying9 h1
  obtain ⟨s2, e2, _⟩ := DataW.trod_bool Try.underlying4 h2
  simp only [List.cons.injEq, and_true] at e0 e1 e2
  subst e0 e1 e2
  exact ⟨⟨s0, s1, s2⟩, rfl⟩

theorem calls_rd {fuel : Nat} {cs : List Value} {x : DataW H × List MemPlace} (h : DataW.trod enc Try.prog W 0 (fun _ => true) held fuel 22 cs = some x) :
    ∃ a l c f, cs = [.slice a l c] ∧ CRd W a l c f := by
  rcases DataW.trod_slice Try.underlying22 h with ⟨rfl, _⟩ | ⟨a, len, cap, elems, rest, n, _, rfl, _, _, hl, hm, he, hel, _⟩
  · exact ⟨none, 0, 0, fun _ => default, rfl, Nat.le_refl _, Nat.zero_le _, fun hp => absurd hp (by simp)⟩
  · rw [Try.cells25] at hel
    have hh : ∀ i, i < len → ∃ k : FC, W.cells? 0 (a.add (i * 3)) 3 = some [.string k.F, .string k.T, .bool k.N] := fun i hi => by
      obtain ⟨y, hy⟩ := some_of (hel i hi) (by omega)
      obtain ⟨cs, hcs, ht⟩ := Option.bind_eq_some_iff.1 hy
      obtain ⟨k, rfl⟩ := open_call ht
      exact ⟨k, hcs⟩
    obtain ⟨f, hf⟩ := pick_lt hh
    refine ⟨some a, len, cap, f, rfl, hl, hm, fun hp => ?_⟩
    obtain ⟨b, off, spot⟩ := a
    have hc : W.cell? ⟨b, off, spot⟩ = some (.string (f 0).F) := by
      have h0 := (World.cells?_some (hf 0 hp)).2.2 0 (by decide)
      simpa [Addr.add] using h0
    have hspot : spot = none := by simpa using World.cell?_spot hc
    subst hspot
    refine ⟨b, off, rfl, World.block_lt_of_cell? W _ hc, fun i hi => ?_⟩
    have hs := (World.cells?_some (hf i hi)).2.2
    rw [Addr.add_lit] at hs
    have e0 := hs 0 (by decide)
    have e1 := hs 1 (by decide)
    have e2 := hs 2 (by decide)
    rw [Addr.add_lit] at e0 e1 e2
    exact ⟨e0, e1, e2⟩
end
end Go.Proofs.Qxb6618894a
