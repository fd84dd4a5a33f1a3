import Derived.Test.Qxb6618606aBoxes
namespace Go.Proofs.Qxb6618606a
open Go.RowKit

/-- The sources, in their order. -/
def optN (b : Bool) (s : Nat) : List Nat := if b then [s] else []
def srcs (p q r : Bool) : List Nat := optN p 0 ++ optN q 1 ++ optN r 2
def alS (z0 z1 z2 : Bool) (s : Nat) : Bool := if s = 0 then z0 else if s = 1 then z1 else z2

theorem srcs_le (p q r : Bool) : ∀ s ∈ srcs p q r, s ≤ 2 := by
  cases p <;> cases q <;> cases r <;> simp [srcs, optN]
theorem srcs_len (p q r : Bool) : (srcs p q r).length ≤ 3 := by
  cases p <;> cases q <;> cases r <;> simp [srcs, optN]

theorem all_eq (p q r : Bool) (j : PK) (t c : ZN) : opt p j ++ opt q t.k ++ opt r c.k = (srcs p q r).map (keyS j t c) := by
  cases p <;> cases q <;> cases r <;> simp [srcs, optN, opt, keyS]
theorem got_eq (p q r z0 z1 z2 : Bool) (j : PK) (t c : ZN) : opt (p && z0) j ++ opt (q && z1) t.k ++ opt (r && z2) c.k = ((srcs p q r).filter (alS z0 z1 z2)).map (keyS j t c) := by
  cases p <;> cases q <;> cases r <;> cases z0 <;> cases z1 <;> cases z2 <;> simp [srcs, optN, opt, keyS, alS]

theorem take_filter_yes {l : List Nat} {f : Nat → Bool} {i s : Nat} (h : l[i]? = some s) (hf : f s = true) :
    ((l.take (i + 1)).filter f).length = ((l.take i).filter f).length + 1 := by
  obtain ⟨hi, e⟩ := List.getElem?_eq_some_iff.1 h
  rw [List.take_succ_eq_append_getElem hi, List.filter_append, e]
  simp [hf]
theorem take_filter_no {l : List Nat} {f : Nat → Bool} {i s : Nat} (h : l[i]? = some s) (hf : f s = false) :
    ((l.take (i + 1)).filter f).length = ((l.take i).filter f).length := by
  obtain ⟨hi, e⟩ := List.getElem?_eq_some_iff.1 h
  rw [List.take_succ_eq_append_getElem hi, List.filter_append, e]
  simp [hf]
theorem filter_at {l : List Nat} {f : Nat → Bool} {i s : Nat} (h : l[i]? = some s) (hf : f s = true) : (l.filter f)[((l.take i).filter f).length]? = some s := by
  obtain ⟨hi, e⟩ := List.getElem?_eq_some_iff.1 h
  have hl : l = l.take i ++ s :: l.drop (i + 1) := by
    conv => lhs; rw [← List.take_append_drop i l, List.drop_eq_getElem_cons hi, e]
  conv => lhs; rw [hl]
  rw [List.filter_append, List.filter_cons_of_pos hf]
  rw [← hl]
  simp

/-- A slice of ints that the law has made. -/
def SRd (w : World) (a : Option Addr) (ss : List Nat) : Prop := 0 < ss.length → ∃ g, a = some ⟨g, 0, none⟩ ∧ g < w.heap.size ∧ ∀ (i s : Nat), ss[i]? = some s → w.cell? ⟨g, i, none⟩ = some (.int .i64 (s : Int))
theorem SRd.kept {w w' : World} {a : Option Addr} {ss : List Nat} (h : SRd w a ss) (hb : Below w.heap.size w w') : SRd w' a ss := by
  intro hp
  obtain ⟨g, e, hlt, hc⟩ := h hp
  refine ⟨g, e, Nat.lt_of_lt_of_le hlt hb.size, fun i s hs => ?_⟩
  rw [hb.cell (p := ⟨g, i, none⟩) hlt]
  exact hc i s hs
theorem own_ints {w : World} {B : Nat} {v : Value} {ss : List Nat} (h : w.ownsRow B 3 1 v ss.length (ss.map fun s : Nat => Value.int .i64 (s : Int))) : ∃ a cap, v = .slice a ss.length cap ∧ SRd w a ss := by
  rcases h.2 with ⟨rfl, h0⟩ | ⟨g, cap, cur, rfl, hb, hg, h1, h2, h3, h4⟩
  · rw [h0]
    exact ⟨none, 0, rfl, fun hp => absurd hp (by omega)⟩
  · refine ⟨_, cap, rfl, fun _ => ⟨g, rfl, lt_of_heap hg, fun i s hs => ?_⟩⟩
    have hi : i < ss.length := (List.getElem?_eq_some_iff.1 hs).1
    rw [h.cellAt i (by omega)]
    simp [hs]

theorem Try.info3 : (Try.prog.info? 3).map (fun i => (i.zero, i.size, i.bytes)) = some (some (.int .i64 0), 1, 8) := by kernel_rfl

theorem int_news (w : World) (n : Int) (t : TypeId) : ∀ j u, [Value.int .i64 n][j]? = some u → (w.alloc (.cells #[.int .i64 n] t)).cell? ((⟨w.heap.size, 0, none⟩ : Addr).add j) = some u := by
  intro j u hu
  rw [Addr.add_lit, Nat.zero_add, World.cell?_alloc_new]
  simpa using hu
theorem int_one (n : Int) : ∀ u ∈ [Value.int .i64 n], u.oneCell' = true := by
  intro u hu
  simp only [List.mem_cons, List.not_mem_nil, or_false] at hu
  subst hu
  rfl
def icells (ss : List Nat) : List Value := ss.map fun s : Nat => Value.int .i64 (s : Int)
theorem ints_step {w : World} {B : Nat} {v : Value} {ss : List Nat} {s : Nat} (h : w.ownsRow B 3 1 v (ss.length + 1) (icells ss ++ [.int .i64 (s : Int)])) : w.ownsRow B 3 1 v (ss ++ optN true s).length (icells (ss ++ optN true s)) := by
  have e : icells (ss ++ optN true s) = icells ss ++ [.int .i64 (s : Int)] := by simp [icells, optN]
  have l : (ss ++ optN true s).length = ss.length + 1 := by simp [optN]
  rw [e, l]
  exact h
theorem ints_same {w : World} {B : Nat} {v : Value} {ss : List Nat} {s : Nat} (h : w.ownsRow B 3 1 v ss.length (icells ss)) : w.ownsRow B 3 1 v (ss ++ optN false s).length (icells (ss ++ optN false s)) := by
  simpa [optN] using h
theorem optN_len (b : Bool) (s : Nat) : (optN b s).length ≤ 1 := by cases b <;> simp [optN]

theorem zero_block {w w' : World} {o : Obj} (hb : Below (w.alloc o).drew.heap.size (w.alloc o).drew w') : w'.heap[w.heap.size]? = some o := by
  rw [hb.block w.heap.size (by simp)]
  exact newAt rfl
theorem zero_cell {w' : World} {b : Nat} {arr : Array Value} {t : TypeId} (h : w'.heap[b]? = some (.cells arr t)) (i : Nat) (v : Value) (hv : arr[i]? = some v) : w'.cell? ⟨b, i, none⟩ = some v := by
  rw [cell_of_row w' b i _ _ _ h]
  exact hv
theorem zero_free {w' : World} {b : Nat} {arr : Array Value} {t : TypeId} (h : w'.heap[b]? = some (.cells arr t)) (i : Nat) : w'.frozen? ⟨b, i, none⟩ = false := frozen_of_row w' b i arr t h

theorem set4 {w : World} {b : Nat} {a0 a1 a2 a3 v0 v1 v2 v3 : Value} {t : TypeId} (h : w.heap[b]? = some (.cells #[a0, a1, a2, a3] t)) :
    ((((w.setCell ⟨b, 0, none⟩ v0).setCell ⟨b, 1, none⟩ v1).setCell ⟨b, 2, none⟩ v2).setCell ⟨b, 3, none⟩ v3).heap[b]? = some (.cells #[v0, v1, v2, v3] t) := by
  have h0 := heap_setCell_same w b 0 _ t v0 h
  have h1 := heap_setCell_same _ b 1 _ t v1 h0
  have h2 := heap_setCell_same _ b 2 _ t v2 h1
  have h3 := heap_setCell_same _ b 3 _ t v3 h2
  simpa using h3
theorem set4_below {B : Nat} {w0 w : World} {b : Nat} (hb : Below B w0 w) (h : B ≤ b) (v0 v1 v2 v3 : Value) :
    Below B w0 ((((w.setCell ⟨b, 0, none⟩ v0).setCell ⟨b, 1, none⟩ v1).setCell ⟨b, 2, none⟩ v2).setCell ⟨b, 3, none⟩ v3) :=
  (((hb.setCell h _).setCell h _).setCell h _).setCell h _

def zS (zu zt zc : List Int) (s : Nat) : List Int := if s = 0 then zu else if s = 1 then zt else zc
theorem alS_eq (u t c : ZN) (zu zt zc : List Int) (s : Nat) : alS (allowB u.a zu) (allowB t.a zt) (allowB c.a zc) s = allowB (nodeS u t c s).a (zS zu zt zc s) := by
  unfold alS nodeS zS
  by_cases h0 : s = 0
  · simp [h0]
  · by_cases h1 : s = 1
    · simp [h1]
    · simp [h0, h1]
theorem rdS {w : World} {u t c : ZN} {zu zt zc : List Int} (hu : Rd w u.a u.l u.c zu) (ht : Rd w t.a t.l t.c zt) (hc : Rd w c.a c.l c.c zc) (s : Nat) :
    Rd w (nodeS u t c s).a (nodeS u t c s).l (nodeS u t c s).c (zS zu zt zc s) := by
  unfold nodeS zS
  by_cases h0 : s = 0
  · simpa [h0] using hu
  · by_cases h1 : s = 1
    · simpa [h1] using ht
    · simpa [h0, h1] using hc

theorem nilRd (w : World) : Rd w none 0 0 [] := ⟨rfl, Nat.le_refl _, Nat.zero_le _, fun _ => rfl, fun hp => absurd hp (by simp), by simp⟩

end Go.Proofs.Qxb6618606a
