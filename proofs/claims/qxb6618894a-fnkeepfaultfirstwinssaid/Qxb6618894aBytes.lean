import Derived.Test.Qxb6618894aProg
import Derived.WalkKit
import Derived.WalkLawsBesides
import Derived.WalkSpells
import Derived.Deep.QuietTactic
import Derived.BigQuiet
import Derived.Laws.CopyOwn
import Derived.Lib.SliceRun
import Derived.Deep.LoopGhost
namespace Go.Proofs.Qxb6618894a
open Go.RowKit

/-- 'The slice '.slice a len cap' reads as the bytes zs in the world w.' -/
structure Rd (w : World) (a : Option Addr) (len cap : Nat) (zs : List Int) : Prop where
  len_eq : zs.length = len
  le_cap : len ≤ cap
  cap_le : cap ≤ maxLen
  nil : a = none → cap = 0
  cells : 0 < len → ∃ b off, a = some ⟨b, off, none⟩ ∧ b < w.heap.size ∧ ∀ i, i < len → w.cell? ⟨b, off + i, none⟩ = some (.int .u8 (zs.getD i 0))
  byte : ∀ z ∈ zs, 0 ≤ z ∧ z ≤ 255

theorem Rd.below {B : Nat} {w w' : World} {a : Option Addr} {len cap : Nat} {zs : List Int} (h : Rd w a len cap zs) (hb : Below B w w') (hB : ∀ x, a = some x → 0 < len → x.block < B) : Rd w' a len cap zs := by
  refine ⟨h.len_eq, h.le_cap, h.cap_le, h.nil, fun hp => ?_, h.byte⟩
  obtain ⟨b, off, e, hlt, hc⟩ := h.cells hp
  have hbB : b < B := hB _ e hp
  refine ⟨b, off, e, Nat.lt_of_lt_of_le hlt hb.size, fun i hi => ?_⟩
  rw [hb.cell (p := ⟨b, off + i, none⟩) hbB]
  exact hc i hi

theorem Rd.kept {w w' : World} {a : Option Addr} {len cap : Nat} {zs : List Int} (h : Rd w a len cap zs) (hb : Below w.heap.size w w') : Rd w' a len cap zs := by
  refine h.below hb fun x hx hp => ?_
  obtain ⟨b, off, e, hlt, _⟩ := h.cells hp
  rw [e] at hx
  cases hx
  exact hlt

theorem drewN_below (B : Nat) (w : World) (n : Nat) : Below B w (w.drewN n) := ⟨rfl, rfl, rfl, Nat.le_refl _, fun _ _ => rfl⟩

theorem Rd.drewN {w : World} {a : Option Addr} {len cap : Nat} {zs : List Int} (h : Rd w a len cap zs) (n : Nat) : Rd (w.drewN n) a len cap zs :=
  h.kept (drewN_below _ w n)

theorem Hid.of {p : Prop} (h : p) : Hid p := h

theorem Try.info5 : (Try.prog.info? 5).map (fun i => (i.zero, i.size, i.bytes)) = some (some (.int .u8 0), 1, 1) := by kernel_rfl
theorem Try.one5 : (Try.prog.info? 5).map (·.size) = some 1 := by kernel_rfl
theorem nil39 (w : World) (a : Option Addr) (n c n' c' : Nat) : (binOp .eql 39 (.slice a n c) (.slice none n' c')).run Try.prog w = .ok (.bool a.isNone) w := Lib.run_eql_slice_nil w 39 5 a n c n' c' Try.underlying39

theorem lt_of_heap {w : World} {b : Nat} {o : Obj} (h : w.heap[b]? = some o) : b < w.heap.size := (Array.getElem?_eq_some_iff.1 h).1
theorem heap_kept {w w' : World} {b : Nat} {o : Obj} (h : w.heap[b]? = some o) (hb : Below w.heap.size w w') : w'.heap[b]? = some o := by
  rw [hb.block b (lt_of_heap h)]; exact h
theorem newAt {w : World} {o : Obj} {k : Nat} (h : k = w.heap.size) : (w.alloc o).heap[k]? = some o := by
  subst h
  show (w.heap.push o)[w.heap.size]? = _
  simp
theorem add_block (x : Addr) (j : Nat) : (x.add j).block = x.block := by
  unfold Addr.add
  split <;> rfl

theorem rd_block {W : World} {b n cap : Nat} {e : TypeId} {arr : Array Value} {fr : Nat × Nat} {zs : List Int} (hg : W.heap[b]? = some (.cells arr e fr)) (ht : arr.toList.take n = zs.map (Value.int .u8))
    (hn : zs.length = n) (h1 : n ≤ cap) (h2 : cap ≤ maxLen) (hz : ∀ z ∈ zs, 0 ≤ z ∧ z ≤ 255) : Rd W (some ⟨b, 0, none⟩) n cap zs := by
  refine ⟨hn, h1, h2, by simp, fun _ => ⟨b, 0, rfl, (Array.getElem?_eq_some_iff.1 hg).1, fun i hi => ?_⟩, hz⟩
  rw [Nat.zero_add, cell_of_row W b i arr e fr hg]
  have hx : (arr.toList.take n)[i]? = some (.int .u8 (zs.getD i 0)) := by
    rw [ht]
    simp [List.getD, show i < zs.length by omega]
  rw [List.getElem?_take, if_pos hi] at hx
  simpa using hx

theorem rd_row {w : World} {g n : Nat} {L : List Value} {zs : List Int} (hg : w.heap[g]? = some (.cells L.toArray 5 (0, 0))) (hL : L = zs.map (Value.int .u8)) (hn : zs.length = n) (hm : n ≤ maxLen) (hz : ∀ z ∈ zs, 0 ≤ z ∧ z ≤ 255) :
    Rd w (some ⟨g, 0, none⟩) n n zs := by
  refine rd_block hg ?_ hn (Nat.le_refl _) hm hz
  rw [hL]
  exact List.take_of_length_le (by simp [hn])

theorem rd_news {w : World} {a : Option Addr} {len cap : Nat} {zs : List Int} (h : Rd w a len cap zs) : ∀ ad, a = some ad → ∀ j u, (zs.map (Value.int .u8))[j]? = some u → w.cell? (ad.add j) = some u := by
  intro ad had j u hu
  have hj : j < zs.length := by simpa using (List.getElem?_eq_some_iff.1 hu).1
  obtain ⟨b, off, e, _, hc⟩ := h.cells (by have := h.len_eq; omega)
  rw [e] at had
  cases had
  rw [Addr.add_lit, hc j (by rw [← h.len_eq]; exact hj)]
  rw [← hu]
  simp [List.getD, hj]

theorem made_block {w : World} {B g n : Nat} (h : w.ownsRow B 5 1 (.slice (some ⟨g, 0, none⟩) n n) n (madeCells (Value.int .u8 0).cells (n * 1)).toList) :
    w.heap[g]? = some (.cells (List.replicate n (Value.int .u8 0)).toArray 5 (0, 0)) := by
  rcases h.2 with ⟨h', _⟩ | ⟨g', cap, cur, h', _, hg, _, _, hs, ht⟩
  · simp at h'
  · simp only [Value.slice.injEq, Option.some.injEq, Addr.mk.injEq, and_true, true_and] at h'
    obtain ⟨rfl, rfl⟩ := h'
    rw [hg]
    have e : cur.toList = List.replicate n (Value.int .u8 0) := by
      rw [List.take_of_length_le (by simp [hs])] at ht
      rw [ht, Nat.mul_one]
      exact toList_madeCells_one _ _
    rw [← e]

/-! ### The plain function: where space stops -/
def blk (z : Int) : Bool := z == 32 || z == 9 || z == 10 || z == 13
def spc (zs : List Int) (p : Nat) : Nat := p + ((zs.drop p).takeWhile blk).length

theorem spc_step {zs : List Int} {p : Nat} (hp : p < zs.length) (h : blk (zs.getD p 0) = true) : spc zs (p + 1) = spc zs p := by
  unfold spc
  rw [List.drop_eq_getElem_cons hp]
  have e : blk zs[p] = true := by simpa [List.getD, hp] using h
  rw [List.takeWhile_cons, e]
  simp
  omega
theorem spc_stop {zs : List Int} {p : Nat} (hp : p < zs.length) (h : blk (zs.getD p 0) = false) : spc zs p = p := by
  unfold spc
  rw [List.drop_eq_getElem_cons hp]
  have e : blk zs[p] = false := by simpa [List.getD, hp] using h
  rw [List.takeWhile_cons, e]
  simp
theorem spc_end {zs : List Int} {p : Nat} (hp : zs.length ≤ p) : spc zs p = p := by
  unfold spc
  rw [List.drop_eq_nil_of_le hp]
  simp
theorem spc_ge (zs : List Int) (p : Nat) : p ≤ spc zs p := by unfold spc; omega
theorem spc_le {zs : List Int} {p : Nat} (hp : p ≤ zs.length) : spc zs p ≤ zs.length := by
  unfold spc
  have h : ((zs.drop p).takeWhile blk).length ≤ (zs.drop p).length := (List.takeWhile_sublist _).length_le
  rw [List.length_drop] at h
  omega
/-- Between p and the stop every byte is blank. -/
theorem spc_blank (zs : List Int) : ∀ (n p : Nat), spc zs p - p = n → p ≤ zs.length → ∀ i, p ≤ i → i < spc zs p → blk (zs.getD i 0) = true := by
  intro n
  induction n with
  | zero => intro p h _ i h1 h2; have := spc_ge zs p; omega
  | succ n ih =>
    intro p h hp i h1 h2
    have hl := spc_le hp
    have hlt : p < zs.length := by omega
    cases hb : blk (zs.getD p 0) with
    | false => rw [spc_stop hlt hb] at h; omega
    | true =>
      by_cases e : i = p
      · rw [e]; exact hb
      · have hs := spc_step hlt hb
        exact ih (p + 1) (by omega) (by omega) i (by omega) (by omega)
/-- At the stop there is no blank. -/
theorem spc_at (zs : List Int) : ∀ (n p : Nat), spc zs p - p = n → p ≤ zs.length → spc zs p < zs.length → blk (zs.getD (spc zs p) 0) = false := by
  intro n
  induction n with
  | zero =>
    intro p h hp hlt
    have hge := spc_ge zs p
    have e : spc zs p = p := by omega
    rw [e] at hlt ⊢
    cases hb : blk (zs.getD p 0) with
    | false => rfl
    | true =>
      have hs := spc_step hlt hb
      have := spc_ge zs (p + 1)
      omega
  | succ n ih =>
    intro p h hp hlt
    have hlt2 : p < zs.length := by omega
    cases hb : blk (zs.getD p 0) with
    | false => rw [spc_stop hlt2 hb] at h; omega
    | true =>
      have hs := spc_step hlt2 hb
      rw [← hs]
      exact ih (p + 1) (by omega) (by omega) (by omega)

theorem getD_append_left' {xs ys : List Int} {i : Nat} (h : i < xs.length) : (xs ++ ys).getD i 0 = xs.getD i 0 := by
  simp only [List.getD]
  rw [List.getElem?_append_left h]

/-- A run of blanks laid in at p moves the stop by its length. -/
theorem spc_insert (zs ws : List Int) (p : Nat) (hp : p ≤ zs.length) (hw : ∀ z ∈ ws, blk z = true) : spc (zs.take p ++ (ws ++ zs.drop p)) p = spc zs p + ws.length := by
  have hl : (zs.take p).length = p := by simp; omega
  have e : (zs.take p ++ (ws ++ zs.drop p)).drop p = ws ++ zs.drop p := by
    conv => lhs; arg 1; rw [← hl]
    exact List.drop_left
  unfold spc
  rw [e, List.takeWhile_append_of_pos hw, List.length_append]
  omega
/-- The stop over a ++ b. -/
theorem spc_cut (xs ys : List Int) (p : Nat) (hp : p ≤ xs.length) : spc (xs ++ ys) p = if xs.length ≤ spc xs p then xs.length + spc ys 0 else spc xs p := by
  have e : (xs ++ ys).drop p = xs.drop p ++ ys := by rw [List.drop_append_of_le_length hp]
  unfold spc
  rw [e]
  by_cases h : ∀ z ∈ xs.drop p, blk z = true
  · rw [List.takeWhile_append_of_pos h]
    have e2 : (xs.drop p).takeWhile blk = xs.drop p := by
      have := List.takeWhile_append_of_pos (l₂ := []) h
      simpa using this
    rw [e2, List.length_append, List.length_drop, if_pos (by omega)]
    simp
    omega
  · have h2 : ((xs.drop p).takeWhile blk).length < (xs.drop p).length := by
      have hle : ((xs.drop p).takeWhile blk).length ≤ (xs.drop p).length := (List.takeWhile_sublist _).length_le
      rcases Nat.lt_or_ge ((xs.drop p).takeWhile blk).length (xs.drop p).length with h3 | h3
      · exact h3
      · exfalso
        apply h
        intro z hz
        have e3 : (xs.drop p).takeWhile blk = xs.drop p := (List.takeWhile_sublist _).eq_of_length (by omega)
        rw [← e3] at hz
        have ha : ((xs.drop p).takeWhile blk).all blk = true := List.all_takeWhile
        exact List.all_eq_true.1 ha z hz
    have h3 : (xs.drop p ++ ys).takeWhile blk = (xs.drop p).takeWhile blk := by
      rw [List.takeWhile_append, if_neg (by omega)]
    rw [h3]
    rw [List.length_drop] at h2
    rw [if_neg (by omega)]

end Go.Proofs.Qxb6618894a
