import Derived.Test.Qxb6618606aBytes
import Derived.Lib.SliceRun
namespace Go.Proofs.Qxb6618606a
open Go.RowKit

theorem Hid.of {p : Prop} (h : p) : Hid p := h

/-- keyUsage absent, or its bit 6 (mask 2 of its first octet) set. -/
def allowB (a : Option Addr) (zs : List Int) : Bool := a.isNone || (decide (0 < zs.length) && (bits .and .u8 (zs.getD 0 0) 2 != 0))

theorem allowB_none (zs : List Int) : allowB none zs = true := rfl
theorem allowB_nil (x : Addr) : allowB (some x) [] = false := rfl
theorem allowB_some (x : Addr) (zs : List Int) (h : 0 < zs.length) : allowB (some x) zs = (bits .and .u8 (zs.getD 0 0) 2 != 0) := by
  simp [allowB, h]

theorem nil22 (w : World) (a : Option Addr) (n c n' c' : Nat) : (binOp .eql 22 (.slice a n c) (.slice none n' c')).run Try.prog w = .ok (.bool a.isNone) w := Lib.run_eql_slice_nil w 22 5 a n c n' c' Try.underlying22

theorem newKey_any (x y z : ByteArray) (n : Int) (w : World) :
    Calls Try.prog 18 #[.string x, .string y, .string z, .int .i64 n] w fun e w' => e = .returned (.agg #[.string x, .string y, .string z, .int .i64 n]) ∧ w' = w.alloc (.cells #[.string x, .string y, .string z, .int .i64 n] 39) := by
  go_enter Try.func18, Try.ntmps18
  go_wp2
  exact bodyPost_ret (v := .agg #[.string x, .string y, .string z, .int .i64 n]) (by simp [results, Try.results18, go_sem]) rfl ⟨rfl, rfl⟩

set_option maxRecDepth 100000 in
theorem allowsLaw_any (a : Option Addr) (l c : Nat) (zs : List Int) (w : World) (h : Rd w a l c zs) :
    Calls Try.prog 26 #[.slice a l c] w fun e w' => e = .returned (.bool (allowB a zs)) ∧ w' = w := by
  have hnil := nil22
  have hl := h.len_eq
  cases a with
  | none =>
    rw [allowB_none]
    clear h hl
    go_enter Try.func26, Try.ntmps26
    go_wp2
    go_ret
    exact ⟨rfl, rfl⟩
  | some x =>
    rcases Nat.eq_zero_or_pos l with h0 | hp
    · subst h0
      have e := List.eq_nil_of_length_eq_zero hl
      subst e
      rw [allowB_nil]
      clear h hl
      go_enter Try.func26, Try.ntmps26
      go_wp2
      go_ret
      exact ⟨rfl, rfl⟩
    · rw [allowB_some x zs (by omega)]
      obtain ⟨b, off, e, _, hc⟩ := h.cells hp
      cases e
      have hc0 := hc 0 hp
      rw [Nat.add_zero] at hc0
      generalize zs.getD 0 0 = z at *
      have hpi : (0 : Int) < (l : Int) := by omega
      clear h hl hc
      go_enter Try.func26, Try.ntmps26
      go_wp2
      go_ret
      exact ⟨rfl, rfl⟩

set_option maxRecDepth 100000 in
theorem hasBit_any (a : Option Addr) (l c : Nat) (zs : List Int) (w : World) (h : Rd w a l c zs) (ha : a ≠ none) :
    Calls Try.prog 45 #[.slice a l c, .int .i64 6] w fun e w' => e = .returned (.bool (allowB a zs)) ∧ ∃ n, w' = w.drewN n := by
  have hl := h.len_eq
  cases a with
  | none => exact absurd rfl ha
  | some x =>
    clear ha
    rcases Nat.eq_zero_or_pos l with h0 | hp
    · subst h0
      have e := List.eq_nil_of_length_eq_zero hl
      subst e
      rw [allowB_nil]
      clear h hl
      go_enter Try.func45, Try.ntmps45
      go_wp2
      go_quiet (fail)
      go_wp2
      go_ret
      exact ⟨rfl, _, rfl⟩
    · rw [allowB_some x zs (by omega)]
      obtain ⟨b, off, e, _, hc⟩ := h.cells hp
      cases e
      have hc0 := hc 0 hp
      rw [Nat.add_zero] at hc0
      generalize zs.getD 0 0 = z at *
      have hpi : (0 : Int) < (l : Int) := by omega
      clear h hl hc
      go_enter Try.func45, Try.ntmps45
      go_wp2
      go_quiet (fail)
      go_wp2
      go_ret
      exact ⟨rfl, _, rfl⟩

set_option maxRecDepth 100000 in
theorem allows_any (a : Option Addr) (l c : Nat) (zs : List Int) (w : World) (h : Rd w a l c zs) :
    Calls Try.prog 41 #[.agg #[.bool false, .int .i64 (-1), .slice a l c, .bool false], .int .i64 6] w fun e w' => e = .returned (.bool (allowB a zs)) ∧ Below w.heap.size w w' := by
  have hnil := nil22
  cases a with
  | none =>
    rw [allowB_none]
    clear h
    go_enter Try.func41, Try.ntmps41
    go_wp2
    go_ret
    exact ⟨rfl, (Below.refl _ _).alloc (Nat.le_refl _) _⟩
  | some x =>
    have hb1 : Below w.heap.size w (w.alloc (.cells #[.bool false, .int .i64 (-1), .slice (some x) l c, .bool false] 109)) := (Below.refl _ _).alloc (Nat.le_refl _) _
    have hh := Hid.of (hasBit_any (some x) l c zs _ (h.kept hb1) (by simp))
    have hb2 := Hid.of hb1
    clear h hb1
    go_enter Try.func41, Try.ntmps41
    go_wp2_with fail
    refine hh.out.mono ?_
    rintro e w' ⟨rfl, n, rfl⟩
    clear hh
    go_wp2_with fail
    go_ret
    exact ⟨rfl, hb2.out.trans (drewN_below _ _ _)⟩

/-- A public key: its algorithm's OID, its parameters, its octets, its size. -/
structure PK where
  x : ByteArray
  y : ByteArray
  z : ByteArray
  n : Int
def PK.cells (k : PK) : Array Value := #[.string k.x, .string k.y, .string k.z, .int .i64 k.n]

def crlObj (x : ByteArray) : Obj := .cells #[.pointer none, .string x, .string ⟨#[]⟩, .string ⟨#[]⟩, .map none, .bool false, .bool false, .bool false, .int .u16 0, .bool false, .map none, .map none, .slice none 0 0, .slice none 0 0, .slice none 0 0] 87
def scopeObj (d : Bool) : Obj := .cells #[.slice none 0 0, .slice none 0 0, .int .u16 0, .bool d] 90
def certObj : Obj := .cells #[.slice none 0 0, .slice none 0 0, .int .i64 0, .slice none 0 0, .string ⟨#[]⟩, .slice none 0 0, .slice none 0 0, .slice none 0 0, .int .u64 0, .int .i64 0, .pointer none, .int .u64 0, .int .i64 0, .pointer none, .slice none 0 0, .slice none 0 0, .slice none 0 0, .string ⟨#[]⟩, .slice none 0 0, .slice none 0 0, .int .i64 0, .int .i64 0, .bool false, .string ⟨#[]⟩, .slice none 0 0, .slice none 0 0, .int .i64 0] 107
def nodeObj (cb : Nat) (s i : ByteArray) (k : PK) (a : Option Addr) (l c : Nat) : Obj := .cells #[.pointer (some ⟨cb, 0, none⟩), .string s, .string i, .string k.x, .string k.y, .string k.z, .int .i64 k.n, .bool false, .int .i64 (-1), .slice a l c, .bool false, .pointer none] 112

def NodeAt (w : World) (b : Nat) (s i : ByteArray) (k : PK) (a : Option Addr) (l c : Nat) : Prop :=
  ∃ cb, w.heap[b]? = some (nodeObj cb s i k a l c) ∧ w.heap[cb]? = some certObj
def CrlAt (w : World) (b : Nat) (x : ByteArray) : Prop := w.heap[b]? = some (crlObj x)
def ScopeAt (w : World) (b : Nat) (d : Bool) : Prop := w.heap[b]? = some (scopeObj d)

theorem lt_of_heap {w : World} {b : Nat} {o : Obj} (h : w.heap[b]? = some o) : b < w.heap.size := (Array.getElem?_eq_some_iff.1 h).1
theorem heap_kept {w w' : World} {b : Nat} {o : Obj} (h : w.heap[b]? = some o) (hb : Below w.heap.size w w') : w'.heap[b]? = some o := by
  rw [hb.block b (lt_of_heap h)]; exact h
theorem NodeAt.kept {w w' : World} {b : Nat} {s i : ByteArray} {k : PK} {a : Option Addr} {l c : Nat} (h : NodeAt w b s i k a l c) (hb : Below w.heap.size w w') : NodeAt w' b s i k a l c := by
  obtain ⟨cb, h1, h2⟩ := h
  exact ⟨cb, heap_kept h1 hb, heap_kept h2 hb⟩
theorem CrlAt.kept {w w' : World} {b : Nat} {x : ByteArray} (h : CrlAt w b x) (hb : Below w.heap.size w w') : CrlAt w' b x := heap_kept h hb
theorem ScopeAt.kept {w w' : World} {b : Nat} {d : Bool} (h : ScopeAt w b d) (hb : Below w.heap.size w w') : ScopeAt w' b d := heap_kept h hb

theorem newAt {w : World} {o : Obj} {k : Nat} (h : k = w.heap.size) : (w.alloc o).heap[k]? = some o := by
  subst h
  show (w.heap.push o)[w.heap.size]? = _
  simp

theorem newCRL_any (x : ByteArray) (w : World) :
    Calls Try.prog 19 #[.string x] w fun e w' => ∃ b, e = .returned (.pointer (some ⟨b, 0, none⟩)) ∧ CrlAt w' b x ∧ Below w.heap.size w w' := by
  go_enter Try.func19, Try.ntmps19
  go_wp2
  go_ret
  exact ⟨_, rfl, newAt rfl, (Below.refl _ _).alloc (Nat.le_refl _) _⟩

theorem newScope_any (d : Bool) (w : World) :
    Calls Try.prog 20 #[.bool d] w fun e w' => ∃ b, e = .returned (.pointer (some ⟨b, 0, none⟩)) ∧ ScopeAt w' b d ∧ Below w.heap.size w w' := by
  go_enter Try.func20, Try.ntmps20
  go_wp2
  go_ret
  exact ⟨_, rfl, newAt rfl, (Below.refl _ _).alloc (Nat.le_refl _) _⟩

theorem newNode_any (s i : ByteArray) (a : Option Addr) (l c : Nat) (k : PK) (w : World) :
    Calls Try.prog 21 #[.string s, .string i, .slice a l c, .agg #[.string k.x, .string k.y, .string k.z, .int .i64 k.n]] w fun e w' => ∃ b, e = .returned (.pointer (some ⟨b, 0, none⟩)) ∧ NodeAt w' b s i k a l c ∧ Below w.heap.size w w' := by
  go_enter Try.func21, Try.ntmps21
  go_wp2
  go_ret
  refine ⟨_, rfl, ⟨w.heap.size + 1, ?_, ?_⟩, (((Below.refl _ _).alloc (Nat.le_refl _) _).alloc (by simp) _).alloc (by simp; omega) _⟩
  · exact newAt (by simp)
  · rw [Below.heap_alloc _ _ _ (by simp)]
    exact newAt (by simp)

theorem working_any (b : Nat) (s i : ByteArray) (k : PK) (a : Option Addr) (l c : Nat) (j : PK) (w : World) (h : NodeAt w b s i k a l c) :
    Calls Try.prog 42 #[.pointer (some ⟨b, 0, none⟩), .agg #[.string j.x, .string j.y, .string j.z, .int .i64 j.n]] w fun e w' => e = .returned (.agg #[.string k.x, .string k.y, .string k.z, .int .i64 k.n]) ∧ Below w.heap.size w w' := by
  obtain ⟨cb, h1, h2⟩ := h
  have l1 := lt_of_heap h1
  have l2 := lt_of_heap h2
  have c0 : w.cell? ⟨b, 0, none⟩ = some (.pointer (some ⟨cb, 0, none⟩)) := cell_of_row w b 0 _ _ _ h1
  have c3 : w.cell? ⟨b, 3, none⟩ = some (.string k.x) := cell_of_row w b 3 _ _ _ h1
  have c4 : w.cell? ⟨b, 4, none⟩ = some (.string k.y) := cell_of_row w b 4 _ _ _ h1
  have c5 : w.cell? ⟨b, 5, none⟩ = some (.string k.z) := cell_of_row w b 5 _ _ _ h1
  have c6 : w.cell? ⟨b, 6, none⟩ = some (.int .i64 k.n) := cell_of_row w b 6 _ _ _ h1
  have d : w.cell? ⟨cb, 22, none⟩ = some (.bool false) := cell_of_row w cb 22 _ _ _ h2
  clear h1 h2
  go_enter Try.func42, Try.ntmps42
  go_wp2
  exact bodyPost_ret (v := .agg #[.string k.x, .string k.y, .string k.z, .int .i64 k.n]) (by simp [results, Try.results42, go_sem]) rfl ⟨rfl, ((Below.refl _ _).alloc (Nat.le_refl _) _).alloc (by simp) _⟩

theorem fields_any (k : PK) (w : World) :
    Calls Try.prog 24 #[.agg #[.string k.x, .string k.y, .string k.z, .int .i64 k.n]] w fun e w' => e = .returned (.tuple #[.string k.x, .string k.y, .string k.z, .int .i64 k.n]) ∧ Below w.heap.size w w' := by
  go_enter Try.func24, Try.ntmps24
  go_wp2
  go_quiet (fail)
  go_wp2
  exact bodyPost_ret (v := .tuple #[.string k.x, .string k.y, .string k.z, .int .i64 k.n]) (by simp [results, Try.results24, go_sem]) rfl ⟨rfl, ((Below.refl _ _).alloc (Nat.le_refl _) _).trans (drewN_below _ _ _)⟩

theorem matches_any (k : PK) (w : World) :
    Calls Try.prog 25 #[.string k.x, .string k.y, .string k.z, .int .i64 k.n, .agg #[.string k.x, .string k.y, .string k.z, .int .i64 k.n]] w fun e w' => e = .returned (.bool true) ∧ Below w.heap.size w w' := by
  go_enter Try.func25, Try.ntmps25
  go_wp2
  go_ret
  exact ⟨rfl, (Below.refl _ _).alloc (Nat.le_refl _) _⟩

end Go.Proofs.Qxb6618606a
