import Derived.Test.Qxb6618894aSpace
import Derived.Deep.DeepCutAuto
import Derived.Deep.RegionHeld3
namespace Go.Proofs.Qxb6618894a
open Go.RowKit

def SomeBool (e : Ending) : Prop := ∃ b, e = .returned (.bool b)
theorem someBool (b : Bool) : SomeBool (.returned (.bool b)) := ⟨b, rfl⟩

/-- One call of the script. -/
structure FC where
  F : ByteArray
  T : ByteArray
  N : Bool
/-- 'The slice reads as the script f in the world w.' -/
structure CRd (w : World) (a : Option Addr) (l c : Nat) (f : Nat → FC) : Prop where
  le_cap : l ≤ c
  cap_le : c ≤ maxLen
  cells : 0 < l → ∃ b off, a = some ⟨b, off, none⟩ ∧ b < w.heap.size ∧ ∀ i, i < l → w.cell? ⟨b, off + i * 3, none⟩ = some (.string (f i).F) ∧ w.cell? ⟨b, off + i * 3 + 1, none⟩ = some (.string (f i).T) ∧ w.cell? ⟨b, off + i * 3 + 2, none⟩ = some (.bool (f i).N)

theorem CRd.kept {w w' : World} {a : Option Addr} {l c : Nat} {f : Nat → FC} (h : CRd w a l c f) (hb : Below w.heap.size w w') : CRd w' a l c f := by
  refine ⟨h.le_cap, h.cap_le, fun hp => ?_⟩
  obtain ⟨b, off, e, hlt, hc⟩ := h.cells hp
  refine ⟨b, off, e, Nat.lt_of_lt_of_le hlt hb.size, fun i hi => ?_⟩
  rw [hb.cell (p := ⟨b, off + i * 3, none⟩) hlt, hb.cell (p := ⟨b, off + i * 3 + 1, none⟩) hlt, hb.cell (p := ⟨b, off + i * 3 + 2, none⟩) hlt]
  exact hc i hi

set_option maxRecDepth 100000 in
set_option maxHeartbeats 2000000 in
theorem bytes8_any (a : Option Addr) (l c : Nat) (f : Nat → FC) (w : World) (h : CRd w a l c f) :
    Calls Try.prog 8 #[.slice a l c] w fun e w' => SomeBool e ∧ w' = w := by
  have HR := Hid.of h
  clear h
  by_cases hl : 1048576 < l
  · go_enter Try.func8, Try.ntmps8
    go_wp2
    go_ret
    exact ⟨someBool _, rfl⟩
  go_enter Try.func8, Try.ntmps8
  go_wp2
  go_loopg [3, 4] l (fun g s3 s4 wx => wx = w ∧ ∃ (k : Nat) (m : Int), k ≤ l ∧ g = l - k ∧ s4 = .int .i64 k ∧ s3 = .int .i64 m ∧ 0 ≤ m ∧ m ≤ 1048576)
  case atStart => exact ⟨rfl, 0, l, Nat.zero_le _, rfl, rfl, rfl, by omega, by omega⟩
  case round =>
    obtain ⟨rfl, k, m, hk, rfl, rfl, rfl, hm0, hm1⟩ := hrel
    by_cases hlt : k < l
    · obtain ⟨b, off, rfl, hb, hc⟩ := HR.out.cells (by omega)
      obtain ⟨q0, q1, q2⟩ := hc k hlt
      clear hc
      go_wp2
      iterate 4
        · go_ret
          exact ⟨someBool _, rfl⟩
      go_roundg (l - (k + 1))
      case measure => omega
      case rel => exact ⟨rfl, k + 1, _, by omega, rfl, by go_num, rfl, by omega, by assumption⟩
    · go_wp2
      go_ret
      exact ⟨someBool _, rfl⟩

/-- The decoder with its fault; the fault's own block. -/
def decF (v : Value) : Obj := .cells #[.slice none 0 0, .int .i64 0, .int .i64 0, .map none, v] 58
def feObj (F : ByteArray) (v : Value) : Obj := .cells #[.string F, v] 37

theorem newDec0_any (w : World) :
    Calls Try.prog 9 #[.slice none 0 0, .int .i64 0] w fun e w' => e = .returned (.pointer (some ⟨w.heap.size, 0, none⟩)) ∧ w' = w.alloc (decF .nilIface) := newDec_any none 0 0 0 w

theorem newFE_any (T : ByteArray) (w : World) :
    Calls Try.prog 11 #[.string T] w fun e w' => e = .returned (.pointer (some ⟨w.heap.size, 0, none⟩)) ∧ w' = w.alloc (feObj T .nilIface) := by
  go_enter Try.func11, Try.ntmps11
  go_wp2
  go_ret
  exact ⟨rfl, rfl⟩

theorem fault_any (b : Nat) (w : World) (h : w.heap[b]? = some (decF .nilIface)) :
    Calls Try.prog 10 #[.pointer (some ⟨b, 0, none⟩)] w fun e w' => e = .returned .nilIface ∧ w' = w := by
  have c4 : w.cell? ⟨b, 4, none⟩ = some .nilIface := cell_of_row w b 4 _ _ _ h
  clear h
  go_enter Try.func10, Try.ntmps10
  go_wp2
  go_ret
  exact ⟨rfl, rfl⟩

theorem keep_first (b : Nat) (F : ByteArray) (v : Value) (hv : v = .nilIface ∨ ∃ x, v = .iface 31 (.pointer x)) (w : World) (h : w.heap[b]? = some (decF .nilIface)) :
    Calls Try.prog 29 #[.pointer (some ⟨b, 0, none⟩), .string F, v] w fun e w' => e = .returned (.tuple #[]) ∧ w' = (w.setCell ⟨b, 4, none⟩ (.iface 31 (.pointer (some ⟨w.heap.size, 0, none⟩)))).alloc (feObj F v) := by
  have c4 : w.cell? ⟨b, 4, none⟩ = some .nilIface := cell_of_row w b 4 _ _ _ h
  have f4 : w.frozen? ⟨b, 4, none⟩ = false := frozen_of_row w b 4 _ _ h
  have hb := lt_of_heap h
  clear h
  rcases hv with rfl | ⟨x, rfl⟩
  all_goals
    go_enter Try.func29, Try.ntmps29
    go_wp2
    go_end0
    exact ⟨rfl, rfl⟩

theorem keep_later (b : Nat) (F : ByteArray) (v : Value) (x : Option Addr) (w : World) (h : w.heap[b]? = some (decF (.iface 31 (.pointer x)))) :
    Calls Try.prog 29 #[.pointer (some ⟨b, 0, none⟩), .string F, v] w fun e w' => e = .returned (.tuple #[]) ∧ w' = w := by
  have c4 : w.cell? ⟨b, 4, none⟩ = some (.iface 31 (.pointer x)) := cell_of_row w b 4 _ _ _ h
  clear h
  go_enter Try.func29, Try.ntmps29
  go_wp2
  go_end0
  exact ⟨rfl, rfl⟩

/-- What the first call leaves: the decoder's fault, and its block; nothing below the decoder has turned. -/
theorem first_facts {w : World} {b : Nat} {F : ByteArray} {v : Value} (h : w.heap[b]? = some (decF .nilIface)) :
    let w' := (w.setCell ⟨b, 4, none⟩ (.iface 31 (.pointer (some ⟨w.heap.size, 0, none⟩)))).alloc (feObj F v)
    w'.heap[b]? = some (decF (.iface 31 (.pointer (some ⟨w.heap.size, 0, none⟩)))) ∧ w'.heap[w.heap.size]? = some (feObj F v) ∧ Below b w w' ∧ (∀ k, k ≠ b → k < w.heap.size → w'.heap[k]? = w.heap[k]?) := by
  intro w'
  have hb := lt_of_heap h
  have h1 := heap_setCell_same w b 4 _ 58 (.iface 31 (.pointer (some ⟨w.heap.size, 0, none⟩))) h
  refine ⟨?_, newAt (by simp), ?_, fun k hk hlt => ?_⟩
  · rw [Below.heap_alloc _ _ _ (by simpa using hb)]
    simpa [decF] using h1
  · exact ((Below.refl b w).setCell (p := ⟨b, 4, none⟩) (Nat.le_refl b) _).alloc (by simp; omega) _
  · rw [Below.heap_alloc _ _ _ (by simpa using hlt), Below.heap_setCell _ _ _ _ hk]

theorem keepNil_first (b : Nat) (F : ByteArray) (w : World) (h : w.heap[b]? = some (decF .nilIface)) :
    Calls Try.prog 12 #[.pointer (some ⟨b, 0, none⟩), .string F] w fun e w' => e = .returned (.tuple #[]) ∧ w' = (w.setCell ⟨b, 4, none⟩ (.iface 31 (.pointer (some ⟨w.heap.size, 0, none⟩)))).alloc (feObj F .nilIface) := by
  have hc := Hid.of (keep_first b F .nilIface (.inl rfl) w h)
  clear h
  go_enter Try.func12, Try.ntmps12
  go_wp2_with fail
  refine hc.out.mono ?_
  rintro e w' ⟨rfl, rfl⟩
  go_wp2_with fail
  go_end0
  exact ⟨rfl, rfl⟩
theorem keepNil_later (b : Nat) (F : ByteArray) (x : Option Addr) (w : World) (h : w.heap[b]? = some (decF (.iface 31 (.pointer x)))) :
    Calls Try.prog 12 #[.pointer (some ⟨b, 0, none⟩), .string F] w fun e w' => e = .returned (.tuple #[]) ∧ w' = w := by
  have hc := Hid.of (keep_later b F .nilIface x w h)
  clear h
  go_enter Try.func12, Try.ntmps12
  go_wp2_with fail
  refine hc.out.mono ?_
  rintro e w' ⟨rfl, rfl⟩
  go_wp2_with fail
  go_end0
  exact ⟨rfl, rfl⟩
theorem keepErr_first (b : Nat) (F : ByteArray) (y : Option Addr) (w : World) (h : w.heap[b]? = some (decF .nilIface)) :
    Calls Try.prog 13 #[.pointer (some ⟨b, 0, none⟩), .string F, .pointer y] w fun e w' => e = .returned (.tuple #[]) ∧ w' = (w.setCell ⟨b, 4, none⟩ (.iface 31 (.pointer (some ⟨w.heap.size, 0, none⟩)))).alloc (feObj F (.iface 31 (.pointer y))) := by
  have hc := Hid.of (keep_first b F (.iface 31 (.pointer y)) (.inr ⟨y, rfl⟩) w h)
  clear h
  go_enter Try.func13, Try.ntmps13
  go_wp2_with fail
  refine hc.out.mono ?_
  rintro e w' ⟨rfl, rfl⟩
  go_wp2_with fail
  go_end0
  exact ⟨rfl, rfl⟩
theorem keepErr_later (b : Nat) (F : ByteArray) (y x : Option Addr) (w : World) (h : w.heap[b]? = some (decF (.iface 31 (.pointer x)))) :
    Calls Try.prog 13 #[.pointer (some ⟨b, 0, none⟩), .string F, .pointer y] w fun e w' => e = .returned (.tuple #[]) ∧ w' = w := by
  have hc := Hid.of (keep_later b F (.iface 31 (.pointer y)) x w h)
  clear h
  go_enter Try.func13, Try.ntmps13
  go_wp2_with fail
  refine hc.out.mono ?_
  rintro e w' ⟨rfl, rfl⟩
  go_wp2_with fail
  go_end0
  exact ⟨rfl, rfl⟩

theorem assert31 (W : World) (x : Option Addr) : (Instr.typeAssert (.iface 31 (.pointer x)) 29 31 true).run Try.prog W = .ok (.tuple #[.pointer x, .bool true]) W := by
  simp [Instr.typeAssert, run_underlying Try.underlying31]

set_option maxRecDepth 100000 in
theorem asFE_any (b : Nat) (x : Option Addr) (w : World) (h : w.heap[b]? = some (decF (.iface 31 (.pointer x)))) :
    Calls Try.prog 14 #[.pointer (some ⟨b, 0, none⟩)] w fun e w' => e = .returned (.pointer x) ∧ w' = w := by
  have c4 : w.cell? ⟨b, 4, none⟩ = some (.iface 31 (.pointer x)) := cell_of_row w b 4 _ _ _ h
  clear h
  have hta := assert31
  go_enter Try.func14, Try.ntmps14
  go_wp2
  go_ret
  exact ⟨rfl, rfl⟩
set_option maxRecDepth 100000 in
theorem inner_any (b : Nat) (F : ByteArray) (x : Option Addr) (w : World) (h : w.heap[b]? = some (feObj F (.iface 31 (.pointer x)))) :
    Calls Try.prog 15 #[.pointer (some ⟨b, 0, none⟩)] w fun e w' => e = .returned (.pointer x) ∧ w' = w := by
  have c1 : w.cell? ⟨b, 1, none⟩ = some (.iface 31 (.pointer x)) := cell_of_row w b 1 _ _ _ h
  clear h
  have hta := assert31
  go_enter Try.func15, Try.ntmps15
  go_wp2
  go_ret
  exact ⟨rfl, rfl⟩
end Go.Proofs.Qxb6618894a
