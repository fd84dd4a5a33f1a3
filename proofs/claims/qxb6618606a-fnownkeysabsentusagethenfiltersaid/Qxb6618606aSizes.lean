import Derived.Test.Qxb6618606aOwn
namespace Go.Proofs.Qxb6618606a
open Go.RowKit

/-- A node of the law's own, as a value. -/
structure ZN where
  s : ByteArray
  i : ByteArray
  a : Option Addr
  l : Nat
  c : Nat
  k : PK

/-- The call has ended with some bool. -/
def SomeBool (e : Ending) : Prop := ∃ b, e = .returned (.bool b)
theorem someBool (b : Bool) : SomeBool (.returned (.bool b)) := ⟨b, rfl⟩

theorem keyBig_any (k : PK) (w : World) :
    Calls Try.prog 34 #[.agg #[.string k.x, .string k.y, .string k.z, .int .i64 k.n]] w fun e w' => SomeBool e ∧ Below w.heap.size w w' := by
  go_enter Try.func34, Try.ntmps34
  go_wp2
  all_goals go_ret
  all_goals exact ⟨someBool _, (Below.refl _ _).alloc (Nat.le_refl _) _⟩

theorem keyBytes_any (k : PK) (w : World) :
    Calls Try.prog 36 #[.agg #[.string k.x, .string k.y, .string k.z, .int .i64 k.n]] w fun e w' => ∃ n, e = .returned (.int .i64 n) ∧ Below w.heap.size w w' := by
  go_enter Try.func36, Try.ntmps36
  go_wp2
  all_goals go_ret
  exact ⟨_, rfl, (Below.refl _ _).alloc (Nat.le_refl _) _⟩

theorem nodeBig_any (q : ZN) (w : World) :
    Calls Try.prog 35 #[.agg #[.string q.s, .string q.i, .slice q.a q.l q.c, .string q.k.x, .string q.k.y, .string q.k.z, .int .i64 q.k.n]] w fun e w' => SomeBool e ∧ Below w.heap.size w w' := by
  go_enter Try.func35, Try.ntmps35
  go_wp2_with (go_at_call 34; refine (keyBig_any q.k _).mono ?_; rintro e w' ⟨⟨b, rfl⟩, hb⟩)
  all_goals go_ret
  all_goals first | exact ⟨someBool _, (Below.refl _ _).alloc (Nat.le_refl _) _⟩ | exact ⟨someBool _, ((Below.refl _ _).alloc (Nat.le_refl _) _).trans (hb.mono (by simp))⟩

set_option maxRecDepth 100000 in
set_option maxHeartbeats 1000000 in
theorem nodeBytes_any (q : ZN) (w : World) :
    Calls Try.prog 37 #[.agg #[.string q.s, .string q.i, .slice q.a q.l q.c, .string q.k.x, .string q.k.y, .string q.k.z, .int .i64 q.k.n]] w fun e w' => ∃ n, e = .returned (.int .i64 n) ∧ Below w.heap.size w w' := by
  go_enter Try.func37, Try.ntmps37
  go_wp2_with fail
  obtain ⟨w1, hw1⟩ : ∃ w1, w1 = w.alloc (.cells #[.string q.s, .string q.i, .slice q.a q.l q.c, .string q.k.x, .string q.k.y, .string q.k.z, .int .i64 q.k.n] 32) := ⟨_, rfl⟩
  rw [← hw1]
  have b0 : w1.heap[w.heap.size]? = some (.cells #[.string q.s, .string q.i, .slice q.a q.l q.c, .string q.k.x, .string q.k.y, .string q.k.z, .int .i64 q.k.n] 32) := by rw [hw1]; exact newAt rfl
  have hb1 := Hid.of (show Below w.heap.size w w1 by rw [hw1]; exact (Below.refl _ _).alloc (Nat.le_refl _) _)
  clear hw1
  have f0 : w1.cell? ⟨w.heap.size, 0, none⟩ = some (.string q.s) := cell_of_row w1 _ 0 _ _ _ b0
  have f1 : w1.cell? ⟨w.heap.size, 1, none⟩ = some (.string q.i) := cell_of_row w1 _ 1 _ _ _ b0
  have f2 : w1.cell? ⟨w.heap.size, 2, none⟩ = some (.slice q.a q.l q.c) := cell_of_row w1 _ 2 _ _ _ b0
  have f3 : w1.cell? ⟨w.heap.size, 3, none⟩ = some (.string q.k.x) := cell_of_row w1 _ 3 _ _ _ b0
  have f4 : w1.cell? ⟨w.heap.size, 4, none⟩ = some (.string q.k.y) := cell_of_row w1 _ 4 _ _ _ b0
  have f5 : w1.cell? ⟨w.heap.size, 5, none⟩ = some (.string q.k.z) := cell_of_row w1 _ 5 _ _ _ b0
  have f6 : w1.cell? ⟨w.heap.size, 6, none⟩ = some (.int .i64 q.k.n) := cell_of_row w1 _ 6 _ _ _ b0
  clear b0
  go_region_held3 (fun w' => w'.cell? ⟨w.heap.size, 0, none⟩ = some (.string q.s) ∧ w'.cell? ⟨w.heap.size, 1, none⟩ = some (.string q.i) ∧ w'.cell? ⟨w.heap.size, 2, none⟩ = some (.slice q.a q.l q.c) ∧ w'.cell? ⟨w.heap.size, 3, none⟩ = some (.string q.k.x) ∧ w'.cell? ⟨w.heap.size, 4, none⟩ = some (.string q.k.y) ∧ w'.cell? ⟨w.heap.size, 5, none⟩ = some (.string q.k.z) ∧ w'.cell? ⟨w.heap.size, 6, none⟩ = some (.int .i64 q.k.n)) (go_keep) (first | (go_at_call 36; refine (keyBytes_any q.k _).mono ?_; rintro e w' ⟨n, rfl, hbb⟩; have g0 := keep_cell hbb f0; have g1 := keep_cell hbb f1; have g2 := keep_cell hbb f2; have g3 := keep_cell hbb f3; have g4 := keep_cell hbb f4; have g5 := keep_cell hbb f5; have g6 := keep_cell hbb f6))
  all_goals go_wp2_with fail
  all_goals go_ret
  all_goals exact ⟨_, rfl, hb1.out.trans ((((Below.refl _ _).drew).trans hbb).mono hb1.out.size)⟩

theorem base_t {P : Program} {f : FuncId} {args : Array Value} {w0 w : World} {Q : Ending → Prop} (hB : Below w0.heap.size w0 w) (h : Calls P f args w fun e w' => Q e ∧ Below w.heap.size w w') :
    Calls P f args w fun e w' => Q e ∧ Below w0.heap.size w0 w' ∧ (∀ b o, b < w0.heap.size → w'.cell? ⟨b, o, none⟩ = w0.cell? ⟨b, o, none⟩) :=
  h.mono fun _ _ ⟨hq, hb⟩ => ⟨hq, hB.trans (hb.mono hB.size), fun b o hlt => (hB.trans (hb.mono hB.size)).cell (p := ⟨b, o, none⟩) hlt⟩

def SomeInt (e : Ending) : Prop := ∃ n, e = .returned (.int .i64 n)

theorem keyBig_t {w0 w : World} (hB : Below w0.heap.size w0 w) (x y z : ByteArray) (n : Int) :
    Calls Try.prog 34 #[.agg #[.string x, .string y, .string z, .int .i64 n]] w fun e w' => SomeBool e ∧ Below w0.heap.size w0 w' ∧ (∀ b o, b < w0.heap.size → w'.cell? ⟨b, o, none⟩ = w0.cell? ⟨b, o, none⟩) :=
  base_t hB (keyBig_any ⟨x, y, z, n⟩ w)
theorem nodeBig_t {w0 w : World} (hB : Below w0.heap.size w0 w) (s i : ByteArray) (a : Option Addr) (l c : Nat) (x y z : ByteArray) (n : Int) :
    Calls Try.prog 35 #[.agg #[.string s, .string i, .slice a l c, .string x, .string y, .string z, .int .i64 n]] w fun e w' => SomeBool e ∧ Below w0.heap.size w0 w' ∧ (∀ b o, b < w0.heap.size → w'.cell? ⟨b, o, none⟩ = w0.cell? ⟨b, o, none⟩) :=
  base_t hB (nodeBig_any ⟨s, i, a, l, c, ⟨x, y, z, n⟩⟩ w)
theorem keyBytes_t {w0 w : World} (hB : Below w0.heap.size w0 w) (x y z : ByteArray) (n : Int) :
    Calls Try.prog 36 #[.agg #[.string x, .string y, .string z, .int .i64 n]] w fun e w' => SomeInt e ∧ Below w0.heap.size w0 w' ∧ (∀ b o, b < w0.heap.size → w'.cell? ⟨b, o, none⟩ = w0.cell? ⟨b, o, none⟩) :=
  base_t hB ((keyBytes_any ⟨x, y, z, n⟩ w).mono fun _ _ ⟨m, he, hb⟩ => ⟨⟨m, he⟩, hb⟩)
theorem nodeBytes_t {w0 w : World} (hB : Below w0.heap.size w0 w) (s i : ByteArray) (a : Option Addr) (l c : Nat) (x y z : ByteArray) (n : Int) :
    Calls Try.prog 37 #[.agg #[.string s, .string i, .slice a l c, .string x, .string y, .string z, .int .i64 n]] w fun e w' => SomeInt e ∧ Below w0.heap.size w0 w' ∧ (∀ b o, b < w0.heap.size → w'.cell? ⟨b, o, none⟩ = w0.cell? ⟨b, o, none⟩) :=
  base_t hB ((nodeBytes_any ⟨s, i, a, l, c, ⟨x, y, z, n⟩⟩ w).mono fun _ _ ⟨m, he, hb⟩ => ⟨⟨m, he⟩, hb⟩)

set_option maxRecDepth 100000 in
set_option maxHeartbeats 4000000 in
theorem tooBig_any (L : ByteArray) (c u : ZN) (j : PK) (t : ZN) (w : World) :
    Calls Try.prog 17 #[.string L, .agg #[.string c.s, .string c.i, .slice c.a c.l c.c, .string c.k.x, .string c.k.y, .string c.k.z, .int .i64 c.k.n], .agg #[.string u.s, .string u.i, .slice u.a u.l u.c, .string u.k.x, .string u.k.y, .string u.k.z, .int .i64 u.k.n], .agg #[.string j.x, .string j.y, .string j.z, .int .i64 j.n], .agg #[.string t.s, .string t.i, .slice t.a t.l t.c, .string t.k.x, .string t.k.y, .string t.k.z, .int .i64 t.k.n]] w fun e w' => SomeBool e ∧ Below w.heap.size w w' := by
  go_enter Try.func17, Try.ntmps17
  go_upto_region 1 with fail
  obtain ⟨w1, hw1⟩ : ∃ w1, w1 = ((((w.alloc (.cells #[.string c.s, .string c.i, .slice c.a c.l c.c, .string c.k.x, .string c.k.y, .string c.k.z, .int .i64 c.k.n] 32)).alloc (.cells #[.string u.s, .string u.i, .slice u.a u.l u.c, .string u.k.x, .string u.k.y, .string u.k.z, .int .i64 u.k.n] 32)).alloc (.cells #[.string j.x, .string j.y, .string j.z, .int .i64 j.n] 30)).alloc (.cells #[.string t.s, .string t.i, .slice t.a t.l t.c, .string t.k.x, .string t.k.y, .string t.k.z, .int .i64 t.k.n] 32)) := ⟨_, rfl⟩
  rw [← hw1]
  have bc : w1.heap[w.heap.size]? = some (.cells #[.string c.s, .string c.i, .slice c.a c.l c.c, .string c.k.x, .string c.k.y, .string c.k.z, .int .i64 c.k.n] 32) := by
    rw [hw1, Below.heap_alloc _ _ _ (by simp only [World.size_alloc]; omega), Below.heap_alloc _ _ _ (by simp only [World.size_alloc]; omega), Below.heap_alloc _ _ _ (by simp only [World.size_alloc]; omega)]
    exact newAt (by simp)
  have bu : w1.heap[w.heap.size + 1]? = some (.cells #[.string u.s, .string u.i, .slice u.a u.l u.c, .string u.k.x, .string u.k.y, .string u.k.z, .int .i64 u.k.n] 32) := by
    rw [hw1, Below.heap_alloc _ _ _ (by simp only [World.size_alloc]; omega), Below.heap_alloc _ _ _ (by simp only [World.size_alloc]; omega)]
    exact newAt (by simp)
  have bj : w1.heap[w.heap.size + 1 + 1]? = some (.cells #[.string j.x, .string j.y, .string j.z, .int .i64 j.n] 30) := by
    rw [hw1, Below.heap_alloc _ _ _ (by simp only [World.size_alloc]; omega)]
    exact newAt (by simp)
  have bt : w1.heap[w.heap.size + 1 + 1 + 1]? = some (.cells #[.string t.s, .string t.i, .slice t.a t.l t.c, .string t.k.x, .string t.k.y, .string t.k.z, .int .i64 t.k.n] 32) := by
    rw [hw1]
    exact newAt (by simp)
  have hb1 := Hid.of (show Below w.heap.size w w1 by rw [hw1]; exact ((((Below.refl _ _).alloc (Nat.le_refl _) _).alloc (by simp) _).alloc (by simp only [World.size_alloc]; omega) _).alloc (by simp only [World.size_alloc]; omega) _)
  have z3 : w.heap.size + 1 + 1 + 1 < w1.heap.size := lt_of_heap bt
  have z0 : w.heap.size < w1.heap.size := by omega
  have z1 : w.heap.size + 1 < w1.heap.size := by omega
  have z2 : w.heap.size + 1 + 1 < w1.heap.size := by omega
  clear hw1
  have fbc0 : w1.cell? ⟨w.heap.size, 0, none⟩ = some (.string c.s) := cell_of_row w1 _ 0 _ _ _ bc
  have fbc1 : w1.cell? ⟨w.heap.size, 1, none⟩ = some (.string c.i) := cell_of_row w1 _ 1 _ _ _ bc
  have fbc2 : w1.cell? ⟨w.heap.size, 2, none⟩ = some (.slice c.a c.l c.c) := cell_of_row w1 _ 2 _ _ _ bc
  have fbc3 : w1.cell? ⟨w.heap.size, 3, none⟩ = some (.string c.k.x) := cell_of_row w1 _ 3 _ _ _ bc
  have fbc4 : w1.cell? ⟨w.heap.size, 4, none⟩ = some (.string c.k.y) := cell_of_row w1 _ 4 _ _ _ bc
  have fbc5 : w1.cell? ⟨w.heap.size, 5, none⟩ = some (.string c.k.z) := cell_of_row w1 _ 5 _ _ _ bc
  have fbc6 : w1.cell? ⟨w.heap.size, 6, none⟩ = some (.int .i64 c.k.n) := cell_of_row w1 _ 6 _ _ _ bc
  have fbu0 : w1.cell? ⟨w.heap.size + 1, 0, none⟩ = some (.string u.s) := cell_of_row w1 _ 0 _ _ _ bu
  have fbu1 : w1.cell? ⟨w.heap.size + 1, 1, none⟩ = some (.string u.i) := cell_of_row w1 _ 1 _ _ _ bu
  have fbu2 : w1.cell? ⟨w.heap.size + 1, 2, none⟩ = some (.slice u.a u.l u.c) := cell_of_row w1 _ 2 _ _ _ bu
  have fbu3 : w1.cell? ⟨w.heap.size + 1, 3, none⟩ = some (.string u.k.x) := cell_of_row w1 _ 3 _ _ _ bu
  have fbu4 : w1.cell? ⟨w.heap.size + 1, 4, none⟩ = some (.string u.k.y) := cell_of_row w1 _ 4 _ _ _ bu
  have fbu5 : w1.cell? ⟨w.heap.size + 1, 5, none⟩ = some (.string u.k.z) := cell_of_row w1 _ 5 _ _ _ bu
  have fbu6 : w1.cell? ⟨w.heap.size + 1, 6, none⟩ = some (.int .i64 u.k.n) := cell_of_row w1 _ 6 _ _ _ bu
  have fbj0 : w1.cell? ⟨w.heap.size + 1 + 1, 0, none⟩ = some (.string j.x) := cell_of_row w1 _ 0 _ _ _ bj
  have fbj1 : w1.cell? ⟨w.heap.size + 1 + 1, 1, none⟩ = some (.string j.y) := cell_of_row w1 _ 1 _ _ _ bj
  have fbj2 : w1.cell? ⟨w.heap.size + 1 + 1, 2, none⟩ = some (.string j.z) := cell_of_row w1 _ 2 _ _ _ bj
  have fbj3 : w1.cell? ⟨w.heap.size + 1 + 1, 3, none⟩ = some (.int .i64 j.n) := cell_of_row w1 _ 3 _ _ _ bj
  have fbt0 : w1.cell? ⟨w.heap.size + 1 + 1 + 1, 0, none⟩ = some (.string t.s) := cell_of_row w1 _ 0 _ _ _ bt
  have fbt1 : w1.cell? ⟨w.heap.size + 1 + 1 + 1, 1, none⟩ = some (.string t.i) := cell_of_row w1 _ 1 _ _ _ bt
  have fbt2 : w1.cell? ⟨w.heap.size + 1 + 1 + 1, 2, none⟩ = some (.slice t.a t.l t.c) := cell_of_row w1 _ 2 _ _ _ bt
  have fbt3 : w1.cell? ⟨w.heap.size + 1 + 1 + 1, 3, none⟩ = some (.string t.k.x) := cell_of_row w1 _ 3 _ _ _ bt
  have fbt4 : w1.cell? ⟨w.heap.size + 1 + 1 + 1, 4, none⟩ = some (.string t.k.y) := cell_of_row w1 _ 4 _ _ _ bt
  have fbt5 : w1.cell? ⟨w.heap.size + 1 + 1 + 1, 5, none⟩ = some (.string t.k.z) := cell_of_row w1 _ 5 _ _ _ bt
  have fbt6 : w1.cell? ⟨w.heap.size + 1 + 1 + 1, 6, none⟩ = some (.int .i64 t.k.n) := cell_of_row w1 _ 6 _ _ _ bt
  clear bc bu bj bt
  have hB0 : Below w1.heap.size w1 w1 := Below.refl _ _
  go_cut [30] from 11 (fun v wx => (∃ b, v = .bool b) ∧ Below w1.heap.size w1 wx)
  case first =>
    go_wp2_with (first
      | (go_at_call 34; refine (keyBig_t (w0 := w1) (by assumption) _ _ _ _).mono ?_; rintro e w' ⟨⟨b, rfl⟩, hb, hc⟩)
      | (go_at_call 35; refine (nodeBig_t (w0 := w1) (by assumption) _ _ _ _ _ _ _ _ _).mono ?_; rintro e w' ⟨⟨b, rfl⟩, hb, hc⟩))
    all_goals (go_meet; exact ⟨⟨_, rfl⟩, by assumption⟩)
  case rest =>
    obtain ⟨⟨b, rfl⟩, hb⟩ := hcut
    have HB := Hid.of hb
    have hcl : ∀ b o, b < w1.heap.size → wc.cell? ⟨b, o, none⟩ = w1.cell? ⟨b, o, none⟩ := fun b o hlt => hb.cell (p := ⟨b, o, none⟩) hlt
    cases b with
    | true =>
      go_wp2_with fail
      go_ret
      exact ⟨someBool _, hb1.out.trans (HB.out.mono hb1.out.size)⟩
    | false =>
      go_wp2_with fail
      have hB2 : Below w1.heap.size w1 wc.drew := HB.out.drew
      clear hb
      go_region_held3 (fun w' => w'.cell? ⟨w.heap.size, 0, none⟩ = some (.string c.s) ∧ w'.cell? ⟨w.heap.size, 1, none⟩ = some (.string c.i) ∧ w'.cell? ⟨w.heap.size, 2, none⟩ = some (.slice c.a c.l c.c) ∧ w'.cell? ⟨w.heap.size, 3, none⟩ = some (.string c.k.x) ∧ w'.cell? ⟨w.heap.size, 4, none⟩ = some (.string c.k.y) ∧ w'.cell? ⟨w.heap.size, 5, none⟩ = some (.string c.k.z) ∧ w'.cell? ⟨w.heap.size, 6, none⟩ = some (.int .i64 c.k.n) ∧ w'.cell? ⟨w.heap.size + 1, 0, none⟩ = some (.string u.s) ∧ w'.cell? ⟨w.heap.size + 1, 1, none⟩ = some (.string u.i) ∧ w'.cell? ⟨w.heap.size + 1, 2, none⟩ = some (.slice u.a u.l u.c) ∧ w'.cell? ⟨w.heap.size + 1, 3, none⟩ = some (.string u.k.x) ∧ w'.cell? ⟨w.heap.size + 1, 4, none⟩ = some (.string u.k.y) ∧ w'.cell? ⟨w.heap.size + 1, 5, none⟩ = some (.string u.k.z) ∧ w'.cell? ⟨w.heap.size + 1, 6, none⟩ = some (.int .i64 u.k.n) ∧ w'.cell? ⟨w.heap.size + 1 + 1, 0, none⟩ = some (.string j.x) ∧ w'.cell? ⟨w.heap.size + 1 + 1, 1, none⟩ = some (.string j.y) ∧ w'.cell? ⟨w.heap.size + 1 + 1, 2, none⟩ = some (.string j.z) ∧ w'.cell? ⟨w.heap.size + 1 + 1, 3, none⟩ = some (.int .i64 j.n) ∧ w'.cell? ⟨w.heap.size + 1 + 1 + 1, 0, none⟩ = some (.string t.s) ∧ w'.cell? ⟨w.heap.size + 1 + 1 + 1, 1, none⟩ = some (.string t.i) ∧ w'.cell? ⟨w.heap.size + 1 + 1 + 1, 2, none⟩ = some (.slice t.a t.l t.c) ∧ w'.cell? ⟨w.heap.size + 1 + 1 + 1, 3, none⟩ = some (.string t.k.x) ∧ w'.cell? ⟨w.heap.size + 1 + 1 + 1, 4, none⟩ = some (.string t.k.y) ∧ w'.cell? ⟨w.heap.size + 1 + 1 + 1, 5, none⟩ = some (.string t.k.z) ∧ w'.cell? ⟨w.heap.size + 1 + 1 + 1, 6, none⟩ = some (.int .i64 t.k.n)) (go_keep) (first
        | (go_at_call 36; refine (keyBytes_t (w0 := w1) (by assumption) _ _ _ _).mono ?_; rintro e w' ⟨⟨n, rfl⟩, hb, hc⟩)
        | (go_at_call 37; refine (nodeBytes_t (w0 := w1) (by assumption) _ _ _ _ _ _ _ _ _).mono ?_; rintro e w' ⟨⟨n, rfl⟩, hb, hc⟩))
      all_goals go_wp2_with fail
      all_goals go_ret
      all_goals exact ⟨someBool _, hb1.out.trans (Below.mono (by assumption) hb1.out.size)⟩

end Go.Proofs.Qxb6618606a
