import Derived.Test.Qxb6618606aSizes
namespace Go.Proofs.Qxb6618606a
open Go.RowKit

theorem box4 (w : World) (o1 o2 o3 o4 : Obj) : Below w.heap.size w ((((w.alloc o1).alloc o2).alloc o3).alloc o4) :=
  ((((Below.refl _ _).alloc (Nat.le_refl _) _).alloc (by simp) _).alloc (by simp only [World.size_alloc]; omega) _).alloc (by simp only [World.size_alloc]; omega) _

/-- The law's four boxes. -/
structure Boxes (W : World) (w : World) (c u : ZN) (j : PK) (t : ZN) : Prop where
  bc : W.heap[w.heap.size]? = some (.cells #[.string c.s, .string c.i, .slice c.a c.l c.c, .string c.k.x, .string c.k.y, .string c.k.z, .int .i64 c.k.n] 32)
  bu : W.heap[w.heap.size + 1]? = some (.cells #[.string u.s, .string u.i, .slice u.a u.l u.c, .string u.k.x, .string u.k.y, .string u.k.z, .int .i64 u.k.n] 32)
  bj : W.heap[w.heap.size + 1 + 1]? = some (.cells #[.string j.x, .string j.y, .string j.z, .int .i64 j.n] 30)
  bt : W.heap[w.heap.size + 1 + 1 + 1]? = some (.cells #[.string t.s, .string t.i, .slice t.a t.l t.c, .string t.k.x, .string t.k.y, .string t.k.z, .int .i64 t.k.n] 32)

theorem Boxes.mk' (w : World) (c u : ZN) (j : PK) (t : ZN) : Boxes ((((w.alloc (.cells #[.string c.s, .string c.i, .slice c.a c.l c.c, .string c.k.x, .string c.k.y, .string c.k.z, .int .i64 c.k.n] 32)).alloc (.cells #[.string u.s, .string u.i, .slice u.a u.l u.c, .string u.k.x, .string u.k.y, .string u.k.z, .int .i64 u.k.n] 32)).alloc (.cells #[.string j.x, .string j.y, .string j.z, .int .i64 j.n] 30)).alloc (.cells #[.string t.s, .string t.i, .slice t.a t.l t.c, .string t.k.x, .string t.k.y, .string t.k.z, .int .i64 t.k.n] 32)) w c u j t := by
  refine ⟨?_, ?_, ?_, ?_⟩
  · rw [Below.heap_alloc _ _ _ (by simp only [World.size_alloc]; omega), Below.heap_alloc _ _ _ (by simp only [World.size_alloc]; omega), Below.heap_alloc _ _ _ (by simp only [World.size_alloc]; omega)]
    exact newAt (by simp)
  · rw [Below.heap_alloc _ _ _ (by simp only [World.size_alloc]; omega), Below.heap_alloc _ _ _ (by simp only [World.size_alloc]; omega)]
    exact newAt (by simp)
  · rw [Below.heap_alloc _ _ _ (by simp only [World.size_alloc]; omega)]
    exact newAt (by simp)
  · exact newAt (by simp)
theorem Boxes.kept {W W' w : World} {c u : ZN} {j : PK} {t : ZN} (h : Boxes W w c u j t) (hb : Below W.heap.size W W') : Boxes W' w c u j t :=
  ⟨heap_kept h.bc hb, heap_kept h.bu hb, heap_kept h.bj hb, heap_kept h.bt hb⟩

def KRd (w : World) (a : Option Addr) (ks : List PK) : Prop := 0 < ks.length → ∃ g, a = some ⟨g, 0, none⟩ ∧ g < w.heap.size ∧
  ∀ i k, ks[i]? = some k → w.cell? ⟨g, i * 4, none⟩ = some (.string k.x) ∧ w.cell? ⟨g, i * 4 + 1, none⟩ = some (.string k.y) ∧ w.cell? ⟨g, i * 4 + 2, none⟩ = some (.string k.z) ∧ w.cell? ⟨g, i * 4 + 3, none⟩ = some (.int .i64 k.n)

theorem KRd.kept {w w' : World} {a : Option Addr} {ks : List PK} (h : KRd w a ks) (hb : Below w.heap.size w w') : KRd w' a ks := by
  intro hp
  obtain ⟨g, e, hlt, hc⟩ := h hp
  refine ⟨g, e, Nat.lt_of_lt_of_le hlt hb.size, fun i k hk => ?_⟩
  obtain ⟨q0, q1, q2, q3⟩ := hc i k hk
  rw [hb.cell (p := ⟨g, i * 4, none⟩) hlt, hb.cell (p := ⟨g, i * 4 + 1, none⟩) hlt, hb.cell (p := ⟨g, i * 4 + 2, none⟩) hlt, hb.cell (p := ⟨g, i * 4 + 3, none⟩) hlt]
  exact ⟨q0, q1, q2, q3⟩

theorem kcells_get (ks : List PK) : ∀ (i : Nat) (k : PK) (m : Nat), m < 4 → ks[i]? = some k → (kcells ks)[i * 4 + m]? = (keyList k)[m]? := by
  induction ks with
  | nil => intro i k m _ h; simp at h
  | cons k0 ks ih =>
    intro i k m hm h
    have e : kcells (k0 :: ks) = keyList k0 ++ kcells ks := by simp [kcells]
    have l : (keyList k0).length = 4 := rfl
    rw [e]
    cases i with
    | zero =>
      simp at h
      subst h
      rw [List.getElem?_append_left (by omega)]
      simp
    | succ i =>
      rw [List.getElem?_append_right (by omega), l, show (i + 1) * 4 + m - 4 = i * 4 + m from by omega]
      exact ih i k m hm (by simpa using h)

theorem own_shape {w : World} {B : Nat} {v : Value} {ks : List PK} (h : w.ownsRow B 39 4 v ks.length (kcells ks)) : ∃ a cap, v = .slice a ks.length cap ∧ KRd w a ks := by
  have hl := h.1
  rcases h.2 with ⟨rfl, h0⟩ | ⟨g, cap, cur, rfl, hb, hg, h1, h2, h3, h4⟩
  · rw [h0]
    exact ⟨none, 0, rfl, fun hp => absurd hp (by omega)⟩
  · refine ⟨_, cap, rfl, fun _ => ⟨g, rfl, lt_of_heap hg, fun i k hk => ?_⟩⟩
    have hi : i < ks.length := (List.getElem?_eq_some_iff.1 hk).1
    have q : ∀ m, m < 4 → w.cell? ⟨g, i * 4 + m, none⟩ = (keyList k)[m]? := by
      intro m hm
      rw [h.cellAt (i * 4 + m) (by omega)]
      exact kcells_get ks i k m hm hk
    exact ⟨q 0 (by omega), q 1 (by omega), q 2 (by omega), q 3 (by omega)⟩

theorem below_cell {w w' : World} (hb : Below w.heap.size w w') : ∀ b o, b < w.heap.size → w'.cell? ⟨b, o, none⟩ = w.cell? ⟨b, o, none⟩ := fun b o hlt => hb.cell (p := ⟨b, o, none⟩) hlt

theorem node_below {w w' : World} {o : Obj} (hb : Below (w.alloc o).drew.heap.size (w.alloc o).drew w') : Below w.heap.size w w' :=
  (((Below.refl _ _).alloc (Nat.le_refl _) _).drew).trans (hb.mono (by simp))


set_option maxRecDepth 100000 in
set_option maxHeartbeats 4000000 in
theorem bytes16_any (L : ByteArray) (dl : Bool) (c u : ZN) (j : PK) (t : ZN) (w : World) :
    Calls Try.prog 16 #[.string L, .bool dl, .agg #[.string c.s, .string c.i, .slice c.a c.l c.c, .string c.k.x, .string c.k.y, .string c.k.z, .int .i64 c.k.n], .agg #[.string u.s, .string u.i, .slice u.a u.l u.c, .string u.k.x, .string u.k.y, .string u.k.z, .int .i64 u.k.n], .agg #[.string j.x, .string j.y, .string j.z, .int .i64 j.n], .agg #[.string t.s, .string t.i, .slice t.a t.l t.c, .string t.k.x, .string t.k.y, .string t.k.z, .int .i64 t.k.n]] w fun e w' => SomeBool e ∧ Below w.heap.size w w' := by
  go_enter Try.func16, Try.ntmps16
  go_wp2
  all_goals go_ret
  all_goals exact ⟨someBool _, box4 _ _ _ _ _⟩

/-- The source's key and node: 0: the issuer; 1: the anchor; 2: c. -/
def keyS (j : PK) (t c : ZN) (s : Nat) : PK := if s = 0 then j else if s = 1 then t.k else c.k
def nodeS (u t c : ZN) (s : Nat) : ZN := if s = 0 then u else if s = 1 then t else c

theorem box3 (w : World) (o1 o2 o3 : Obj) : Below w.heap.size w (((w.alloc o1).alloc o2).alloc o3) :=
  (((Below.refl _ _).alloc (Nat.le_refl _) _).alloc (by simp) _).alloc (by simp only [World.size_alloc]; omega) _

theorem srcKey_any (s : Nat) (hs : s ≤ 2) (j : PK) (t c : ZN) (w : World) :
    Calls Try.prog 23 #[.int .i64 s, .agg #[.string j.x, .string j.y, .string j.z, .int .i64 j.n], .agg #[.string t.s, .string t.i, .slice t.a t.l t.c, .string t.k.x, .string t.k.y, .string t.k.z, .int .i64 t.k.n], .agg #[.string c.s, .string c.i, .slice c.a c.l c.c, .string c.k.x, .string c.k.y, .string c.k.z, .int .i64 c.k.n]] w fun e w' => e = .returned (.agg #[.string (keyS j t c s).x, .string (keyS j t c s).y, .string (keyS j t c s).z, .int .i64 (keyS j t c s).n]) ∧ Below w.heap.size w w' := by
  match s, hs with
  | 0, _ =>
    simp only [keyS, if_true]
    go_enter Try.func23, Try.ntmps23
    go_wp2
    exact bodyPost_ret (v := .agg #[.string j.x, .string j.y, .string j.z, .int .i64 j.n]) (by simp [results, Try.results23, go_sem]) rfl ⟨rfl, box4 _ _ _ _ _⟩
  | 1, _ =>
    simp only [keyS]
    go_enter Try.func23, Try.ntmps23
    go_wp2
    exact bodyPost_ret (v := .agg #[.string t.k.x, .string t.k.y, .string t.k.z, .int .i64 t.k.n]) (by simp [results, Try.results23, go_sem]) rfl ⟨rfl, box4 _ _ _ _ _⟩
  | 2, _ =>
    simp only [keyS]
    go_enter Try.func23, Try.ntmps23
    go_wp2
    exact bodyPost_ret (v := .agg #[.string c.k.x, .string c.k.y, .string c.k.z, .int .i64 c.k.n]) (by simp [results, Try.results23, go_sem]) rfl ⟨rfl, box4 _ _ _ _ _⟩

theorem srcUse_any (s : Nat) (hs : s ≤ 2) (u t c : ZN) (w : World) :
    Calls Try.prog 27 #[.int .i64 s, .agg #[.string u.s, .string u.i, .slice u.a u.l u.c, .string u.k.x, .string u.k.y, .string u.k.z, .int .i64 u.k.n], .agg #[.string t.s, .string t.i, .slice t.a t.l t.c, .string t.k.x, .string t.k.y, .string t.k.z, .int .i64 t.k.n], .agg #[.string c.s, .string c.i, .slice c.a c.l c.c, .string c.k.x, .string c.k.y, .string c.k.z, .int .i64 c.k.n]] w fun e w' => e = .returned (.slice (nodeS u t c s).a (nodeS u t c s).l (nodeS u t c s).c) ∧ Below w.heap.size w w' := by
  match s, hs with
  | 0, _ =>
    simp only [nodeS, if_true]
    go_enter Try.func27, Try.ntmps27
    go_wp2
    go_ret
    exact ⟨rfl, box3 _ _ _ _⟩
  | 1, _ =>
    simp only [nodeS]
    go_enter Try.func27, Try.ntmps27
    go_wp2
    go_ret
    exact ⟨rfl, box3 _ _ _ _⟩
  | 2, _ =>
    simp only [nodeS]
    go_enter Try.func27, Try.ntmps27
    go_wp2
    go_ret
    exact ⟨rfl, box3 _ _ _ _⟩
end Go.Proofs.Qxb6618606a
