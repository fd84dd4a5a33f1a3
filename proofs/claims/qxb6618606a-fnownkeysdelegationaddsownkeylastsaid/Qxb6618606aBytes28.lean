import Derived.Test.Qxb6618606aSizes
namespace Go.Proofs.Qxb6618606a
open Go.RowKit

theorem box4 (w : World) (o1 o2 o3 o4 : Obj) : Below w.heap.size w ((((w.alloc o1).alloc o2).alloc o3).alloc o4) :=
  ((((Below.refl _ _).alloc (Nat.le_refl _) _).alloc (by simp) _).alloc (by simp only [World.size_alloc]; omega) _).alloc (by simp only [World.size_alloc]; omega) _

set_option maxRecDepth 100000 in
set_option maxHeartbeats 4000000 in
theorem bytes28_any (L : ByteArray) (c u : ZN) (j : PK) (t : ZN) (w : World) :
    Calls Try.prog 28 #[.string L, .agg #[.string c.s, .string c.i, .slice c.a c.l c.c, .string c.k.x, .string c.k.y, .string c.k.z, .int .i64 c.k.n], .agg #[.string u.s, .string u.i, .slice u.a u.l u.c, .string u.k.x, .string u.k.y, .string u.k.z, .int .i64 u.k.n], .agg #[.string j.x, .string j.y, .string j.z, .int .i64 j.n], .agg #[.string t.s, .string t.i, .slice t.a t.l t.c, .string t.k.x, .string t.k.y, .string t.k.z, .int .i64 t.k.n]] w fun e w' => SomeBool e ∧ Below w.heap.size w w' := by
  go_enter Try.func28, Try.ntmps28
  go_wp2
  all_goals go_ret
  all_goals exact ⟨someBool _, box4 _ _ _ _ _⟩
end Go.Proofs.Qxb6618606a
