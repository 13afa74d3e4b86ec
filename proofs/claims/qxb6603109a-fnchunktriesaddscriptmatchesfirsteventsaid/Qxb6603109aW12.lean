import Derived.Test.Qxb6603109aW23
namespace Go.Proofs.Qxb6603109a
open Go.ChangeShapes Go.WideShapes Go.ChangeAt Go.RowKit

theorem zzadd_any (B : Nat) (m n c : Int) (h : ByteArray) (c1 : Int) (s1 : ByteArray) (c2 : Int) (s2 : ByteArray) (w : World) (hB : B < w.heap.size) (hst : St w B m n c h) (hn0 : 0 ≤ n) (hn1 : n < 9223372036854775807) :
    Calls Try.prog 12 #[.pointer (some ⟨B, 0, none⟩), .int .i64 c1, .string s1, .int .i64 c2, .string s2] w fun e w' =>
      e = .returned (.tuple #[.int .i64 (addV n c h c1 s1 c2 s2), .bool (addS m n c h c1 s1 c2 s2)]) ∧ St w' B m (n + 1) c1 s1 ∧ Below B w w' := by
  go_enter Try.func12, Try.ntmps12
  go_wp2_with fail
  refine (add_any B m n c h c1 s1 c2 s2 _ hB hst hn0 hn1).mono ?_
  rintro e w' ⟨rfl, hst', hb⟩
  go_wp2
  go_ret2
  exact ⟨rfl, hst', hb⟩
end Go.Proofs.Qxb6603109a
