/- Seat b6603719a: ZZAdvance. -/
import Derived.Test.Qxb6603719aAdv
import Derived.Deep.QuietTactic
namespace Go.Proofs.Qxb6603719a
open Go.RowKit Go.PlainAid

set_option maxHeartbeats 2000000 in
set_option maxRecDepth 100000 in
theorem zzAdvance (t tok : ByteArray) (st : Int) (e : Nat) (vs : Int) (w : World) (ht : t.size ≤ 65536) (he : e ≤ t.size) :
    Calls Try.prog 14 #[.string t, .string tok, .int .i64 st, .int .i64 e, .int .i64 vs] w fun x w' =>
      ∃ s2 e2 : Nat, x = .returned (.tuple #[.string t, .string (t.extract s2 e2), .int .i64 s2, .int .i64 e2, .int .i64 vs]) ∧ Adv t e s2 e2 ∧ w.grownBy w' none := by
  go_enter Try.func14, Try.ntmps14
  go_wp2_with (go_at_call 18; refine (adv_walk t tok st e vs w ht he).mono ?_; rintro x w' ⟨s2, e2, rfl, A, rfl⟩)
  go_quiet (fail)
  go_wp2
  have g := World.grownBy_alloc w (Obj.cells #[Value.string t, Value.string (t.extract s2 e2), Value.int IntKind.i64 ↑s2, Value.int IntKind.i64 ↑e2, Value.int IntKind.i64 vs] 42) none
  exact bodyPost_ret (v := .tuple #[.string t, .string (t.extract s2 e2), .int .i64 s2, .int .i64 e2, .int .i64 vs]) (by simp [results, Try.results14, go_sem]) rfl ⟨s2, e2, rfl, A, ⟨g.os, g.tape, g.output, g.size, g.block⟩⟩

end Go.Proofs.Qxb6603719a
