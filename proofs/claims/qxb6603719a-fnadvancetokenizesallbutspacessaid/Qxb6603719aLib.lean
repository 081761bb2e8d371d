/- Seat b6603719a: the library's two functions on the road, and the bound, by contracts over the given translation. -/
import Derived.Test.Qxb6603719aRows
import Derived.Test.Qxb6603719aPlain
import Derived.WalkKit
import Derived.ProofKit
import Derived.Lib.Bytealg
import Derived.BigQuiet
namespace Go.Proofs.Qxb6603719a
open Go.RowKit Go.PlainAid

set_option maxHeartbeats 1000000 in
set_option maxRecDepth 100000 in
/-- internal/stringslite.IndexByte. -/
theorem lite_indexByte (s : ByteArray) (c : Int) (w : World) :
    Calls Try.prog 23 #[.string s, .int .u8 c] w fun e w' => e = .returned (.int .i64 (Lib.indexByte s.data.toList c.toNat.toUInt8)) ∧ w' = w := by
  go_enter Try.func23, Try.ntmps23
  go_wp2
  rw [run_callFunc_extern Try.func24 (by kernel_rfl) (by kernel_rfl) (by kernel_rfl) (e := Extern.BytealgIndexByte.indexByte) (by kernel_rfl), Lib.run_indexByteString]
  simp only [Result.andThen]
  rw [Oper.upon_value]
  go_wp2
  go_ret
  exact ⟨rfl, rfl⟩

set_option maxHeartbeats 1000000 in
set_option maxRecDepth 100000 in
/-- strings.IndexByte. -/
theorem strings_indexByte (s : ByteArray) (c : Int) (w : World) :
    Calls Try.prog 21 #[.string s, .int .u8 c] w fun e w' => e = .returned (.int .i64 (Lib.indexByte s.data.toList c.toNat.toUInt8)) ∧ w' = w := by
  go_enter Try.func21, Try.ntmps21
  go_wp2_with (go_at_call 23; refine (lite_indexByte _ _ _).mono ?_; rintro e w' ⟨rfl, rfl⟩)
  go_ret
  exact ⟨rfl, rfl⟩

/-- strings.IndexByte in the five signs. -/
theorem punct (c : Int) (h0 : 0 ≤ c) (h1 : c ≤ 255) (w : World) :
    Calls Try.prog 21 #[.string ⟨#[61, 33, 44, 40, 41]⟩, .int .u8 c] w fun e w' => e = .returned (.int .i64 (pI c)) ∧ w' = w := by
  refine (strings_indexByte _ c w).mono fun e w' h => ?_
  rw [← pI_eq c h0 h1]
  exact h

set_option maxHeartbeats 1000000 in
set_option maxRecDepth 100000 in
/-- internal/stringslite.HasPrefix at two bytes. -/
theorem lite_hasPrefix (r : ByteArray) (a b : UInt8) (w : World) :
    Calls Try.prog 22 #[.string r, .string ⟨#[a, b]⟩] w fun e w' => e = .returned (.bool (decide (2 ≤ r.size) && ((r.extract 0 2).toList == [a, b]))) ∧ w' = w := by
  by_cases h : 2 ≤ r.size
  · go_enter Try.func22, Try.ntmps22
    go_wp2
    go_ret
    exact ⟨by simp [h], rfl⟩
  · go_enter Try.func22, Try.ntmps22
    go_wp2
    go_ret
    exact ⟨by simp, rfl⟩

set_option maxHeartbeats 1000000 in
set_option maxRecDepth 100000 in
/-- strings.HasPrefix at two bytes, asked of the text from k on. -/
theorem hasPrefix (t : ByteArray) (k : Nat) (a b : UInt8) (A B : Int) (hA : (a.toNat : Int) = A) (hB : (b.toNat : Int) = B) (w : World) :
    Calls Try.prog 20 #[.string (t.extract k t.size), .string ⟨#[a, b]⟩] w fun e w' => e = .returned (.bool (HP t k A B)) ∧ w' = w := by
  subst hA
  subst hB
  rw [← HP_eq]
  generalize t.extract k t.size = r
  go_enter Try.func20, Try.ntmps20
  go_wp2_with (go_at_call 22; refine (lite_hasPrefix _ _ _ _).mono ?_; rintro e w' ⟨rfl, rfl⟩)
  go_ret
  exact ⟨rfl, rfl⟩

set_option maxHeartbeats 1000000 in
set_option maxRecDepth 100000 in
/-- The bound laid by program. -/
theorem zzBytes_yes (s : ByteArray) (h : s.size ≤ 1048576) (w : World) :
    Calls Try.prog 16 #[.string s] w fun e w' => e = .returned (.bool true) ∧ w = w' := by
  go_enter Try.func16, Try.ntmps16
  go_wp2
  go_ret
  exact ⟨rfl, rfl⟩

set_option maxHeartbeats 1000000 in
set_option maxRecDepth 100000 in
theorem zzBytes_no (s : ByteArray) (h : 1048576 < s.size) (hm : s.size ≤ maxLen) (w : World) :
    Calls Try.prog 16 #[.string s] w fun e w' => e = .returned (.bool false) ∧ w = w' := by
  unfold maxLen at hm
  go_enter Try.func16, Try.ntmps16
  go_wp2
  go_ret
  exact ⟨rfl, rfl⟩

end Go.Proofs.Qxb6603719a
