/- Seat b6604089a: strings.IndexByte, holdsOnly, ZZholdsOnly. -/
import Derived.Test.Qxb6604089aRows
import Derived.Test.Qxb6604089aPlain
import Derived.WalkKit
import Derived.ProofKit
import Derived.Handy
namespace Go.Proofs.Qxb6604089a
open Go.RowKit Go.PlainAid

set_option maxHeartbeats 1000000 in
set_option maxRecDepth 100000 in
/-- internal/stringslite.IndexByte. -/
theorem lite_indexByte (s : ByteArray) (c : Int) (w : World) :
    Calls Try.prog 12 #[.string s, .int .u8 c] w fun e w' => e = .returned (.int .i64 (IX s c)) ∧ w' = w := by
  unfold IX
  go_enter Try.func12, Try.ntmps12
  go_wp2
  rw [run_callFunc_extern Try.func13 (by kernel_rfl) (by kernel_rfl) (by kernel_rfl) (e := Extern.BytealgIndexByte.indexByte) (by kernel_rfl), Lib.run_indexByteString]
  simp only [Result.andThen]
  rw [Oper.upon_value]
  go_wp2
  go_ret
  exact ⟨rfl, rfl⟩

set_option maxHeartbeats 1000000 in
set_option maxRecDepth 100000 in
/-- strings.IndexByte. -/
theorem strings_indexByte (s : ByteArray) (c : Int) (w : World) :
    Calls Try.prog 11 #[.string s, .int .u8 c] w fun e w' => e = .returned (.int .i64 (IX s c)) ∧ w = w' := by
  go_enter Try.func11, Try.ntmps11
  go_wp2_with fail
  refine (lite_indexByte s c w).mono ?_
  rintro e w' ⟨rfl, rfl⟩
  go_wp2
  go_ret
  exact ⟨rfl, rfl⟩

set_option maxHeartbeats 4000000 in
set_option maxRecDepth 100000 in
theorem holdsOnly (s x : ByteArray) (hs : s.size ≤ 1048576) (w : World) :
    Calls Try.prog 10 #[.string s, .string x] w fun e w' => e = .returned (.bool (HO s.data.toList x.data.toList)) ∧ w = w' := by
  have hb := get_bt s
  go_enter Try.func10, Try.ntmps10
  go_wp2
  go_loop [5] (fun i => ∃ k : Nat, k ≤ s.size ∧ i = .int .i64 k ∧ Good s x k) (fun i => s.size - (intOf i).toNat)
  case atStart => exact ⟨0, Nat.zero_le _, rfl, Good.start s x⟩
  case round =>
    obtain ⟨k, hk, rfl, hg⟩ := hrel
    have b0 := bt_nonneg s k
    have b1 := bt_le s k
    by_cases hlt : k < s.size
    · by_cases ha : alnum (bt s k) = true
      · have hg2 := hg.snoc hlt (by rw [ha]; rfl)
        rcases (show (97 ≤ bt s k ∧ bt s k ≤ 122) ∨ (65 ≤ bt s k ∧ bt s k ≤ 90) ∨ (48 ≤ bt s k ∧ bt s k ≤ 57) by unfold alnum at ha; simpa [or_assoc] using ha) with ⟨c1, c2⟩ | ⟨c1, c2⟩ | ⟨c1, c2⟩
        all_goals
          clear ha
          go_wp2
          go_round
          case rel => exact ⟨k + 1, by omega, by go_num, hg2⟩
          case measure => simp [intOf]; omega
      · have ha' : alnum (bt s k) = false := by simpa using ha
        have hq : (bt s k < 97 ∨ 122 < bt s k) ∧ (bt s k < 65 ∨ 90 < bt s k) ∧ (bt s k < 48 ∨ 57 < bt s k) := by unfold alnum at ha'; simp at ha'; omega
        obtain ⟨q1, q2, q3⟩ := hq
        clear ha
        have HA : Hid (alnum (bt s k) = false) := ha'
        clear ha'
        by_cases hx : 0 ≤ IX x (bt s k)
        · have hg2 := hg.snoc hlt (by rw [HA.out, decide_eq_true hx]; rfl)
          rcases (show bt s k < 48 ∨ (57 < bt s k ∧ bt s k < 65) ∨ (90 < bt s k ∧ bt s k < 97) ∨ 122 < bt s k by omega) with c1 | ⟨c1, c2⟩ | ⟨c1, c2⟩ | c1
          all_goals
            clear q1 q2 q3
            go_wp2_with fail
            refine (strings_indexByte x (bt s k) _).mono ?_
            rintro e w' ⟨rfl, rfl⟩
            go_wp2
            go_round
            case rel => exact ⟨k + 1, by omega, by go_num, hg2⟩
            case measure => simp [intOf]; omega
        · have hbad := bad (x := x) hlt (by rw [HA.out, decide_eq_false hx]; rfl)
          have HB : Hid (HO s.data.toList x.data.toList = false) := hbad
          clear hbad
          rcases (show bt s k < 48 ∨ (57 < bt s k ∧ bt s k < 65) ∨ (90 < bt s k ∧ bt s k < 97) ∨ 122 < bt s k by omega) with c1 | ⟨c1, c2⟩ | ⟨c1, c2⟩ | c1
          all_goals
            clear q1 q2 q3
            go_wp2_with fail
            refine (strings_indexByte x (bt s k) _).mono ?_
            rintro e w' ⟨rfl, rfl⟩
            go_wp2
            all_goals first
              | (go_ret; exact ⟨congrArg (fun b => Ending.returned (.bool b)) HB.out.symm, rfl⟩)
              | (exfalso; rename_i h; simp at h; omega)
    · obtain rfl : k = s.size := by omega
      have HF : Hid (_ = _) := hg.fin
      go_wp2
      go_ret
      exact ⟨congrArg (fun b => Ending.returned (.bool b)) HF.out.symm, rfl⟩

set_option maxHeartbeats 1000000 in
set_option maxRecDepth 100000 in
theorem zzHold (s x : ByteArray) (hs : s.size ≤ 1048576) (w : World) :
    Calls Try.prog 7 #[.string s, .string x] w fun e w' => e = .returned (.bool (HO s.data.toList x.data.toList)) ∧ w = w' := by
  go_enter Try.func7, Try.ntmps7
  go_wp2_with fail
  refine (holdsOnly s x hs w).mono ?_
  rintro e w' ⟨rfl, rfl⟩
  go_wp2
  go_ret
  exact ⟨rfl, rfl⟩

end Go.Proofs.Qxb6604089a
