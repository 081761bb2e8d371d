/- Seat b6603825a: ZZunescape; the law on lengths. -/
import Derived.Test.Qxb6603825aUn
namespace Go.Proofs.Qxb6603825a
open Go.RowKit Go.PlainAid

set_option maxHeartbeats 1000000 in
set_option maxRecDepth 100000 in
theorem zzUnescape (s : ByteArray) (hs : s.size ≤ 1048576) (w : World) :
    Calls Try.prog 14 #[.string s] w fun e w' => ∃ U : ByteArray, e = .returned (.string U) ∧ Hid (U.data.toList = un s.data.toList) ∧ Below w.heap.size w w' := by
  go_enter Try.func14, Try.ntmps14
  go_wp2_with fail
  refine (unescape s hs _).mono ?_
  rintro e w1 ⟨rfl, hb⟩
  go_wp2
  go_ret
  exact ⟨_, rfl, rfl, hb⟩

set_option maxHeartbeats 1000000 in
set_option maxRecDepth 100000 in
/-- The bound laid by program. -/
theorem zzBytes7_yes (s : ByteArray) (h : s.size ≤ 1048576) (w : World) :
    Calls Try.prog 18 #[.string s] w fun e w' => e = .returned (.bool true) ∧ w = w' := by
  go_enter Try.func18, Try.ntmps18
  go_wp2
  go_ret
  exact ⟨rfl, rfl⟩

set_option maxHeartbeats 1000000 in
set_option maxRecDepth 100000 in
theorem zzBytes7_no (s : ByteArray) (h : 1048576 < s.size) (hm : s.size ≤ maxLen) (w : World) :
    Calls Try.prog 18 #[.string s] w fun e w' => e = .returned (.bool false) ∧ w = w' := by
  unfold maxLen at hm
  go_enter Try.func18, Try.ntmps18
  go_wp2
  go_ret
  exact ⟨rfl, rfl⟩

def NoBack (s : ByteArray) (k : Nat) : Prop := ∀ i, i < k → bt s i ≠ 92

theorem NoBack.snoc {s : ByteArray} {k : Nat} (h : NoBack s k) (hk : ¬ bt s k = 92) : NoBack s (k + 1) := by
  intro i hi
  by_cases e : i = k
  · rw [e]; exact hk
  · exact h i (by omega)

theorem NoBack.same {s U : ByteArray} (h : NoBack s s.size) (hU : U.data.toList = un s.data.toList) : (U.toList == s.toList) = true := by
  rw [Lib.toList_data, Lib.toList_data, hU, un_none]
  · simp
  · intro c hc e
    obtain ⟨k, hk, hg⟩ := List.mem_iff_getElem.1 hc
    rw [len_data] at hk
    refine h k hk ?_
    rw [bt_at, at_, List.getD_eq_getElem?_getD, List.getElem?_eq_getElem (by rw [len_data]; exact hk), hg, e]
    rfl

set_option maxHeartbeats 1000000 in
set_option maxRecDepth 100000 in
theorem walkLen_small (s : ByteArray) (hs : s.size ≤ 1048576) (w : World) :
    Calls Try.prog 7 #[.string s] w fun e w' => e = .returned (.bool true) ∧ Below w.heap.size w w' := by
  have hb := get_bt s
  go_enter Try.func7, Try.ntmps7
  go_wp2_with fail
  refine (zzBytes7_yes s hs _).mono ?_
  rintro e w1 ⟨rfl, rfl⟩
  go_wp2_with fail
  refine (zzUnescape s hs _).mono ?_
  rintro e w1 ⟨U, rfl, HU, hbel⟩
  have hl := un_len _ s.data.toList (Nat.le_refl _)
  rw [← HU.out, len_data, len_data] at hl
  obtain ⟨hl1, hl2⟩ := hl
  go_wp2
  go_loop [4] (fun i => ∃ k : Nat, k ≤ s.size ∧ i = .int .i64 k ∧ NoBack s k) (fun i => s.size - (intOf i).toNat)
  case atStart => exact ⟨0, Nat.zero_le _, rfl, fun i hi => by omega⟩
  case round =>
    obtain ⟨k, hk, rfl, hnb⟩ := hrel
    by_cases hlt : k < s.size
    · by_cases h92 : bt s k = 92
      · go_wp2
        go_ret
        exact ⟨rfl, hbel⟩
      · have hq : (bt s k == 92) = false := by simpa using h92
        go_wp2
        go_round
        case rel => exact ⟨k + 1, by omega, by go_num, hnb.snoc h92⟩
        case measure => simp [intOf]; omega
    · obtain rfl : k = s.size := by omega
      go_wp2
      go_ret
      exact ⟨congrArg (fun b => Ending.returned (.bool b)) (hnb.same HU.out), hbel⟩

set_option maxHeartbeats 1000000 in
set_option maxRecDepth 100000 in
theorem walkLen_big (s : ByteArray) (h : 1048576 < s.size) (hm : s.size ≤ maxLen) (w : World) :
    Calls Try.prog 7 #[.string s] w fun e w' => e = .returned (.bool true) ∧ Below w.heap.size w w' := by
  go_enter Try.func7, Try.ntmps7
  go_wp2_with fail
  refine (zzBytes7_no s h hm _).mono ?_
  rintro e w1 ⟨rfl, rfl⟩
  go_wp2
  go_ret
  exact ⟨rfl, Below.refl _ _⟩

end Go.Proofs.Qxb6603825a
