/- Seat b6603825a: what is written by zzEscape reads back. -/
import Derived.Test.Qxb6603825aLen
import Derived.Test.Qxb6603825aHex
namespace Go.Proofs.Qxb6603825a
open Go.RowKit Go.PlainAid

set_option maxHeartbeats 1000000 in
set_option maxRecDepth 100000 in
/-- The bound laid by program. -/
theorem zzBytes6_yes (s : ByteArray) (a b : Bool) (h : s.size ≤ 1048576) (w : World) :
    Calls Try.prog 16 #[.string s, .bool a, .bool b] w fun e w' => e = .returned (.bool true) ∧ w = w' := by
  go_enter Try.func16, Try.ntmps16
  go_wp2
  go_ret
  exact ⟨rfl, rfl⟩

set_option maxHeartbeats 1000000 in
set_option maxRecDepth 100000 in
theorem zzBytes6_no (s : ByteArray) (a b : Bool) (h : 1048576 < s.size) (hm : s.size ≤ maxLen) (w : World) :
    Calls Try.prog 16 #[.string s, .bool a, .bool b] w fun e w' => e = .returned (.bool false) ∧ w = w' := by
  unfold maxLen at hm
  go_enter Try.func16, Try.ntmps16
  go_wp2
  go_ret
  exact ⟨rfl, rfl⟩

theorem undo_same {t U : ByteArray} {ap up : Bool} (h : U.data.toList = un (⟨(EA t ap up t.size).toArray⟩ : ByteArray).data.toList) : (U.toList == t.toList) = true := by
  rw [Lib.toList_data, Lib.toList_data, h]
  show (un (EA t ap up t.size).toArray.toList == _) = true
  rw [List.toList_toArray, EA_end]
  simp

set_option maxHeartbeats 1000000 in
set_option maxRecDepth 100000 in
theorem walkUndo_small (t : ByteArray) (ap up : Bool) (ht : t.size ≤ 262144) (w : World) :
    Calls Try.prog 6 #[.string t, .bool ap, .bool up] w fun e w' => e = .returned (.bool true) ∧ Below w.heap.size w w' := by
  go_enter Try.func6, Try.ntmps6
  go_wp2_with fail
  refine (zzBytes6_yes t ap up (by omega) _).mono ?_
  rintro e w1 ⟨rfl, rfl⟩
  go_wp2_with fail
  refine (zzEscape t ap up ht _).mono ?_
  rintro e w1 ⟨rfl, hown, hbel⟩
  have hcv := run_convert_bytes_back (P := Try.prog) w1 28 9 5 ⟨w.heap.size, 0, none⟩ (4 * t.size) (EA t ap up t.size) Try.underlying28 Try.underlying5 Try.underlying9 (fun j hj => by
    refine hown.cells (g := w.heap.size) rfl j _ ?_
    rw [Lib.byteCells, List.getElem?_map, List.getElem?_eq_getElem hj]
    rfl)
  have hle := EA_le t ap up t.size (Nat.le_refl _)
  obtain ⟨S, hS⟩ : ∃ S : ByteArray, S = ⟨(EA t ap up t.size).toArray⟩ := ⟨_, rfl⟩
  have hSz : S.size ≤ 1048576 := by rw [hS]; show (EA t ap up t.size).toArray.size ≤ _; simp; omega
  rw [← hS] at hcv
  have HS : Hid (S = ⟨(EA t ap up t.size).toArray⟩) := hS
  clear hS hown
  go_wp2_with fail
  refine (zzUnescape S hSz _).mono ?_
  rintro e w2 ⟨U, rfl, HU, hbel2⟩
  go_wp2
  go_ret
  exact ⟨congrArg (fun b => Ending.returned (.bool b)) (undo_same (by rw [← HS.out]; exact HU.out)), hbel.trans (hbel2.mono hbel.size)⟩

set_option maxHeartbeats 1000000 in
set_option maxRecDepth 100000 in
theorem walkUndo_big (t : ByteArray) (ap up : Bool) (h : 262144 < t.size) (hm : t.size ≤ maxLen) (w : World) :
    Calls Try.prog 6 #[.string t, .bool ap, .bool up] w fun e w' => e = .returned (.bool true) ∧ Below w.heap.size w w' := by
  by_cases h2 : t.size ≤ 1048576
  · go_enter Try.func6, Try.ntmps6
    go_wp2_with fail
    refine (zzBytes6_yes t ap up h2 _).mono ?_
    rintro e w1 ⟨rfl, rfl⟩
    go_wp2
    go_ret
    exact ⟨rfl, Below.refl _ _⟩
  · go_enter Try.func6, Try.ntmps6
    go_wp2_with fail
    refine (zzBytes6_no t ap up (by omega) hm _).mono ?_
    rintro e w1 ⟨rfl, rfl⟩
    go_wp2
    go_ret
    exact ⟨rfl, Below.refl _ _⟩

end Go.Proofs.Qxb6603825a
