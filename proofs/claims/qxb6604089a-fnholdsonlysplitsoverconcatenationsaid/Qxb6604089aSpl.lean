/- Seat b6604089a: the law on concatenation. -/
import Derived.Test.Qxb6604089aHold
namespace Go.Proofs.Qxb6604089a
open Go.RowKit Go.PlainAid

theorem data_append (a b : ByteArray) : (a ++ b).data.toList = a.data.toList ++ b.data.toList := by
  simp [ByteArray.data_append]

theorem HO_append (a b x : List UInt8) : HO (a ++ b) x = (HO a x && HO b x) := by
  unfold HO
  rw [List.all_append]

set_option maxHeartbeats 1000000 in
set_option maxRecDepth 100000 in
theorem zzBytes4_yes (a b x : ByteArray) (h : a.size + b.size + x.size ≤ 1048576) (w : World) :
    Calls Try.prog 8 #[.string a, .string b, .string x] w fun e w' => e = .returned (.bool true) ∧ w = w' := by
  go_enter Try.func8, Try.ntmps8
  go_wp2
  go_ret
  exact ⟨rfl, rfl⟩

set_option maxHeartbeats 2000000 in
set_option maxRecDepth 100000 in
/-- Whatever it answers. -/
theorem zzBytes4_any (a b x : ByteArray) (ha : a.size ≤ maxLen) (hb : b.size ≤ maxLen) (hx : x.size ≤ maxLen) (w : World) :
    Calls Try.prog 8 #[.string a, .string b, .string x] w fun e w' => ∃ r, e = .returned (.bool r) ∧ w = w' := by
  unfold maxLen at ha hb hx
  go_enter Try.func8, Try.ntmps8
  go_wp2
  all_goals
    go_ret
    exact ⟨_, rfl, rfl⟩

set_option maxHeartbeats 2000000 in
set_option maxRecDepth 100000 in
theorem walkSpl (a b x : ByteArray) (ha : a.size ≤ 131072) (hb : b.size ≤ 131072) (hx : x.size ≤ 262144) (w : World) :
    Calls Try.prog 4 #[.string a, .string b, .string x] w fun e w' => e = .returned (.bool true) ∧ Below w.heap.size w w' := by
  have hsum := HO_append a.data.toList b.data.toList x.data.toList
  rw [← data_append] at hsum
  have HS : Hid (_ = _) := hsum
  clear hsum
  have hsz : (a ++ b).size = a.size + b.size := by simp
  obtain ⟨p, hp⟩ : ∃ p, p = HO a.data.toList x.data.toList := ⟨_, rfl⟩
  obtain ⟨q, hq⟩ : ∃ q, q = HO b.data.toList x.data.toList := ⟨_, rfl⟩
  rw [← hp, ← hq] at HS
  have HP : Hid (_ = _) := hp
  have HQ : Hid (_ = _) := hq
  clear hp hq
  go_enter Try.func4, Try.ntmps4
  go_wp2_with fail
  refine (zzBytes4_yes a b x (by omega) _).mono ?_
  rintro e w1 ⟨rfl, rfl⟩
  go_wp2_with fail
  refine (zzHold ⟨#[]⟩ x (by decide) _).mono ?_
  rintro e w1 ⟨rfl, rfl⟩
  have h0 : HO (⟨#[]⟩ : ByteArray).data.toList x.data.toList = true := rfl
  rw [h0]
  go_wp2_with fail
  refine (zzHold (a ++ b) x (by rw [hsz]; omega) _).mono ?_
  rintro e w1 ⟨rfl, rfl⟩
  rw [HS.out]
  go_wp2_with fail
  refine (zzHold a x (by omega) _).mono ?_
  rintro e w1 ⟨rfl, rfl⟩
  rw [← HP.out]
  cases p
  · go_wp2
    go_ret
    exact ⟨rfl, Below.refl _ _⟩
  · go_wp2_with fail
    refine (zzHold b x (by omega) _).mono ?_
    rintro e w1 ⟨rfl, rfl⟩
    rw [← HQ.out]
    cases q
    all_goals
      go_wp2
      go_ret
      exact ⟨rfl, Below.refl _ _⟩

set_option maxHeartbeats 2000000 in
set_option maxRecDepth 100000 in
theorem walkSpl_big (a b x : ByteArray) (h : ¬ (a.size ≤ 131072 ∧ b.size ≤ 131072 ∧ x.size ≤ 262144)) (ha : a.size ≤ maxLen) (hb : b.size ≤ maxLen) (hx : x.size ≤ maxLen) (w : World) :
    Calls Try.prog 4 #[.string a, .string b, .string x] w fun e w' => e = .returned (.bool true) ∧ Below w.heap.size w w' := by
  have ha' := ha
  have hb' := hb
  have hx' := hx
  unfold maxLen at ha' hb' hx'
  rcases (show 131072 < a.size ∨ (a.size ≤ 131072 ∧ 131072 < b.size) ∨ (a.size ≤ 131072 ∧ b.size ≤ 131072 ∧ 262144 < x.size) by omega) with h1 | ⟨h1, h2⟩ | ⟨h1, h2, h3⟩
  all_goals
    clear h
    go_enter Try.func4, Try.ntmps4
    go_wp2_with fail
    refine (zzBytes4_any a b x ha hb hx _).mono ?_
    rintro e w1 ⟨r, rfl, rfl⟩
    cases r
    all_goals
      go_wp2
      go_ret
      exact ⟨rfl, Below.refl _ _⟩

end Go.Proofs.Qxb6604089a
