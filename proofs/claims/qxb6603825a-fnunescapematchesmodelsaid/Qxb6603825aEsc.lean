/- Seat b6603825a: fromHex, escapeAt. -/
import Derived.Test.Qxb6603825aRows
import Derived.Test.Qxb6603825aPlain
import Derived.Test.Qxb6603825aShelf
import Derived.WalkKit
import Derived.ProofKit
import Derived.Handy
namespace Go.Proofs.Qxb6603825a
open Go.RowKit Go.PlainAid

theorem ret_hv {a c : Int} {b : Bool} (h1 : a = hexVal c) (h2 : b = hexOk c) : Ending.returned (.tuple #[.int .u8 a, .bool b]) = .returned (.tuple #[.int .u8 (hexVal c), .bool (hexOk c)]) := by rw [h1, h2]

set_option maxHeartbeats 1000000 in
set_option maxRecDepth 100000 in
theorem fromHex (c : Int) (h0 : 0 ≤ c) (h1 : c ≤ 255) (w : World) :
    Calls Try.prog 22 #[.int .u8 c] w fun e w' => e = .returned (.tuple #[.int .u8 (hexVal c), .bool (hexOk c)]) ∧ w = w' := by
  by_cases a : 48 ≤ c ∧ c ≤ 57
  · have e1 : c - 48 = hexVal c := by unfold hexVal; rw [if_pos a]
    have e2 : true = hexOk c := by unfold hexOk; rw [decide_eq_true a]; rfl
    have E : Hid (c - 48 = hexVal c ∧ true = hexOk c) := ⟨e1, e2⟩
    clear e1 e2
    obtain ⟨a1, a2⟩ := a
    go_enter Try.func22, Try.ntmps22
    go_wp2
    go_ret2
    exact ⟨ret_hv E.out.1 E.out.2, rfl⟩
  · by_cases b : 97 ≤ c ∧ c ≤ 102
    · have e1 : c - 97 + 10 = hexVal c := by unfold hexVal; rw [if_neg a, if_pos b]; omega
      have e2 : true = hexOk c := by unfold hexOk; rw [decide_eq_true b]; simp
      have E : Hid (c - 97 + 10 = hexVal c ∧ true = hexOk c) := ⟨e1, e2⟩
      clear e1 e2
      obtain ⟨b1, b2⟩ := b
      go_enter Try.func22, Try.ntmps22
      go_wp2
      go_ret2
      exact ⟨ret_hv E.out.1 E.out.2, rfl⟩
    · by_cases d : 65 ≤ c ∧ c ≤ 70
      · have e1 : c - 65 + 10 = hexVal c := by unfold hexVal; rw [if_neg a, if_neg b, if_pos d]; omega
        have e2 : true = hexOk c := by unfold hexOk; rw [decide_eq_true d]; simp
        have E : Hid (c - 65 + 10 = hexVal c ∧ true = hexOk c) := ⟨e1, e2⟩
        clear e1 e2
        obtain ⟨d1, d2⟩ := d
        go_enter Try.func22, Try.ntmps22
        go_wp2
        go_ret2
        exact ⟨ret_hv E.out.1 E.out.2, rfl⟩
      · have e1 : 0 = hexVal c := by unfold hexVal; rw [if_neg a, if_neg b, if_neg d]
        have e2 : false = hexOk c := by unfold hexOk; rw [decide_eq_false a, decide_eq_false b, decide_eq_false d]; rfl
        have E : Hid (0 = hexVal c ∧ false = hexOk c) := ⟨e1, e2⟩
        clear e1 e2
        go_enter Try.func22, Try.ntmps22
        go_wp2
        all_goals
          go_ret2
          exact ⟨ret_hv E.out.1 E.out.2, rfl⟩

theorem escN_bt (s : ByteArray) : escN s.data.toList =
    if s.size < 2 ∨ bt s 0 ≠ 92 then 0 else if bt s 1 = 34 ∨ bt s 1 = 92 then 2
    else if bt s 1 = 120 ∧ 4 ≤ s.size ∧ hexOk (bt s 2) = true ∧ hexOk (bt s 3) = true then 4 else 0 := by
  unfold escN
  simp only [← bt_at, len_data]
theorem escV_bt (s : ByteArray) : escV s.data.toList =
    if s.size < 2 ∨ bt s 0 ≠ 92 then 0 else if bt s 1 = 34 ∨ bt s 1 = 92 then bt s 1
    else if bt s 1 = 120 ∧ 4 ≤ s.size ∧ hexOk (bt s 2) = true ∧ hexOk (bt s 3) = true then hexVal (bt s 2) * 16 + hexVal (bt s 3) else 0 := by
  unfold escV
  simp only [← bt_at, len_data]

/-- What escapeAt answers. -/
def escR (l : List UInt8) : Value := .tuple #[.int .u8 (escV l), .int .i64 (escN l)]
theorem escR_mk {s : ByteArray} {v n : Int} (h1 : v = escV s.data.toList) (h2 : n = (escN s.data.toList : Int)) : Ending.returned (.tuple #[.int .u8 v, .int .i64 n]) = .returned (escR s.data.toList) := by rw [h1, h2]; rfl

theorem or_nib (h l : Int) (h0 : 0 ≤ h ∧ h ≤ 15) (l0 : 0 ≤ l ∧ l ≤ 15) : bits BinOp.or IntKind.u8 (h * 16) l = h * 16 + l := by
  have key : ∀ (a b : Fin 16), bits BinOp.or IntKind.u8 ((a.val : Int) * 16) (b.val : Int) = (a.val : Int) * 16 + (b.val : Int) := by decide +kernel
  obtain ⟨n, rfl⟩ := Int.eq_ofNat_of_zero_le h0.1
  obtain ⟨m, rfl⟩ := Int.eq_ofNat_of_zero_le l0.1
  exact key ⟨n, by omega⟩ ⟨m, by omega⟩

set_option maxHeartbeats 2000000 in
set_option maxRecDepth 100000 in
theorem escapeAt_x (s : ByteArray) (hs : s.size ≤ 1048576) (h4 : 4 ≤ s.size) (hb0 : bt s 0 = 92) (hb1 : bt s 1 = 120) (w : World) :
    Calls Try.prog 19 #[.string s] w fun e w' => e = .returned (escR s.data.toList) ∧ w = w' := by
  have hb := get_bt s
  have b2 := bt_nonneg s 2
  have b2' := bt_le s 2
  have b3 := bt_nonneg s 3
  have b3' := bt_le s 3
  have v2 := hexVal_bd (bt s 2)
  have v3 := hexVal_bd (bt s 3)
  have HH : Hid (¬ (s.size < 2 ∨ bt s 0 ≠ 92) ∧ ¬ (bt s 1 = 34 ∨ bt s 1 = 92)) := ⟨fun h => h.elim (by omega) (fun h => h hb0), fun h => h.elim (by omega) (by omega)⟩
  go_enter Try.func19, Try.ntmps19
  go_wp2_with fail
  refine (fromHex (bt s 2) b2 b2' _).mono ?_
  rintro e w' ⟨rfl, rfl⟩
  go_wp2_with fail
  refine (fromHex (bt s 3) b3 b3' _).mono ?_
  rintro e w' ⟨rfl, rfl⟩
  go_wp2
  all_goals obtain ⟨hn, hm⟩ := HH.out
  · have k2 : hexOk (bt s 2) = true := by assumption
    have k3 : hexOk (bt s 3) = true := by assumption
    go_ret2
    exact ⟨escR_mk (by rw [escV_bt, if_neg hn, if_neg hm, if_pos ⟨hb1, h4, k2, k3⟩]; exact or_nib _ _ v2 v3) (by rw [escN_bt, if_neg hn, if_neg hm, if_pos ⟨hb1, h4, k2, k3⟩]; rfl), rfl⟩
  · have k3 : hexOk (bt s 3) = false := by assumption
    have k : ¬ (bt s 1 = 120 ∧ 4 ≤ s.size ∧ hexOk (bt s 2) = true ∧ hexOk (bt s 3) = true) := fun h => by rw [k3] at h; exact absurd h.2.2.2 (by decide)
    go_ret2
    exact ⟨escR_mk (by rw [escV_bt, if_neg hn, if_neg hm, if_neg k]) (by rw [escN_bt, if_neg hn, if_neg hm, if_neg k]; rfl), rfl⟩
  · have k2 : ¬ hexOk (bt s 2) = true := by assumption
    have k : ¬ (bt s 1 = 120 ∧ 4 ≤ s.size ∧ hexOk (bt s 2) = true ∧ hexOk (bt s 3) = true) := fun h => k2 h.2.2.1
    go_ret2
    exact ⟨escR_mk (by rw [escV_bt, if_neg hn, if_neg hm, if_neg k]) (by rw [escN_bt, if_neg hn, if_neg hm, if_neg k]; rfl), rfl⟩

set_option maxHeartbeats 2000000 in
set_option maxRecDepth 100000 in
theorem escapeAt (s : ByteArray) (hs : s.size ≤ 1048576) (w : World) :
    Calls Try.prog 19 #[.string s] w fun e w' => e = .returned (escR s.data.toList) ∧ w = w' := by
  have hb := get_bt s
  by_cases h2 : s.size < 2
  · have E : Hid (0 = escV s.data.toList ∧ 0 = (escN s.data.toList : Int)) := ⟨by rw [escV_bt, if_pos (.inl h2)], by rw [escN_bt, if_pos (.inl h2)]; rfl⟩
    go_enter Try.func19, Try.ntmps19
    go_wp2
    go_ret2
    exact ⟨escR_mk E.out.1 E.out.2, rfl⟩
  · by_cases h0 : bt s 0 = 92
    · have hn : ¬ (s.size < 2 ∨ bt s 0 ≠ 92) := fun h => h.elim h2 (fun h => h h0)
      by_cases h34 : bt s 1 = 34
      · have E : Hid (34 = escV s.data.toList ∧ 2 = (escN s.data.toList : Int)) := ⟨by rw [escV_bt, if_neg hn, if_pos (.inl h34), h34], by rw [escN_bt, if_neg hn, if_pos (.inl h34)]; rfl⟩
        clear hn
        go_enter Try.func19, Try.ntmps19
        go_wp2
        go_ret2
        exact ⟨escR_mk E.out.1 E.out.2, rfl⟩
      · by_cases h92 : bt s 1 = 92
        · have E : Hid (92 = escV s.data.toList ∧ 2 = (escN s.data.toList : Int)) := ⟨by rw [escV_bt, if_neg hn, if_pos (.inr h92), h92], by rw [escN_bt, if_neg hn, if_pos (.inr h92)]; rfl⟩
          clear hn
          go_enter Try.func19, Try.ntmps19
          go_wp2
          go_ret2
          exact ⟨escR_mk E.out.1 E.out.2, rfl⟩
        · have hm : ¬ (bt s 1 = 34 ∨ bt s 1 = 92) := fun h => h.elim h34 h92
          by_cases hx : bt s 1 = 120
          · by_cases h4 : 4 ≤ s.size
            · exact escapeAt_x s hs h4 h0 hx w
            · have E : Hid (0 = escV s.data.toList ∧ 0 = (escN s.data.toList : Int)) := ⟨by rw [escV_bt, if_neg hn, if_neg hm, if_neg (fun h => h4 h.2.1)], by rw [escN_bt, if_neg hn, if_neg hm, if_neg (fun h => h4 h.2.1)]; rfl⟩
              clear hn hm
              go_enter Try.func19, Try.ntmps19
              go_wp2
              go_ret2
              exact ⟨escR_mk E.out.1 E.out.2, rfl⟩
          · have E : Hid (0 = escV s.data.toList ∧ 0 = (escN s.data.toList : Int)) := ⟨by rw [escV_bt, if_neg hn, if_neg hm, if_neg (fun h => hx h.1)], by rw [escN_bt, if_neg hn, if_neg hm, if_neg (fun h => hx h.1)]; rfl⟩
            clear hn hm
            go_enter Try.func19, Try.ntmps19
            go_wp2
            go_ret2
            exact ⟨escR_mk E.out.1 E.out.2, rfl⟩
    · have E : Hid (0 = escV s.data.toList ∧ 0 = (escN s.data.toList : Int)) := ⟨by rw [escV_bt, if_pos (.inr h0)], by rw [escN_bt, if_pos (.inr h0)]; rfl⟩
      have hq : (bt s 0 != 92) = true := by simpa using h0
      go_enter Try.func19, Try.ntmps19
      go_wp2
      go_ret2
      exact ⟨escR_mk E.out.1 E.out.2, rfl⟩

end Go.Proofs.Qxb6603825a
