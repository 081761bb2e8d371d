/- Seat b6603825a: zzDigitIs, zzEscapeModel. -/
import Derived.Test.Qxb6603825aHex
namespace Go.Proofs.Qxb6603825a
open Go.RowKit Go.PlainAid

/-- Does c write the digit d, in either case? -/
def dg (c d : Int) : Bool := (c == hd false d) || (c == hd true d)

theorem dg_iff (c d : Int) (c0 : 0 ≤ c) (c1 : c ≤ 255) (d0 : 0 ≤ d) (d1 : d ≤ 15) : dg c d = (hexOk c && decide (hexVal c = d)) := by
  have key : ∀ (c : Fin 256) (d : Fin 16), dg (c.val : Int) (d.val : Int) = (hexOk (c.val : Int) && decide (hexVal (c.val : Int) = (d.val : Int))) := by decide +kernel
  obtain ⟨n, rfl⟩ := Int.eq_ofNat_of_zero_le c0
  obtain ⟨m, rfl⟩ := Int.eq_ofNat_of_zero_le d0
  exact key ⟨n, by omega⟩ ⟨m, by omega⟩

theorem lowAt (d : Int) (h0 : 0 ≤ d) (h1 : d ≤ 15) (h : d.toNat < (⟨#[48, 49, 50, 51, 52, 53, 54, 55, 56, 57, 97, 98, 99, 100, 101, 102]⟩ : ByteArray).size) :
    (((⟨#[48, 49, 50, 51, 52, 53, 54, 55, 56, 57, 97, 98, 99, 100, 101, 102]⟩ : ByteArray)[d.toNat]'h).toNat : Int) = hd false d := by
  have key : ∀ n : Fin 16, bt ⟨#[48, 49, 50, 51, 52, 53, 54, 55, 56, 57, 97, 98, 99, 100, 101, 102]⟩ (n.val : Int).toNat = hd false (n.val : Int) := by decide +kernel
  rw [get_bt]
  obtain ⟨n, rfl⟩ := Int.eq_ofNat_of_zero_le h0
  exact key ⟨n, by omega⟩
theorem upAt (d : Int) (h0 : 0 ≤ d) (h1 : d ≤ 15) (h : d.toNat < (⟨#[48, 49, 50, 51, 52, 53, 54, 55, 56, 57, 65, 66, 67, 68, 69, 70]⟩ : ByteArray).size) :
    (((⟨#[48, 49, 50, 51, 52, 53, 54, 55, 56, 57, 65, 66, 67, 68, 69, 70]⟩ : ByteArray)[d.toNat]'h).toNat : Int) = hd true d := by
  have key : ∀ n : Fin 16, bt ⟨#[48, 49, 50, 51, 52, 53, 54, 55, 56, 57, 65, 66, 67, 68, 69, 70]⟩ (n.val : Int).toNat = hd true (n.val : Int) := by decide +kernel
  rw [get_bt]
  obtain ⟨n, rfl⟩ := Int.eq_ofNat_of_zero_le h0
  exact key ⟨n, by omega⟩

set_option maxHeartbeats 1000000 in
set_option maxRecDepth 100000 in
theorem digitIs (c d : Int) (h0 : 0 ≤ d) (h1 : d ≤ 15) (w : World) :
    Calls Try.prog 20 #[.int .u8 c, .int .i64 d] w fun e w' => e = .returned (.bool (dg c d)) ∧ w = w' := by
  have hl := lowAt d h0 h1
  have hu := upAt d h0 h1
  go_enter Try.func20, Try.ntmps20
  go_wp2
  · have hc : c = hd false d := by assumption
    have e : true = dg c d := by unfold dg; rw [hc]; simp
    go_ret
    exact ⟨congrArg (fun b => Ending.returned (.bool b)) e, rfl⟩
  · go_ret
    exact ⟨rfl, rfl⟩

/-- No number below k has these two digits. -/
def NoM (c d : Int) (k : Nat) : Prop := ∀ j : Nat, j < k → ¬ (dg c ((j : Int) / 16) = true ∧ dg d ((j : Int) % 16) = true)

theorem NoM.snoc {c d : Int} {k : Nat} (h : NoM c d k) (hk : ¬ (dg c ((k : Int) / 16) = true ∧ dg d ((k : Int) % 16) = true)) : NoM c d (k + 1) := by
  intro j hj
  by_cases e : j = k
  · rw [e]; exact hk
  · exact h j (by omega)

theorem NoM.none {c d : Int} (c0 : 0 ≤ c) (c1 : c ≤ 255) (d0 : 0 ≤ d) (d1 : d ≤ 255) (h : NoM c d 256) : ¬ (hexOk c = true ∧ hexOk d = true) := by
  rintro ⟨k1, k2⟩
  have v1 := hexVal_bd c
  have v2 := hexVal_bd d
  refine h (hexVal c * 16 + hexVal d).toNat (by omega) ⟨?_, ?_⟩
  · rw [dg_iff _ _ c0 c1 (by omega) (by omega), k1]
    simp
    omega
  · rw [dg_iff _ _ d0 d1 (by omega) (by omega), k2]
    simp
    omega

theorem hit_val {c d : Int} {k : Nat} (hk : k < 256) (c0 : 0 ≤ c) (c1 : c ≤ 255) (d0 : 0 ≤ d) (d1 : d ≤ 255) (h1 : dg c ((k : Int) / 16) = true) (h2 : dg d ((k : Int) % 16) = true) :
    hexOk c = true ∧ hexOk d = true ∧ (k : Int) = hexVal c * 16 + hexVal d := by
  rw [dg_iff _ _ c0 c1 (by omega) (by omega)] at h1
  rw [dg_iff _ _ d0 d1 (by omega) (by omega)] at h2
  simp at h1 h2
  exact ⟨h1.1, h2.1, by omega⟩

theorem and15 (k : Nat) (h : k < 256) : bits BinOp.and IntKind.i64 (k : Int) 15 = (k : Int) % 16 := by
  have key : ∀ n : Fin 256, bits BinOp.and IntKind.i64 (n.val : Int) 15 = (n.val : Int) % 16 := by decide +kernel
  exact key ⟨k, h⟩

set_option maxHeartbeats 2000000 in
set_option maxRecDepth 100000 in
theorem escapeModel_x (s : ByteArray) (hs : s.size ≤ 1048576) (h4 : 4 ≤ s.size) (hb0 : bt s 0 = 92) (hb1 : bt s 1 = 120) (w : World) :
    Calls Try.prog 10 #[.string s] w fun e w' => e = .returned (escR s.data.toList) ∧ w = w' := by
  have hb := get_bt s
  have b2 := bt_nonneg s 2
  have b2' := bt_le s 2
  have b3 := bt_nonneg s 3
  have b3' := bt_le s 3
  have HH : Hid (¬ (s.size < 2 ∨ bt s 0 ≠ 92) ∧ ¬ (bt s 1 = 34 ∨ bt s 1 = 92)) := ⟨fun h => h.elim (by omega) (fun h => h hb0), fun h => h.elim (by omega) (by omega)⟩
  go_enter Try.func10, Try.ntmps10
  go_wp2
  go_loop [4] (fun v => ∃ k : Nat, k ≤ 256 ∧ v = .int .i64 k ∧ NoM (bt s 2) (bt s 3) k) (fun v => 256 - (intOf v).toNat)
  case atStart => exact ⟨0, Nat.zero_le _, rfl, fun j hj => by omega⟩
  case round =>
    obtain ⟨k, hk, rfl, hno⟩ := hrel
    by_cases hlt : k < 256
    · have ha := and15 k hlt
      go_wp2_with fail
      refine (digitIs (bt s 2) ((k : Int) / 16) (by omega) (by omega) _).mono ?_
      rintro e w' ⟨rfl, rfl⟩
      by_cases k1 : dg (bt s 2) ((k : Int) / 16) = true
      · go_wp2_with fail
        refine (digitIs (bt s 3) ((k : Int) % 16) (by omega) (by omega) _).mono ?_
        rintro e w' ⟨rfl, rfl⟩
        by_cases k2 : dg (bt s 3) ((k : Int) % 16) = true
        · obtain ⟨o2, o3, hv⟩ := hit_val hlt b2 b2' b3 b3' k1 k2
          have HV : Hid (_ ∧ _ ∧ _) := ⟨o2, o3, hv⟩
          clear o2 o3 hv
          go_wp2
          obtain ⟨hn, hm⟩ := HH.out
          obtain ⟨o2, o3, hv⟩ := HV.out
          go_ret2
          exact ⟨escR_mk (by rw [escV_bt, if_neg hn, if_neg hm, if_pos ⟨hb1, h4, o2, o3⟩]; exact hv) (by rw [escN_bt, if_neg hn, if_neg hm, if_pos ⟨hb1, h4, o2, o3⟩]; rfl), rfl⟩
        · have k3 : dg (bt s 3) ((k : Int) % 16) = false := by simpa using k2
          clear k2
          have hno2 := hno.snoc (fun h => by rw [k3] at h; exact absurd h.2 (by decide))
          go_wp2
          go_round
          case rel => exact ⟨k + 1, by omega, by go_num, hno2⟩
          case measure => simp [intOf]; omega
      · have k3 : dg (bt s 2) ((k : Int) / 16) = false := by simpa using k1
        clear k1
        have hno2 := hno.snoc (fun h => by rw [k3] at h; exact absurd h.1 (by decide))
        go_wp2
        go_round
        case rel => exact ⟨k + 1, by omega, by go_num, hno2⟩
        case measure => simp [intOf]; omega
    · obtain rfl : k = 256 := by omega
      have hnn := hno.none b2 b2' b3 b3'
      have HX : Hid (¬ (bt s 1 = 120 ∧ 4 ≤ s.size ∧ hexOk (bt s 2) = true ∧ hexOk (bt s 3) = true)) := fun h => hnn h.2.2
      clear hnn
      go_wp2
      obtain ⟨hn, hm⟩ := HH.out
      have hx := HX.out
      go_ret2
      exact ⟨escR_mk (by rw [escV_bt, if_neg hn, if_neg hm, if_neg hx]) (by rw [escN_bt, if_neg hn, if_neg hm, if_neg hx]; rfl), rfl⟩

set_option maxHeartbeats 2000000 in
set_option maxRecDepth 100000 in
theorem escapeModel (s : ByteArray) (hs : s.size ≤ 1048576) (w : World) :
    Calls Try.prog 10 #[.string s] w fun e w' => e = .returned (escR s.data.toList) ∧ w = w' := by
  have hb := get_bt s
  by_cases h2 : s.size < 2
  · have E : Hid (0 = escV s.data.toList ∧ 0 = (escN s.data.toList : Int)) := ⟨by rw [escV_bt, if_pos (.inl h2)], by rw [escN_bt, if_pos (.inl h2)]; rfl⟩
    go_enter Try.func10, Try.ntmps10
    go_wp2
    go_ret2
    exact ⟨escR_mk E.out.1 E.out.2, rfl⟩
  · by_cases h0 : bt s 0 = 92
    · have hn : ¬ (s.size < 2 ∨ bt s 0 ≠ 92) := fun h => h.elim h2 (fun h => h h0)
      by_cases h34 : bt s 1 = 34
      · have E : Hid (34 = escV s.data.toList ∧ 2 = (escN s.data.toList : Int)) := ⟨by rw [escV_bt, if_neg hn, if_pos (.inl h34), h34], by rw [escN_bt, if_neg hn, if_pos (.inl h34)]; rfl⟩
        clear hn
        go_enter Try.func10, Try.ntmps10
        go_wp2
        go_ret2
        exact ⟨escR_mk E.out.1 E.out.2, rfl⟩
      · by_cases h92 : bt s 1 = 92
        · have E : Hid (92 = escV s.data.toList ∧ 2 = (escN s.data.toList : Int)) := ⟨by rw [escV_bt, if_neg hn, if_pos (.inr h92), h92], by rw [escN_bt, if_neg hn, if_pos (.inr h92)]; rfl⟩
          clear hn
          go_enter Try.func10, Try.ntmps10
          go_wp2
          go_ret2
          exact ⟨escR_mk E.out.1 E.out.2, rfl⟩
        · have hm : ¬ (bt s 1 = 34 ∨ bt s 1 = 92) := fun h => h.elim h34 h92
          by_cases hx : bt s 1 = 120
          · by_cases h4 : 4 ≤ s.size
            · exact escapeModel_x s hs h4 h0 hx w
            · have E : Hid (0 = escV s.data.toList ∧ 0 = (escN s.data.toList : Int)) := ⟨by rw [escV_bt, if_neg hn, if_neg hm, if_neg (fun h => h4 h.2.1)], by rw [escN_bt, if_neg hn, if_neg hm, if_neg (fun h => h4 h.2.1)]; rfl⟩
              clear hn hm
              go_enter Try.func10, Try.ntmps10
              go_wp2
              go_ret2
              exact ⟨escR_mk E.out.1 E.out.2, rfl⟩
          · have E : Hid (0 = escV s.data.toList ∧ 0 = (escN s.data.toList : Int)) := ⟨by rw [escV_bt, if_neg hn, if_neg hm, if_neg (fun h => hx h.1)], by rw [escN_bt, if_neg hn, if_neg hm, if_neg (fun h => hx h.1)]; rfl⟩
            have q1 : (bt s 1 == 34) = false := by simpa using h34
            have q2 : (bt s 1 == 92) = false := by simpa using h92
            have q3 : (bt s 1 == 120) = false := by simpa using hx
            clear hn hm h34 h92 hx
            by_cases h4 : 4 ≤ s.size
            all_goals
              go_enter Try.func10, Try.ntmps10
              go_wp2
              go_ret2
              exact ⟨escR_mk E.out.1 E.out.2, rfl⟩
    · have E : Hid (0 = escV s.data.toList ∧ 0 = (escN s.data.toList : Int)) := ⟨by rw [escV_bt, if_pos (.inr h0)], by rw [escN_bt, if_pos (.inr h0)]; rfl⟩
      have hq : (bt s 0 == 92) = false := by simpa using h0
      clear h0
      by_cases h4 : 4 ≤ s.size
      all_goals
        go_enter Try.func10, Try.ntmps10
        go_wp2
        go_ret2
        exact ⟨escR_mk E.out.1 E.out.2, rfl⟩

end Go.Proofs.Qxb6603825a
