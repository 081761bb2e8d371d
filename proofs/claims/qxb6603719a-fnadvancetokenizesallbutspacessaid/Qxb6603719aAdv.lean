/- Seat b6603719a: (*selectorScanner).advance and ZZAdvance. -/
import Derived.Test.Qxb6603719aLib
import Derived.Handy
namespace Go.Proofs.Qxb6603719a
open Go.RowKit Go.PlainAid

theorem extract_same (t : ByteArray) (k : Nat) : t.extract k k = ByteArray.empty := by
  apply ByteArray.ext
  simp

theorem slice_fix (t : ByteArray) (k n : Nat) (m : Int) (hm : m = (k + n : Nat)) (h : k + n ≤ t.size) (wx : World) :
    (Instr.slice 9 (.string t) (some (.int .i64 (k : Int))) (some (.int .i64 m)) none).run Try.prog wx = .ok (.string (t.extract k (k + n))) wx := by
  subst hm
  have := run_slice_string (P := Try.prog) (w := wx) 9 t .i64 .i64 (k : Int) ((k + n : Nat) : Int) Try.underlying9 (by omega) (by omega) (by omega)
  rw [this, Int.toNat_natCast, Int.toNat_natCast]

theorem not_here {t : ByteArray} {k j : Nat} (h1 : ¬ bt t j = 32) (h2 : (bt t j != 32) = false ∨ 0 ≤ pI (bt t j)) (h3 : pI (bt t k) < 0) : k ≠ j := by
  rintro rfl
  rcases h2 with h | h
  · simp at h; exact h1 h
  · omega

set_option maxHeartbeats 2000000 in
set_option maxRecDepth 100000 in
theorem adv_walk (t tok : ByteArray) (st : Int) (e : Nat) (vs : Int) (w : World) (ht : t.size ≤ 65536) (he : e ≤ t.size) :
    Calls Try.prog 18 #[.pointer (some ⟨w.heap.size, 0, none⟩)] (w.alloc (.cells #[.string t, .string tok, .int .i64 st, .int .i64 e, .int .i64 vs] 42)) fun x w' =>
      ∃ s2 e2 : Nat, x = .returned (.tuple #[]) ∧ Adv t e s2 e2 ∧ w' = (w.alloc (.cells #[.string t, .string (t.extract s2 e2), .int .i64 s2, .int .i64 e2, .int .i64 vs] 42)).drew := by
  have hb := get_bt t
  go_enter Try.func18, Try.ntmps18
  go_wp2
  go_loop [2] (fun v => ∃ k : Nat, e ≤ k ∧ k ≤ t.size ∧ v = .int .i64 k ∧ Spaces t e k) (fun v => t.size - (intOf v).toNat)
  case atStart => exact ⟨e, by omega, he, rfl, Spaces.none _ _⟩
  case round =>
    obtain ⟨k, hek, hk, rfl, hsp⟩ := hrel
    have hem := isEmpty_extract t k
    have hbx : ∀ h, (((t.extract k t.size)[0]'h).toNat : Int) = bt t k := fun h => bt_extract t k t.size 0 h
    by_cases hlt : k < t.size
    · have b0 := bt_nonneg t k
      have b1 := bt_le t k
      go_wp2_with (first
        | (go_at_call 20; refine (hasPrefix t k _ _ 61 61 rfl rfl _).mono ?_; rintro e w' ⟨rfl, rfl⟩)
        | (go_at_call 20; refine (hasPrefix t k _ _ 33 61 rfl rfl _).mono ?_; rintro e w' ⟨rfl, rfl⟩)
        | (go_at_call 21; refine (punct _ b0 b1 _).mono ?_; rintro e w' ⟨rfl, rfl⟩))
      · have hx : (bt t k == 32) = true := by assumption
        go_round
        case rel => exact ⟨k + 1, by omega, by omega, by go_num, hsp.snoc (by simpa using hx)⟩
        case measure => simp [intOf]; omega
      · have hp : HP t k 61 61 = true := by assumption
        have A := Adv.two hek hsp hp (by decide) (by decide)
        have hl := slice_fix t k 2 ((k : Int) + 2) (by omega) A.le3
        go_region
        go_end0
        exact ⟨k, k + 2, rfl, A, rfl⟩
      · have hp : HP t k 33 61 = true := by assumption
        have A := Adv.two hek hsp hp (by decide) (by decide)
        have hl := slice_fix t k 2 ((k : Int) + 2) (by omega) A.le3
        go_region
        go_end0
        exact ⟨k, k + 2, rfl, A, rfl⟩
      · have hx : (bt t k == 32) = false := by assumption
        have A := Adv.one hek hlt hsp (by simpa using hx)
        have hl := slice_fix t k 1 ((k : Int) + 1) (by omega) A.le3
        go_region
        go_end0
        exact ⟨k, k + 1, rfl, A, rfl⟩
      · have hx : (bt t k == 32) = false := by assumption
        have hpn : pI (bt t k) < 0 := by assumption
        go_loop [2] (fun v => ∃ j : Nat, k ≤ j ∧ j ≤ t.size ∧ v = .int .i64 j ∧ Words t k j) (fun v => t.size - (intOf v).toNat)
        case atStart => exact ⟨k, by omega, hk, rfl, Words.none _ _⟩
        case round =>
          obtain ⟨j, hkj, hj, rfl, hw⟩ := hrel
          have fin : k ≠ j → Adv t e k j := fun h => Adv.word hek (by omega) hj hsp hw
          have i1 : (k : Int) ≤ (j : Int) := by omega
          have i2 : (j : Int) ≤ (t.size : Int) := by omega
          have c0 := bt_nonneg t j
          have c1 := bt_le t j
          by_cases hjt : j < t.size
          · go_wp2_with (first
              | (go_at_call 21; refine (punct _ c0 c1 _).mono ?_; rintro e w' ⟨rfl, rfl⟩))
            · have hxj : bt t j = 32 := by assumption
              have A := fin (fun e => by rw [e, hxj] at hx; simp at hx)
              go_region
              go_end0
              exact ⟨k, j, rfl, A, rfl⟩
            · have hxj : ¬ bt t j = 32 := by assumption
              go_round
              case rel => exact ⟨j + 1, by omega, by omega, by go_num, hw.snoc hxj⟩
              case measure => simp [intOf]; omega
            · have hxj : ¬ bt t j = 32 := by assumption
              have hor : (bt t j != 32) = false ∨ 0 ≤ pI (bt t j) := by assumption
              have A := fin (not_here hxj hor hpn)
              go_region
              go_end0
              exact ⟨k, j, rfl, A, rfl⟩
          · obtain rfl : j = t.size := by omega
            have A := fin (by omega)
            go_wp2_with (fail)
            go_region
            go_end0
            exact ⟨k, t.size, rfl, A, rfl⟩
    · obtain rfl : k = t.size := by omega
      go_wp2_with (fail)
      go_region
      go_end0
      exact ⟨t.size, t.size, rfl, Adv.atEnd he hsp, by rw [extract_same]⟩

end Go.Proofs.Qxb6603719a
