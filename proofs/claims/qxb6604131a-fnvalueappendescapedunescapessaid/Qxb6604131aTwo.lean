/- Seat b6604131a: pv1HasPrefixBytes, pv1Unescape. -/
import Derived.Test.Qxb6604131aApp
namespace Go.Proofs.Qxb6604131a
open Go.RowKit Go.PlainAid

set_option maxHeartbeats 2000000 in
set_option maxRecDepth 100000 in
theorem hasPre (a1 a2 : Option Addr) (n1 c1 n2 c2 : Nat) (zs1 zs2 : List Int) (w : World) (hn1 : n1 ≤ 1048576) (hle : n2 ≤ n1) (h1 : RV w a1 n1 zs1) (h2 : RV w a2 n2 zs2) (heq : ∀ i, i < n2 → zs1.getD i 0 = zs2.getD i 0) :
    Calls Try.prog 8 #[.slice a1 n1 c1, .slice a2 n2 c2] w fun e w' => e = .returned (.bool true) ∧ Below w.heap.size w w' := by
  have HQ : Hid (∀ i, i < n2 → zs1.getD i 0 = zs2.getD i 0) := heq
  clear heq
  go_enter Try.func8, Try.ntmps8
  go_wp2
  go_loopw [5] (fun i wr => ∃ k : Nat, k ≤ n2 ∧ i = .int .i64 k ∧ Below w.heap.size w wr) (fun i _ => n2 - (intOf i).toNat)
  case atStart => exact ⟨0, Nat.zero_le _, rfl, Below.refl _ _⟩
  case round =>
    obtain ⟨k, hk, rfl, hbel⟩ := hrel
    by_cases hlt : k < n2
    · rcases h1.2 with h0 | ⟨g1, o1, rfl, hc1⟩
      · omega
      · rcases h2.2 with h0 | ⟨g2, o2, rfl, hc2⟩
        · omega
        · have d1 := hc1 k (by omega)
          have d2 := hc2 k hlt
          have e1 : wr.cell? ⟨g1, o1 + k, none⟩ = some (.int .u8 (zs1.getD k 0)) := (hbel.cell (p := ⟨g1, o1 + k, none⟩) (World.block_lt_of_cell? w _ d1)).trans d1
          have e2 : wr.cell? ⟨g2, o2 + k, none⟩ = some (.int .u8 (zs2.getD k 0)) := (hbel.cell (p := ⟨g2, o2 + k, none⟩) (World.block_lt_of_cell? w _ d2)).trans d2
          rw [HQ.out k hlt] at e1
          obtain ⟨z, hz⟩ : ∃ z, zs2.getD k 0 = z := ⟨_, rfl⟩
          rw [hz] at e1 e2
          have i1 : (k : Int) < (n1 : Int) := by omega
          have i2 : (k : Int) < (n2 : Int) := by omega
          clear d1 d2 hc1 hc2 h1 h2 hz
          go_wp2_with fail
          go_quiet (fail)
          go_wp2
          go_roundw
          case rel => exact ⟨k + 1, by omega, by go_num, hbel.trans ⟨rfl, rfl, rfl, Nat.le_refl _, fun _ _ => rfl⟩⟩
          case measure => simp [intOf]; omega
    · obtain rfl : k = n2 := by omega
      go_wp2
      go_ret
      exact ⟨rfl, hbel⟩

/-- Behind the append of one number. -/
theorem num_push {w1 : World} {base g cap : Nat} {acc : List Int} {v : Int} (h : w1.ownsRow base 5 1 (.slice (some ⟨g, 0, none⟩) (acc.length + 1) cap) (acc.length + 1) (ic acc ++ [.int .u8 v])) :
    w1.ownsRow base 5 1 (.slice (some ⟨g, 0, none⟩) (acc ++ [v]).length cap) (acc ++ [v]).length (ic (acc ++ [v])) := by
  rw [List.length_append, List.length_singleton, ic_append]
  exact h
theorem len_snoc (acc : List Int) (v : Int) : (acc ++ [v]).length = acc.length + 1 := by rw [List.length_append, List.length_singleton]
theorem dec_t : dec 116 = 9 := by decide
theorem dec_n : dec 110 = 10 := by decide
theorem dec_r : dec 114 = 13 := by decide
theorem dec_o {d : Int} (h1 : ¬ d = 116) (h2 : ¬ d = 110) (h3 : ¬ d = 114) : dec d = d := by unfold dec; rw [if_neg h1, if_neg h2, if_neg h3]

set_option maxHeartbeats 8000000 in
set_option maxRecDepth 100000 in
theorem unesc (a : Option Addr) (n cap : Nat) (zs r : List Int) (w : World) (hn : n ≤ 1048576) (h : RV w a n zs) (hu0 : un2 zs = some r) :
    Calls Try.prog 9 #[.slice a n cap] w fun e w' => e = .returned (.tuple #[.slice (some ⟨w.heap.size, 0, none⟩) r.length n, .bool true]) ∧
      w'.ownsRow w.heap.size 5 1 (.slice (some ⟨w.heap.size, 0, none⟩) r.length n) r.length (ic r) ∧ Below w.heap.size w w' := by
  obtain ⟨i0, hi, hz0, hz1, hz2⟩ := info_parts info5
  have hst := UV.start hu0
  clear hu0
  have hzl := h.1
  go_enter Try.func9, Try.ntmps9
  go_wp2_with (at_make; refine wpList_make_own _ rfl _ _ 22 rfl w.heap.size 5 i0 (.int .u8 0) 1 Try.underlying22 hi hz0 hz1 _ _ _ n rfl rfl rfl ?b2 ?b3 (Nat.le_refl _) ?_)
  case b2 => rw [hz2]; omega
  case b3 => unfold maxLen; omega
  intro w0 hown0 hgrow0
  go_wp2
  go_loopw [4, 5] (fun o i wr => ∃ (k : Nat) (acc : List Int), UV zs r k acc ∧ i = .int .i64 k ∧ o = .slice (some ⟨w.heap.size, 0, none⟩) acc.length n ∧
      wr.ownsRow w.heap.size 5 1 (.slice (some ⟨w.heap.size, 0, none⟩) acc.length n) acc.length (ic acc) ∧ Below w.heap.size w wr) (fun _ i _ => n - (intOf i).toNat)
  case atStart => exact ⟨0, [], hst, rfl, rfl, hown0, (Below.refl _ _).grown hgrow0 (Nat.le_refl _) (fun k h => by cases h)⟩
  case round =>
    obtain ⟨k, acc, hu, rfl, rfl, hown, hbel⟩ := hrel
    clear hown0 hgrow0 hst
    have hle := hu.le
    have htop := hu.top
    have hsz := hbel.size
    by_cases hlt : k < n
    · rcases h.2 with h0 | ⟨g, off, rfl, hc⟩
      · omega
      · have d1 := hc k hlt
        have e1 : wr.cell? ⟨g, off + k, none⟩ = some (.int .u8 (zs.getD k 0)) := (hbel.cell (p := ⟨g, off + k, none⟩) (World.block_lt_of_cell? w _ d1)).trans d1
        by_cases h92 : zs.getD k 0 = 92
        · obtain ⟨hk1, hu2⟩ := hu.esc (by omega) h92
          have d2 := hc (k + 1) (by omega)
          have e2 : wr.cell? ⟨g, off + (k + 1), none⟩ = some (.int .u8 (zs.getD (k + 1) 0)) := (hbel.cell (p := ⟨g, off + (k + 1), none⟩) (World.block_lt_of_cell? w _ d2)).trans d2
          rw [h92] at e1
          obtain ⟨d, hd⟩ : ∃ d, zs.getD (k + 1) 0 = d := ⟨_, rfl⟩
          rw [hd] at e2 hu2
          have i2 : ((k : Int) + 1) < (n : Int) := by omega
          clear d1 d2 hc h hd h92 hu
          by_cases h116 : d = 116
          · subst h116
            rw [dec_t] at hu2
            go_wp2_with (at_builtin; refine wpList_append_fits _ rfl (.tmp 46) (.tmp 47) 22 rfl w.heap.size 5 i0 1 Try.underlying22 hi hz1 w.heap.size _ n _ rfl (hown.alloc _) ⟨wr.heap.size, 0, none⟩ 1 1 [.int .u8 9] rfl rfl (cells_new wr [.int .u8 9] 5) (ints_oneCell .u8 [9]) (by omega) ?_)
            intro w1 hown1 hgrow1
            have hown2 := num_push hown1
            have hbel2 : Below w.heap.size w w1 := (hbel.alloc hsz _).grown hgrow1 (by simp; omega) (fun k hk => by cases hk; exact Nat.le_refl _)
            clear hown1 hgrow1 hown hbel
            go_wp2
            go_roundw
            case rel => exact ⟨k + 2, _, hu2, by go_num, by rw [len_snoc], hown2, hbel2⟩
            case measure => simp [intOf]; omega
          · have n116 : (d == 116) = false := by simpa using h116
            by_cases h110 : d = 110
            · subst h110
              rw [dec_n] at hu2
              go_wp2_with (at_builtin; refine wpList_append_fits _ rfl (.tmp 51) (.tmp 52) 22 rfl w.heap.size 5 i0 1 Try.underlying22 hi hz1 w.heap.size _ n _ rfl (hown.alloc _) ⟨wr.heap.size, 0, none⟩ 1 1 [.int .u8 10] rfl rfl (cells_new wr [.int .u8 10] 5) (ints_oneCell .u8 [10]) (by omega) ?_)
              intro w1 hown1 hgrow1
              have hown2 := num_push hown1
              have hbel2 : Below w.heap.size w w1 := (hbel.alloc hsz _).grown hgrow1 (by simp; omega) (fun k hk => by cases hk; exact Nat.le_refl _)
              clear hown1 hgrow1 hown hbel
              go_wp2
              go_roundw
              case rel => exact ⟨k + 2, _, hu2, by go_num, by rw [len_snoc], hown2, hbel2⟩
              case measure => simp [intOf]; omega
            · have n110 : (d == 110) = false := by simpa using h110
              by_cases h114 : d = 114
              · subst h114
                rw [dec_r] at hu2
                go_wp2_with (at_builtin; refine wpList_append_fits _ rfl (.tmp 56) (.tmp 57) 22 rfl w.heap.size 5 i0 1 Try.underlying22 hi hz1 w.heap.size _ n _ rfl (hown.alloc _) ⟨wr.heap.size, 0, none⟩ 1 1 [.int .u8 13] rfl rfl (cells_new wr [.int .u8 13] 5) (ints_oneCell .u8 [13]) (by omega) ?_)
                intro w1 hown1 hgrow1
                have hown2 := num_push hown1
                have hbel2 : Below w.heap.size w w1 := (hbel.alloc hsz _).grown hgrow1 (by simp; omega) (fun k hk => by cases hk; exact Nat.le_refl _)
                clear hown1 hgrow1 hown hbel
                go_wp2
                go_roundw
                case rel => exact ⟨k + 2, _, hu2, by go_num, by rw [len_snoc], hown2, hbel2⟩
                case measure => simp [intOf]; omega
              · have n114 : (d == 114) = false := by simpa using h114
                rw [dec_o h116 h110 h114] at hu2
                clear h116 h110 h114
                go_wp2_with (at_builtin; refine wpList_append_fits _ rfl (.tmp 36) (.tmp 42) 22 rfl w.heap.size 5 i0 1 Try.underlying22 hi hz1 w.heap.size _ n _ rfl (hown.alloc _) ⟨wr.heap.size, 0, none⟩ 1 1 [.int .u8 d] rfl rfl (cells_new wr [.int .u8 d] 5) (ints_oneCell .u8 [d]) (by omega) ?_)
                intro w1 hown1 hgrow1
                have hown2 := num_push hown1
                have hbel2 : Below w.heap.size w w1 := (hbel.alloc hsz _).grown hgrow1 (by simp; omega) (fun k hk => by cases hk; exact Nat.le_refl _)
                clear hown1 hgrow1 hown hbel
                go_wp2
                go_roundw
                case rel => exact ⟨k + 2, _, hu2, by go_num, by rw [len_snoc], hown2, hbel2⟩
                case measure => simp [intOf]; omega
        · have hu2 := hu.plain (by omega) h92
          obtain ⟨c, hcv⟩ : ∃ c, zs.getD k 0 = c := ⟨_, rfl⟩
          rw [hcv] at e1 hu2 h92
          have n92 : (c != 92) = true := by simpa using h92
          clear d1 hc h hcv h92 hu
          go_wp2_with (at_builtin; refine wpList_append_fits _ rfl (.tmp 20) (.tmp 22) 22 rfl w.heap.size 5 i0 1 Try.underlying22 hi hz1 w.heap.size _ n _ rfl (hown.alloc _) ⟨wr.heap.size, 0, none⟩ 1 1 [.int .u8 c] rfl rfl (cells_new wr [.int .u8 c] 5) (ints_oneCell .u8 [c]) (by omega) ?_)
          intro w1 hown1 hgrow1
          have hown2 := num_push hown1
          have hbel2 : Below w.heap.size w w1 := (hbel.alloc hsz _).grown hgrow1 (by simp; omega) (fun k hk => by cases hk; exact Nat.le_refl _)
          clear hown1 hgrow1 hown hbel
          go_wp2
          go_roundw
          case rel => exact ⟨k + 1, _, hu2, by go_num, by rw [len_snoc], hown2, hbel2⟩
          case measure => simp [intOf]; omega
    · obtain rfl : k = n := by omega
      have he := hzl ▸ hu
      obtain rfl : acc = r := (show UV zs r zs.length acc by rw [hzl]; exact hu).fin
      clear he hu
      go_wp2
      go_ret2
      exact ⟨rfl, hown, hbel⟩

end Go.Proofs.Qxb6604131a
