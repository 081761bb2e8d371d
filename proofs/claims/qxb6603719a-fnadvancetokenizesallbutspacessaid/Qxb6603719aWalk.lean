/- Seat b6603719a: the law's walk. -/
import Derived.Test.Qxb6603719aZZ
import Derived.Test.Qxb6603719aFil
namespace Go.Proofs.Qxb6603719a
open Go.RowKit Go.PlainAid

theorem info5 : (Try.prog.info? 5).map (fun i => (i.zero, i.size, i.bytes)) = some (some (.int .u8 0), 1, 1) := by kernel_rfl

theorem zzTok (t tok : ByteArray) (st : Int) (e : Nat) (vs : Int) (w : World) (ht : t.size ≤ 65536) (he : e ≤ t.size) :
    Calls Try.prog 14 #[.string t, .string tok, .int .i64 st, .int .i64 e, .int .i64 vs] w fun x w' =>
      ∃ (s2 e2 : Nat) (T : ByteArray), x = .returned (.tuple #[.string t, .string T, .int .i64 s2, .int .i64 e2, .int .i64 vs]) ∧ Tok t e e2 T ∧ w.grownBy w' none :=
  (zzAdvance t tok st e vs w ht he).mono fun _ _ ⟨s2, e2, h1, h2, h3⟩ => ⟨s2, e2, t.extract s2 e2, h1, h2.tok, h3⟩

/-- Behind the append: the value's shape, and what it owns, in the loop's words. -/
theorem grown_tok {w : World} {base e e2 : Nat} {t T : ByteArray} {v : Value} (A : Tok t e e2 T)
    (h : w.ownsRow base 5 1 v ((F t e).length + T.size) (bv (F t e) ++ Lib.strCells T)) (hn : ¬ v = .slice none 0 0) :
    ∃ g' cap', v = .slice (some ⟨g', 0, none⟩) (F t e2).length cap' ∧ w.ownsRow base 5 1 (.slice (some ⟨g', 0, none⟩) (F t e2).length cap') (F t e2).length (bv (F t e2)) := by
  have hl : (F t e).length + T.size = (F t e2).length := by rw [A.app, List.length_append, len_data]
  have hx : bv (F t e) ++ Lib.strCells T = bv (F t e2) := by rw [A.app, bv_append]; rfl
  rw [hl, hx] at h
  rcases h.2 with ⟨hv, _⟩ | ⟨g', cap', cur, hv, _⟩
  · exact absurd hv hn
  · exact ⟨g', cap', hv, by rw [← hv]; exact h⟩

set_option maxHeartbeats 4000000 in
set_option maxRecDepth 100000 in
theorem walk_small (t : ByteArray) (ht : t.size ≤ 65536) (w : World) :
    Calls Try.prog 6 #[.string t] w fun e w' => e = .returned (.bool true) ∧ Below w.heap.size w w' := by
  obtain ⟨i0, hi, hz0, hz1, hz2⟩ := info_parts info5
  have hb := get_bt t
  go_enter Try.func6, Try.ntmps6
  go_wp2_with (first
    | (go_at_call 16; refine (zzBytes_yes _ (by omega) _).mono ?_; rintro e w' ⟨rfl, rfl⟩)
    | (at_make; refine wpList_make_own _ rfl _ _ 36 rfl w.heap.size 5 i0 (.int .u8 0) 1 Try.underlying36 hi hz0 hz1 _ _ _ t.size rfl rfl rfl ?b2 ?b3 (Nat.le_refl _) ?_))
  case b2 => rw [hz2]; omega
  case b3 => unfold maxLen; omega
  intro w0 hown0 hgrow0
  go_wp2
  go_loopw [3, 4, 5, 6, 7] (fun tk st en jo sp wr => ∃ (k e g cap : Nat) (tok : ByteArray) (s : Int), k ≤ e ∧ e ≤ t.size ∧ tk = .string tok ∧ st = .int .i64 s ∧ en = .int .i64 e ∧ sp = .int .i64 k ∧ jo = .slice (some ⟨g, 0, none⟩) (F t e).length cap ∧
      wr.ownsRow w.heap.size 5 1 (.slice (some ⟨g, 0, none⟩) (F t e).length cap) (F t e).length (bv (F t e)) ∧ Below w.heap.size w wr) (fun _ _ _ _ sp _ => t.size + 1 - (intOf sp).toNat)
  case atStart => exact ⟨0, 0, w.heap.size, t.size, _, 0, Nat.le_refl _, Nat.zero_le _, rfl, rfl, rfl, rfl, rfl, hown0, (Below.refl _ _).grown hgrow0 (Nat.le_refl _) (fun k h => by cases h)⟩
  case round =>
    obtain ⟨k, e, g, cap, tok, s, hke, het, rfl, rfl, rfl, rfl, rfl, hown, hbel⟩ := hrel
    have hFl := F_le t e
    go_wp2_with fail
    refine (zzTok t tok s e 0 wr ht het).mono ?_
    rintro x w1 ⟨s2, e2, T, rfl, A, hg1⟩
    have hown1 : w1.ownsRow w.heap.size 5 1 (.slice (some ⟨g, 0, none⟩) (F t e).length cap) (F t e).length (bv (F t e)) := hown.kept hg1 (.inr (by simp [Value.ownBlock]))
    have hbel1 : Below w.heap.size w w1 := hbel.grown hg1 hbel.size (fun k h => by cases h)
    clear hown hbel hg1 hown0 hgrow0
    by_cases hT : T.size = 0
    · have hemp := isEmpty_zero hT
      obtain rfl := A.fin hT
      obtain ⟨N, hN, hNl, hNo⟩ : ∃ N, N = (F t e).length ∧ N = (F t t.size).length ∧ w1.ownsRow w.heap.size 5 1 (.slice (some ⟨g, 0, none⟩) N cap) N (bv (F t t.size)) :=
        ⟨(F t e).length, rfl, by rw [A.app, List.length_append, len_data, hT]; rfl, by rw [A.app, bv_append, show bv T.data.toList = [] from List.eq_nil_of_length_eq_zero (by rw [bv_length, len_data]; exact hT), List.append_nil]; exact hown1⟩
      have hcell : ∀ j u, (bv (F t t.size))[j]? = some u → w1.cell? ⟨g, j, none⟩ = some u := fun j u h => by
        have := hNo.cells (g := g) rfl j u h
        rwa [Addr.add_lit, Nat.zero_add] at this
      have HN : Hid (N = (F t t.size).length) := hNl
      have hNn : N ≤ t.size := by have := F_le t t.size; omega
      rw [← hN]
      clear hNl hNo hown1 hFl A hN
      have HC : Hid (∀ j u, (bv (F t t.size))[j]? = some u → w1.cell? ⟨g, j, none⟩ = some u) := hcell
      clear hcell
      go_wp2
      go_loopw [13, 14] (fun kk ii wi => ∃ i : Nat, i ≤ t.size ∧ ii = .int .i64 i ∧ kk = .int .i64 (F t i).length ∧ Below w.heap.size w wi ∧ Hid (∀ j u, (bv (F t t.size))[j]? = some u → wi.cell? ⟨g, j, none⟩ = some u)) (fun _ ii _ => t.size - (intOf ii).toNat)
      case atStart => exact ⟨0, Nat.zero_le _, rfl, rfl, hbel1, HC⟩
      case round =>
        clear HC hbel1
        rename_i wi
        obtain ⟨i, hit, rfl, rfl, hbi, HC⟩ := hrel
        have hFi := F_le t i
        by_cases hlt : i < t.size
        · by_cases hsp : bt t i = 32
          · have hs := F_len_succ_miss t i hlt hsp
            have HS : Hid ((F t (i + 1)).length = (F t i).length) := hs
            clear hs
            go_wp2
            go_roundw
            case rel => exact ⟨i + 1, by omega, by go_num, by rw [HS.out], hbi, HC⟩
            case measure => simp [intOf]; omega
          · have hs := F_len_succ_hit t i hlt hsp
            have HS : Hid ((F t (i + 1)).length = (F t i).length + 1) := hs
            clear hs
            obtain ⟨hl0, hat⟩ := F_at t i hlt hsp
            have hl1 : (F t i).length < N := by have := HN.out; omega
            have hl2 : ((F t i).length : Int) < (N : Int) := by omega
            have hl3 : (i : Int) < (t.size : Int) := by omega
            have hd : decide ((N : Int) ≤ ((F t i).length : Int)) = false := decide_eq_false (by omega)
            have hc := HC.out _ _ hat
            clear hat hl0
            go_wp2_with fail
            go_quiet (fail)
            go_wp2
            go_roundw
            case rel => exact ⟨i + 1, by omega, by go_num, by rw [HS.out]; go_num, hbi.trans ⟨rfl, rfl, rfl, Nat.le_refl _, fun _ _ => rfl⟩, HC⟩
            case measure => simp [intOf]; omega
        · obtain rfl : i = t.size := by omega
          go_wp2
          go_ret
          exact ⟨by rw [HN.out]; simp, hbi⟩
    · have hemp := isEmpty_pos hT
      have hlt := A.pos hT
      have hroom := A.room
      have hle3 := A.le3
      go_wp2_with (at_builtin; refine Lib.wpList_append_own_string w1 rfl _ _ 36 9 rfl w.heap.size 5 i0 Try.underlying36 Try.underlying9 hi hz0 hz1 hz2 _ _ _ rfl hown1 T rfl ?c1 ?c2 ?c3 ?_)
      case c1 => unfold maxLen; omega
      case c2 => omega
      case c3 => exact hbel1.size
      intro v' w2 hown2 hgrow2 hnil
      obtain ⟨g', cap', rfl, hown3⟩ := grown_tok A hown2 hnil
      have hbel2 : Below w.heap.size w w2 := hbel1.grown hgrow2 hbel1.size (fun k h => (hown1.lt k h).1)
      clear hown2 hgrow2 hnil hown1 hbel1
      go_wp2
      go_roundw
      case rel => exact ⟨k + 1, e2, g', cap', T, s2, by omega, hle3, rfl, rfl, rfl, by go_num, rfl, hown3, hbel2⟩
      case measure => simp [intOf]; omega

set_option maxHeartbeats 1000000 in
set_option maxRecDepth 100000 in
theorem walk_big (t : ByteArray) (ht : 65536 < t.size) (hm : t.size ≤ maxLen) (w : World) :
    Calls Try.prog 6 #[.string t] w fun e w' => e = .returned (.bool true) ∧ Below w.heap.size w w' := by
  by_cases h : t.size ≤ 1048576
  · go_enter Try.func6, Try.ntmps6
    go_wp2_with (go_at_call 16; refine (zzBytes_yes _ (by omega) _).mono ?_; rintro e w' ⟨rfl, rfl⟩)
    go_ret
    exact ⟨rfl, Below.refl _ _⟩
  · go_enter Try.func6, Try.ntmps6
    go_wp2_with (go_at_call 16; refine (zzBytes_no _ (by omega) hm _).mono ?_; rintro e w' ⟨rfl, rfl⟩)
    go_ret
    exact ⟨rfl, Below.refl _ _⟩

end Go.Proofs.Qxb6603719a
