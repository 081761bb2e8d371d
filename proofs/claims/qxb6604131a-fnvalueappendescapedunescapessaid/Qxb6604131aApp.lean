/- Seat b6604131a: AppendEscaped. -/
import Derived.Test.Qxb6604131aOne
import Derived.Lib.AppendStr
namespace Go.Proofs.Qxb6604131a
open Go.RowKit Go.PlainAid

/-! ### The frame: a row of bytes no longer than what was there stays as it was -/
def FrV (n0 : Nat) (v0 : Value) (W w : World) (v : Value) : Prop :=
  ∀ K cur, W.heap[K]? = some (.cells cur 5 (0, 0)) → cur.size ≤ n0 → v0.ownBlock ≠ some K → w.heap[K]? = some (.cells cur 5 (0, 0)) ∧ v.ownBlock ≠ some K

theorem FrV.start (n0 : Nat) (v0 : Value) (W : World) : FrV n0 v0 W W v0 := fun _ _ h _ hne => ⟨h, hne⟩

theorem lt_of_some {w : World} {K : Nat} {o : Obj} (h : w.heap[K]? = some o) : K < w.heap.size := by
  rcases Nat.lt_or_ge K w.heap.size with h' | h'
  · exact h'
  · rw [Array.getElem?_eq_none h'] at h
    exact absurd h (by simp)

theorem FrV.alloc {n0 : Nat} {v0 v : Value} {W w : World} (h : FrV n0 v0 W w v) (o : Obj) : FrV n0 v0 W (w.alloc o) v := by
  intro K cur hK hs hne
  obtain ⟨h1, h2⟩ := h K cur hK hs hne
  exact ⟨by rw [Below.heap_alloc w o K (lt_of_some h1)]; exact h1, h2⟩

theorem FrV.step {n0 N base : Nat} {v0 v v' : Value} {W w w2 : World} {ys : List Value} (h : FrV n0 v0 W w v) (hg : w.grownBy w2 v.ownBlock) (hown : w2.ownsRow base 5 1 v' N ys) (hN : n0 < N) : FrV n0 v0 W w2 v' := by
  intro K cur hK hs hne
  obtain ⟨h1, h2⟩ := h K cur hK hs hne
  have h3 : w2.heap[K]? = some (.cells cur 5 (0, 0)) := by rw [hg.block K (lt_of_some h1) (fun e => h2 e.symm)]; exact h1
  refine ⟨h3, ?_⟩
  intro e
  rcases hown.2 with ⟨rfl, _⟩ | ⟨g, cap, cur', rfl, _, hh, hle, _, hsz, _⟩
  · exact absurd e (by simp [Value.ownBlock])
  · simp [Value.ownBlock] at e
    subst e
    rw [hh] at h3
    simp only [Option.some.injEq, Obj.cells.injEq] at h3
    obtain ⟨rfl, _⟩ := h3
    omega

/-- Behind the appends of one byte, in the loop's words. -/
theorem es_push {w1 : World} {base n m k : Nat} {zs : List Int} {s also : ByteArray} {v : Value} {news : List Value}
    (h : w1.ownsRow base 5 1 v (n + (ES s also k).length + m) (ic (zs ++ ES s also k) ++ news)) (hn : news = ic (es1 also (bt s k))) (hm : m = (es1 also (bt s k)).length) :
    w1.ownsRow base 5 1 v (n + (ES s also (k + 1)).length) (ic (zs ++ ES s also (k + 1))) := by
  rw [ES_succ, List.length_append, ← hm, ← List.append_assoc, ic_append, ← hn, ← Nat.add_assoc]
  exact h

theorem cells_new (w : World) (vs : List Value) (T : TypeId) : ∀ j u, vs[j]? = some u → (w.alloc (.cells vs.toArray T)).cell? ((⟨w.heap.size, 0, none⟩ : Addr).add j) = some u := by
  intro j u hj
  rw [Addr.add_lit, Nat.zero_add, World.cell?_alloc_mark]
  simpa using hj

theorem es_92 {also : ByteArray} : es1 also 92 = [92, 92] := by unfold es1; rw [if_pos rfl]
theorem es_9 {also : ByteArray} : es1 also 9 = [92, 116] := by unfold es1; rw [if_neg (by decide), if_pos rfl]
theorem es_10 {also : ByteArray} : es1 also 10 = [92, 110] := by unfold es1; rw [if_neg (by decide), if_neg (by decide), if_pos rfl]
theorem es_13 {also : ByteArray} : es1 also 13 = [92, 114] := by unfold es1; rw [if_neg (by decide), if_neg (by decide), if_neg (by decide), if_pos rfl]
theorem es_also {also : ByteArray} {c : Int} (h1 : ¬ c = 92) (h2 : ¬ c = 9) (h3 : ¬ c = 10) (h4 : ¬ c = 13) (h : 0 ≤ IX also c) : es1 also c = [92, c] := by
  unfold es1; rw [if_neg h1, if_neg h2, if_neg h3, if_neg h4, if_pos h]
theorem es_plain {also : ByteArray} {c : Int} (h1 : ¬ c = 92) (h2 : ¬ c = 9) (h3 : ¬ c = 10) (h4 : ¬ c = 13) (h : ¬ 0 ≤ IX also c) : es1 also c = [c] := by
  unfold es1; rw [if_neg h1, if_neg h2, if_neg h3, if_neg h4, if_neg h]

set_option maxHeartbeats 8000000 in
set_option maxRecDepth 100000 in
theorem appendEsc (ao : Option Addr) (n cap base : Nat) (zs : List Int) (s also : ByteArray) (w : World) (hs : s.size ≤ 262144) (hn : n ≤ 262144) (hbase : base ≤ w.heap.size)
    (hown0 : w.ownsRow base 5 1 (.slice ao n cap) n (ic zs)) :
    Calls Try.prog 7 #[.slice ao n cap, .string s, .string also] w fun e w' => ∃ v, e = .returned v ∧ w'.ownsRow base 5 1 v (n + (ES s also s.size).length) (ic (zs ++ ES s also s.size)) ∧ Below base w w' ∧ FrV n (.slice ao n cap) w w' v := by
  obtain ⟨i0, hi, hz0, hz1, hz2⟩ := info_parts info5
  have hb := get_bt s
  go_enter Try.func7, Try.ntmps7
  go_wp2
  go_loopw [0, 7] (fun b i wr => ∃ k : Nat, k ≤ s.size ∧ i = .int .i64 k ∧ wr.ownsRow base 5 1 b (n + (ES s also k).length) (ic (zs ++ ES s also k)) ∧ Below base w wr ∧ FrV n (.slice ao n cap) w wr b) (fun _ i _ => s.size - (intOf i).toNat)
  case atStart => exact ⟨0, Nat.zero_le _, rfl, by simpa [ES] using hown0, Below.refl _ _, FrV.start _ _ _⟩
  case round =>
    obtain ⟨k, hk, rfl, hown, hbel, hfr⟩ := hrel
    clear hown0
    have b0 := bt_nonneg s k
    have b1 := bt_le s k
    have hEl := ES_le s also k
    have hsz := hbel.size
    by_cases hlt : k < s.size
    · by_cases h92 : bt s k = 92
      · have q : (bt s k == 92) = true := by simpa using h92
        have HN : Hid (Lib.strCells ⟨#[92, 92]⟩ = ic (es1 also (bt s k)) ∧ 2 = (es1 also (bt s k)).length) := by rw [h92, es_92]; exact ⟨rfl, rfl⟩
        clear h92
        go_wp2_with (at_builtin; refine Lib.wpList_append_own_string wr rfl _ _ 22 9 rfl base 5 i0 Try.underlying22 Try.underlying9 hi hz0 hz1 hz2 _ _ _ rfl hown ⟨#[92, 92]⟩ rfl ?c1 ?c2 ?c3 ?_)
        case c1 => show n + (ES s also k).length + 2 ≤ maxLen; unfold maxLen; omega
        case c2 => show n + (ES s also k).length + 2 ≤ _; omega
        case c3 => omega
        intro v' w2 hown1 hgrow1 _
        have hfr2 := hfr.step hgrow1 hown1 (show n < n + (ES s also k).length + 2 by omega)
        have hown2 := es_push hown1 HN.out.1 HN.out.2
        have hbel2 : Below base w w2 := hbel.grown hgrow1 (by omega) (fun k h => (hown.lt k h).1)
        clear hown1 hgrow1 hown hbel hfr
        go_wp2
        go_roundw
        case rel => exact ⟨k + 1, by omega, by go_num, hown2, hbel2, hfr2⟩
        case measure => simp [intOf]; omega
      · have n92 : (bt s k == 92) = false := by simpa using h92
        by_cases h9 : bt s k = 9
        · have q : (bt s k == 9) = true := by simpa using h9
          have HN : Hid (Lib.strCells ⟨#[92, 116]⟩ = ic (es1 also (bt s k)) ∧ 2 = (es1 also (bt s k)).length) := by rw [h9, es_9]; exact ⟨rfl, rfl⟩
          clear h9
          go_wp2_with (at_builtin; refine Lib.wpList_append_own_string wr rfl _ _ 22 9 rfl base 5 i0 Try.underlying22 Try.underlying9 hi hz0 hz1 hz2 _ _ _ rfl hown ⟨#[92, 116]⟩ rfl ?c1 ?c2 ?c3 ?_)
          case c1 => show n + (ES s also k).length + 2 ≤ maxLen; unfold maxLen; omega
          case c2 => show n + (ES s also k).length + 2 ≤ _; omega
          case c3 => omega
          intro v' w2 hown1 hgrow1 _
          have hfr2 := hfr.step hgrow1 hown1 (show n < n + (ES s also k).length + 2 by omega)
          have hown2 := es_push hown1 HN.out.1 HN.out.2
          have hbel2 : Below base w w2 := hbel.grown hgrow1 (by omega) (fun k h => (hown.lt k h).1)
          clear hown1 hgrow1 hown hbel hfr
          go_wp2
          go_roundw
          case rel => exact ⟨k + 1, by omega, by go_num, hown2, hbel2, hfr2⟩
          case measure => simp [intOf]; omega
        · have n9 : (bt s k == 9) = false := by simpa using h9
          by_cases h10 : bt s k = 10
          · have q : (bt s k == 10) = true := by simpa using h10
            have HN : Hid (Lib.strCells ⟨#[92, 110]⟩ = ic (es1 also (bt s k)) ∧ 2 = (es1 also (bt s k)).length) := by rw [h10, es_10]; exact ⟨rfl, rfl⟩
            clear h10
            go_wp2_with (at_builtin; refine Lib.wpList_append_own_string wr rfl _ _ 22 9 rfl base 5 i0 Try.underlying22 Try.underlying9 hi hz0 hz1 hz2 _ _ _ rfl hown ⟨#[92, 110]⟩ rfl ?c1 ?c2 ?c3 ?_)
            case c1 => show n + (ES s also k).length + 2 ≤ maxLen; unfold maxLen; omega
            case c2 => show n + (ES s also k).length + 2 ≤ _; omega
            case c3 => omega
            intro v' w2 hown1 hgrow1 _
            have hfr2 := hfr.step hgrow1 hown1 (show n < n + (ES s also k).length + 2 by omega)
            have hown2 := es_push hown1 HN.out.1 HN.out.2
            have hbel2 : Below base w w2 := hbel.grown hgrow1 (by omega) (fun k h => (hown.lt k h).1)
            clear hown1 hgrow1 hown hbel hfr
            go_wp2
            go_roundw
            case rel => exact ⟨k + 1, by omega, by go_num, hown2, hbel2, hfr2⟩
            case measure => simp [intOf]; omega
          · have n10 : (bt s k == 10) = false := by simpa using h10
            by_cases h13 : bt s k = 13
            · have q : (bt s k == 13) = true := by simpa using h13
              have HN : Hid (Lib.strCells ⟨#[92, 114]⟩ = ic (es1 also (bt s k)) ∧ 2 = (es1 also (bt s k)).length) := by rw [h13, es_13]; exact ⟨rfl, rfl⟩
              clear h13
              go_wp2_with (at_builtin; refine Lib.wpList_append_own_string wr rfl _ _ 22 9 rfl base 5 i0 Try.underlying22 Try.underlying9 hi hz0 hz1 hz2 _ _ _ rfl hown ⟨#[92, 114]⟩ rfl ?c1 ?c2 ?c3 ?_)
              case c1 => show n + (ES s also k).length + 2 ≤ maxLen; unfold maxLen; omega
              case c2 => show n + (ES s also k).length + 2 ≤ _; omega
              case c3 => omega
              intro v' w2 hown1 hgrow1 _
              have hfr2 := hfr.step hgrow1 hown1 (show n < n + (ES s also k).length + 2 by omega)
              have hown2 := es_push hown1 HN.out.1 HN.out.2
              have hbel2 : Below base w w2 := hbel.grown hgrow1 (by omega) (fun k h => (hown.lt k h).1)
              clear hown1 hgrow1 hown hbel hfr
              go_wp2
              go_roundw
              case rel => exact ⟨k + 1, by omega, by go_num, hown2, hbel2, hfr2⟩
              case measure => simp [intOf]; omega
            · have n13 : (bt s k == 13) = false := by simpa using h13
              by_cases hx : 0 ≤ IX also (bt s k)
              · have HN : Hid ([Value.int .u8 92] ++ [.int .u8 (bt s k)] = ic (es1 also (bt s k)) ∧ 2 = (es1 also (bt s k)).length) := by rw [es_also h92 h9 h10 h13 hx]; exact ⟨rfl, rfl⟩
                clear h92 h9 h10 h13
                go_wp2_with fail
                refine (strings_indexByte also (bt s k) _).mono ?_
                rintro e w' ⟨rfl, rfl⟩
                go_wp2_with (at_builtin; refine wpList_append_own _ rfl (.tmp 23) (.tmp 24) 22 rfl base 5 i0 (.int .u8 0) 1 1 Try.underlying22 hi hz0 hz1 hz2 rfl (by decide) _ _ _ rfl (hown.alloc _) ⟨wr.heap.size, 0, none⟩ 1 1 [.int .u8 92] rfl rfl (cells_new wr [.int .u8 92] 5) (ints_oneCell .u8 [92]) ?d1 ?d2 ?d3 ?_)
                case d1 => unfold maxLen; omega
                case d2 => omega
                case d3 => simp; omega
                intro v1 w1 hown1 hgrow1 _
                have hfr1 := (hfr.alloc _).step hgrow1 hown1 (show n < n + (ES s also k).length + 1 by omega)
                have hbel1 : Below base w w1 := (hbel.alloc (by omega) _).grown hgrow1 (by simp; omega) (fun k h => (hown.lt k h).1)
                have hsz1 := hbel1.size
                clear hgrow1 hown hbel hfr
                go_wp2_with (at_builtin; refine wpList_append_own _ rfl (.tmp 26) (.tmp 28) 22 rfl base 5 i0 (.int .u8 0) 1 1 Try.underlying22 hi hz0 hz1 hz2 rfl (by decide) _ _ _ rfl (hown1.alloc _) ⟨w1.heap.size, 0, none⟩ 1 1 [.int .u8 (bt s k)] rfl rfl (cells_new w1 [.int .u8 (bt s k)] 5) (ints_oneCell .u8 [bt s k]) ?d1 ?d2 ?d3 ?_)
                case d1 => unfold maxLen; omega
                case d2 => omega
                case d3 => simp; omega
                intro v2 w2 hown2 hgrow2 _
                have hfr2 := (hfr1.alloc _).step hgrow2 hown2 (show n < n + (ES s also k).length + 1 + 1 by omega)
                have hbel2 : Below base w w2 := (hbel1.alloc (by omega) _).grown hgrow2 (by simp; omega) (fun k h => (hown1.lt k h).1)
                rw [Nat.add_assoc (n + _)] at hown2
                have hown3 := es_push hown2 HN.out.1 HN.out.2
                clear hown1 hgrow2 hown2 hbel1 hfr1
                go_wp2
                go_roundw
                case rel => exact ⟨k + 1, by omega, by go_num, hown3, hbel2, hfr2⟩
                case measure => simp [intOf]; omega
              · have HN : Hid ([Value.int .u8 (bt s k)] = ic (es1 also (bt s k)) ∧ 1 = (es1 also (bt s k)).length) := by rw [es_plain h92 h9 h10 h13 hx]; exact ⟨rfl, rfl⟩
                clear h92 h9 h10 h13
                go_wp2_with fail
                refine (strings_indexByte also (bt s k) _).mono ?_
                rintro e w' ⟨rfl, rfl⟩
                go_wp2_with (at_builtin; refine wpList_append_own _ rfl (.tmp 26) (.tmp 28) 22 rfl base 5 i0 (.int .u8 0) 1 1 Try.underlying22 hi hz0 hz1 hz2 rfl (by decide) _ _ _ rfl (hown.alloc _) ⟨wr.heap.size, 0, none⟩ 1 1 [.int .u8 (bt s k)] rfl rfl (cells_new wr [.int .u8 (bt s k)] 5) (ints_oneCell .u8 [bt s k]) ?d1 ?d2 ?d3 ?_)
                case d1 => unfold maxLen; omega
                case d2 => omega
                case d3 => simp; omega
                intro v1 w1 hown1 hgrow1 _
                have hfr1 := (hfr.alloc _).step hgrow1 hown1 (show n < n + (ES s also k).length + 1 by omega)
                have hbel1 : Below base w w1 := (hbel.alloc (by omega) _).grown hgrow1 (by simp; omega) (fun k h => (hown.lt k h).1)
                have hown3 := es_push hown1 HN.out.1 HN.out.2
                clear hgrow1 hown hbel hfr hown1
                go_wp2
                go_roundw
                case rel => exact ⟨k + 1, by omega, by go_num, hown3, hbel1, hfr1⟩
                case measure => simp [intOf]; omega
    · obtain rfl : k = s.size := by omega
      go_wp2
      go_ret
      exact ⟨_, rfl, hown, hbel, hfr⟩

end Go.Proofs.Qxb6604131a
