/- Seat b6603825a: zzUnescapeModel; the law against the model. -/
import Derived.Test.Qxb6603825aMod
import Derived.Test.Qxb6603825aLen
import Derived.BigQuiet
import Derived.Deep.QuietTactic
namespace Go.Proofs.Qxb6603825a
open Go.RowKit Go.PlainAid

/-- What holds at a round's head of the model: the first i bytes are read, acc is written. -/
structure UM (s : ByteArray) (i : Nat) (acc : List UInt8) : Prop where
  le : acc.length ≤ i
  top : i ≤ s.size
  eq : acc ++ un (s.data.toList.drop i) = un s.data.toList

theorem UM.start (s : ByteArray) : UM s 0 [] := ⟨Nat.le_refl _, Nat.zero_le _, by simp⟩

theorem UM.fin {s : ByteArray} {acc : List UInt8} (h : UM s s.size acc) : acc = un s.data.toList := by
  have := h.eq
  rw [List.drop_of_length_le (by rw [len_data]; exact Nat.le_refl _), un_nil, List.append_nil] at this
  exact this

theorem drop_ne {s : ByteArray} {i : Nat} (h : i < s.size) : s.data.toList.drop i ≠ [] := by
  intro e
  have := congrArg List.length e
  rw [List.length_drop, len_data] at this
  simp at this
  omega

theorem UM.step {s : ByteArray} {i : Nat} {acc : List UInt8} (h : UM s i acc) (hi : i < s.size) :
    UM s (i + stN (s.data.toList.drop i)) (acc ++ [(stV (s.data.toList.drop i)).toNat.toUInt8]) := by
  have hne := drop_ne hi
  have hle := stN_le _ hne
  have hp := stN_pos (s.data.toList.drop i)
  rw [List.length_drop, len_data] at hle
  have h1 := h.le
  refine ⟨by rw [List.length_append, List.length_singleton]; omega, by omega, ?_⟩
  rw [← h.eq, un_step _ hne, List.drop_drop, List.append_assoc]
  rfl

theorem at_drop (s : ByteArray) (i : Nat) : at_ (s.data.toList.drop i) 0 = bt s i := by
  rw [bt_at, at_, at_, List.getD_eq_getElem?_getD, List.getD_eq_getElem?_getD, List.getElem?_drop, Nat.add_zero]

theorem st_plain {s : ByteArray} {i : Nat} (h : ¬ bt s i = 92) : stN (s.data.toList.drop i) = 1 ∧ stV (s.data.toList.drop i) = bt s i := by
  have e : escN (s.data.toList.drop i) = 0 := by unfold escN; rw [if_pos (.inr (by rw [at_drop]; exact h))]
  unfold stN stV
  rw [if_pos e, if_pos e, at_drop]
  exact ⟨rfl, rfl⟩

theorem modelAny (s : ByteArray) (i : Nat) (hs : s.size ≤ 1048576) (w : World) :
    Calls Try.prog 10 #[.string (s.extract i s.size)] w fun e w' => ∃ (v : Int) (n : Nat), e = .returned (.tuple #[.int .u8 v, .int .i64 n]) ∧ Hid (v = escV (s.data.toList.drop i) ∧ n = escN (s.data.toList.drop i)) ∧ w = w' :=
  (escapeModel (s.extract i s.size) (by rw [← len_data, ext_data, List.length_drop, len_data]; omega) w).mono fun _ _ ⟨h1, h2⟩ => ⟨_, _, h1, ⟨by rw [ext_data], by rw [ext_data]⟩, h2⟩

/-- Behind the append of one byte. -/
theorem one_push {w1 : World} {base g cap : Nat} {acc : List UInt8} {v : Int} (h0 : 0 ≤ v) (h1 : v ≤ 255)
    (h : w1.ownsRow base 5 1 (.slice (some ⟨g, 0, none⟩) (acc.length + 1) cap) (acc.length + 1) (Lib.byteCells acc ++ [.int .u8 v])) :
    w1.ownsRow base 5 1 (.slice (some ⟨g, 0, none⟩) (acc ++ [v.toNat.toUInt8]).length cap) (acc ++ [v.toNat.toUInt8]).length (Lib.byteCells (acc ++ [v.toNat.toUInt8])) := by
  rw [push_cell acc v h0 h1] at h
  rw [List.length_append, List.length_singleton]
  exact h

theorem len_snoc (acc : List UInt8) (b : UInt8) : (acc ++ [b]).length = acc.length + 1 := by rw [List.length_append, List.length_singleton]

set_option maxHeartbeats 4000000 in
set_option maxRecDepth 100000 in
theorem unescapeModel (s : ByteArray) (hs : s.size ≤ 1048576) (w : World) :
    Calls Try.prog 15 #[.string s] w fun e w' => ∃ acc : List UInt8, e = .returned (.slice (some ⟨w.heap.size, 0, none⟩) acc.length s.size) ∧ Hid (acc = un s.data.toList) ∧
      w'.ownsRow w.heap.size 5 1 (.slice (some ⟨w.heap.size, 0, none⟩) acc.length s.size) acc.length (Lib.byteCells acc) ∧ Below w.heap.size w w' := by
  obtain ⟨i0, hi, hz0, hz1, hz2⟩ := info_parts info5
  have hb := get_bt s
  go_enter Try.func15, Try.ntmps15
  go_wp2_with (at_make; refine wpList_make_own _ rfl _ _ 28 rfl w.heap.size 5 i0 (.int .u8 0) 1 Try.underlying28 hi hz0 hz1 _ _ _ s.size rfl rfl rfl ?b2 ?b3 (Nat.le_refl _) ?_)
  case b2 => rw [hz2]; omega
  case b3 => unfold maxLen; omega
  intro w0 hown0 hgrow0
  go_wp2
  go_loopw [3, 4] (fun o i wr => ∃ (k : Nat) (acc : List UInt8), UM s k acc ∧ i = .int .i64 k ∧ o = .slice (some ⟨w.heap.size, 0, none⟩) acc.length s.size ∧
      wr.ownsRow w.heap.size 5 1 (.slice (some ⟨w.heap.size, 0, none⟩) acc.length s.size) acc.length (Lib.byteCells acc) ∧ Below w.heap.size w wr) (fun _ i _ => s.size - (intOf i).toNat)
  case atStart => exact ⟨0, [], UM.start s, rfl, rfl, hown0, (Below.refl _ _).grown hgrow0 (Nat.le_refl _) (fun k h => by cases h)⟩
  case round =>
    obtain ⟨k, acc, hu, rfl, rfl, hown, hbel⟩ := hrel
    clear hown0 hgrow0
    have hle := hu.le
    have htop := hu.top
    have hsz := hbel.size
    have b0 := bt_nonneg s k
    have b1 := bt_le s k
    by_cases hlt : k < s.size
    · have hu2 := hu.step hlt
      by_cases h92 : bt s k = 92
      · have q : (bt s k == 92) = true := by simpa using h92
        have HA : Hid (at_ (s.data.toList.drop k) 0 = 92) := by rw [at_drop]; exact h92
        have H92 : Hid (bt s k = 92) := h92
        clear h92
        go_wp2_with fail
        refine (modelAny s k hs _).mono ?_
        rintro e w' ⟨v, n, rfl, HE, rfl⟩
        by_cases hn : n = 0
        · subst hn
          have HS : Hid (stN (s.data.toList.drop k) = 1 ∧ stV (s.data.toList.drop k) = bt s k) := ⟨by unfold stN; rw [if_pos HE.out.2.symm], by unfold stV; rw [if_pos HE.out.2.symm]; exact at_drop s k⟩
          rw [HS.out.1, HS.out.2] at hu2
          go_wp2_with (at_builtin; refine wpList_append_fits _ rfl (.tmp 34) (.tmp 38) 28 rfl w.heap.size 5 i0 1 Try.underlying28 hi hz1 w.heap.size _ s.size _ rfl (hown.alloc _) ⟨wr.heap.size, 0, none⟩ 1 1 [.int .u8 (bt s k)] rfl rfl (cells_new wr [.int .u8 (bt s k)] 5) (one_cell (l := [bt s k])) (by omega) ?_)
          intro w1 hown1 hgrow1
          have hown2 := one_push b0 b1 hown1
          have hbel2 : Below w.heap.size w w1 := (hbel.alloc hsz _).grown hgrow1 (by simp; omega) (fun k hk => by cases hk; exact Nat.le_refl _)
          clear hown1 hgrow1 hown hbel
          go_wp2
          go_roundw
          case rel => exact ⟨k + 1, _, hu2, by go_num, by rw [len_snoc], hown2, hbel2⟩
          case measure => simp [intOf]; omega
        · have HS : Hid (stN (s.data.toList.drop k) = n ∧ stV (s.data.toList.drop k) = v) := ⟨by unfold stN; rw [← HE.out.2, if_neg hn], by unfold stV; rw [← HE.out.2, if_neg hn]; exact HE.out.1.symm⟩
          have hv := escV_bd (s.data.toList.drop k)
          rw [← HE.out.1] at hv
          obtain ⟨v0, v1⟩ := hv
          rw [HS.out.1, HS.out.2] at hu2
          have htop2 := hu2.top
          have hn1 : 1 ≤ n := by omega
          go_wp2_with (at_builtin; refine wpList_append_fits _ rfl (.tmp 27) (.tmp 29) 28 rfl w.heap.size 5 i0 1 Try.underlying28 hi hz1 w.heap.size _ s.size _ rfl (hown.alloc _) ⟨wr.heap.size, 0, none⟩ 1 1 [.int .u8 v] rfl rfl (cells_new wr [.int .u8 v] 5) (one_cell (l := [v])) (by omega) ?_)
          intro w1 hown1 hgrow1
          have hown2 := one_push v0 v1 hown1
          have hbel2 : Below w.heap.size w w1 := (hbel.alloc hsz _).grown hgrow1 (by simp; omega) (fun k hk => by cases hk; exact Nat.le_refl _)
          clear hown1 hgrow1 hown hbel
          go_wp2
          go_roundw
          case rel => exact ⟨k + n, _, hu2, by go_num, by rw [len_snoc], hown2, hbel2⟩
          case measure => simp [intOf]; omega
      · have q : (bt s k == 92) = false := by simpa using h92
        have HS : Hid (_ ∧ _) := st_plain h92
        rw [HS.out.1, HS.out.2] at hu2
        clear h92
        go_wp2_with (at_builtin; refine wpList_append_fits _ rfl (.tmp 34) (.tmp 38) 28 rfl w.heap.size 5 i0 1 Try.underlying28 hi hz1 w.heap.size _ s.size _ rfl (hown.alloc _) ⟨wr.heap.size, 0, none⟩ 1 1 [.int .u8 (bt s k)] rfl rfl (cells_new wr [.int .u8 (bt s k)] 5) (one_cell (l := [bt s k])) (by omega) ?_)
        intro w1 hown1 hgrow1
        have hown2 := one_push b0 b1 hown1
        have hbel2 : Below w.heap.size w w1 := (hbel.alloc hsz _).grown hgrow1 (by simp; omega) (fun k hk => by cases hk; exact Nat.le_refl _)
        clear hown1 hgrow1 hown hbel
        go_wp2
        go_roundw
        case rel => exact ⟨k + 1, _, hu2, by go_num, by rw [len_snoc], hown2, hbel2⟩
        case measure => simp [intOf]; omega
    · obtain rfl : k = s.size := by omega
      go_wp2
      go_ret
      exact ⟨acc, rfl, hu.fin, hown, hbel⟩

set_option maxHeartbeats 1000000 in
set_option maxRecDepth 100000 in
/-- The bound laid by program. -/
theorem zzBytes5_yes (s : ByteArray) (h : s.size ≤ 1048576) (w : World) :
    Calls Try.prog 13 #[.string s] w fun e w' => e = .returned (.bool true) ∧ w = w' := by
  go_enter Try.func13, Try.ntmps13
  go_wp2
  go_ret
  exact ⟨rfl, rfl⟩

set_option maxHeartbeats 1000000 in
set_option maxRecDepth 100000 in
theorem zzBytes5_no (s : ByteArray) (h : 1048576 < s.size) (hm : s.size ≤ maxLen) (w : World) :
    Calls Try.prog 13 #[.string s] w fun e w' => e = .returned (.bool false) ∧ w = w' := by
  unfold maxLen at hm
  go_enter Try.func13, Try.ntmps13
  go_wp2
  go_ret
  exact ⟨rfl, rfl⟩

/-- The cell that the check reads holds the string's byte. -/
theorem cell_bt {U : ByteArray} {acc : List UInt8} (h : acc = U.data.toList) {i : Nat} (hi : i < acc.length) : (Lib.byteCells acc)[i]? = some (.int .u8 (bt U i)) := by
  rw [bt_at, at_, ← h, List.getD_eq_getElem?_getD, Lib.byteCells, List.getElem?_map, List.getElem?_eq_getElem hi]
  rfl

set_option maxHeartbeats 2000000 in
set_option maxRecDepth 100000 in
theorem walkMat_small (s : ByteArray) (hs : s.size ≤ 1048576) (w : World) :
    Calls Try.prog 5 #[.string s] w fun e w' => e = .returned (.bool true) ∧ Below w.heap.size w w' := by
  go_enter Try.func5, Try.ntmps5
  go_wp2_with fail
  refine (zzBytes5_yes s hs _).mono ?_
  rintro e w1 ⟨rfl, rfl⟩
  go_wp2_with fail
  refine (zzUnescape s hs _).mono ?_
  rintro e w1 ⟨U, rfl, HU, hbel⟩
  go_wp2_with fail
  refine (unescapeModel s hs _).mono ?_
  rintro e w2 ⟨acc, rfl, HA, hown, hbel2⟩
  have heq : acc = U.data.toList := by rw [HA.out, HU.out]
  have hlen : U.size = acc.length := by rw [heq, len_data]
  have hl := (un_len _ s.data.toList (Nat.le_refl _)).1
  rw [← HU.out, len_data, len_data, hlen] at hl
  have hbel3 : Below w.heap.size w w2 := hbel.trans (hbel2.mono hbel.size)
  have HC : Hid (∀ i u, (Lib.byteCells acc)[i]? = some u → w2.cell? ⟨w1.heap.size, i, none⟩ = some u) := fun i u h => by
    have := hown.cells (g := w1.heap.size) rfl i u h
    rwa [Addr.add_lit, Nat.zero_add] at this
  have HE : Hid (acc = U.data.toList) := heq
  clear heq hown hbel hbel2
  have hb := get_bt U
  go_wp2
  go_loopw [5] (fun i wi => ∃ k : Nat, k ≤ acc.length ∧ i = .int .i64 k ∧ Below w.heap.size w wi ∧ Hid (∀ i u, (Lib.byteCells acc)[i]? = some u → wi.cell? ⟨w1.heap.size, i, none⟩ = some u)) (fun i _ => acc.length - (intOf i).toNat)
  case atStart => exact ⟨0, Nat.zero_le _, rfl, hbel3, HC⟩
  case round =>
    clear HC hbel3
    obtain ⟨k, hk, rfl, hbi, HC⟩ := hrel
    by_cases hlt : k < acc.length
    · have hc := HC.out _ _ (cell_bt HE.out hlt)
      have hi1 : (k : Int) < (acc.length : Int) := by omega
      have hi2 : k < U.size := by omega
      have hi3 : (k : Int) < (U.size : Int) := by omega
      go_wp2_with fail
      go_quiet (fail)
      go_wp2
      go_roundw
      case rel => exact ⟨k + 1, by omega, by go_num, hbi.trans ⟨rfl, rfl, rfl, Nat.le_refl _, fun _ _ => rfl⟩, HC⟩
      case measure => simp [intOf]; omega
    · obtain rfl : k = acc.length := by omega
      go_wp2
      go_ret
      exact ⟨rfl, hbi⟩

set_option maxHeartbeats 1000000 in
set_option maxRecDepth 100000 in
theorem walkMat_big (s : ByteArray) (h : 1048576 < s.size) (hm : s.size ≤ maxLen) (w : World) :
    Calls Try.prog 5 #[.string s] w fun e w' => e = .returned (.bool true) ∧ Below w.heap.size w w' := by
  go_enter Try.func5, Try.ntmps5
  go_wp2_with fail
  refine (zzBytes5_no s h hm _).mono ?_
  rintro e w1 ⟨rfl, rfl⟩
  go_wp2
  go_ret
  exact ⟨rfl, Below.refl _ _⟩

end Go.Proofs.Qxb6603825a
