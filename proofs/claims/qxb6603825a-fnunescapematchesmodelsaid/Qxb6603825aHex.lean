/- Seat b6603825a: zzHexDigit, zzEscape. -/
import Derived.Test.Qxb6603825aUn
namespace Go.Proofs.Qxb6603825a
open Go.RowKit Go.PlainAid

/-- The hexadecimal digit of d, in the chosen case. -/
def hd (up : Bool) (d : Int) : Int := if d < 10 then 48 + d else if up then 55 + d else 87 + d

theorem lowDig (d : Int) (h0 : 0 ≤ d) (h1 : d ≤ 15) (h : (d % 16).toNat < (⟨#[48, 49, 50, 51, 52, 53, 54, 55, 56, 57, 97, 98, 99, 100, 101, 102]⟩ : ByteArray).size) :
    (((⟨#[48, 49, 50, 51, 52, 53, 54, 55, 56, 57, 97, 98, 99, 100, 101, 102]⟩ : ByteArray)[(d % 16).toNat]'h).toNat : Int) = hd false d := by
  have key : ∀ n : Fin 16, bt ⟨#[48, 49, 50, 51, 52, 53, 54, 55, 56, 57, 97, 98, 99, 100, 101, 102]⟩ ((n.val : Int) % 16).toNat = hd false (n.val : Int) := by decide +kernel
  rw [get_bt]
  obtain ⟨n, rfl⟩ := Int.eq_ofNat_of_zero_le h0
  exact key ⟨n, by omega⟩
theorem upDig (d : Int) (h0 : 0 ≤ d) (h1 : d ≤ 15) (h : (d % 16).toNat < (⟨#[48, 49, 50, 51, 52, 53, 54, 55, 56, 57, 65, 66, 67, 68, 69, 70]⟩ : ByteArray).size) :
    (((⟨#[48, 49, 50, 51, 52, 53, 54, 55, 56, 57, 65, 66, 67, 68, 69, 70]⟩ : ByteArray)[(d % 16).toNat]'h).toNat : Int) = hd true d := by
  have key : ∀ n : Fin 16, bt ⟨#[48, 49, 50, 51, 52, 53, 54, 55, 56, 57, 65, 66, 67, 68, 69, 70]⟩ ((n.val : Int) % 16).toNat = hd true (n.val : Int) := by decide +kernel
  rw [get_bt]
  obtain ⟨n, rfl⟩ := Int.eq_ofNat_of_zero_le h0
  exact key ⟨n, by omega⟩

set_option maxHeartbeats 4000000 in
set_option maxRecDepth 100000 in
theorem hexDigit (d : Int) (up : Bool) (h0 : 0 ≤ d) (h1 : d ≤ 15) (w : World) :
    Calls Try.prog 12 #[.int .u8 d, .bool up] w fun e w' => e = .returned (.int .u8 (hd up d)) ∧ w = w' := by
  cases up
  · go_enter Try.func12, Try.ntmps12
    go_wp2
    go_ret
    exact ⟨congrArg (fun x => Ending.returned (.int .u8 x)) (lowDig d h0 h1 _), rfl⟩
  · go_enter Try.func12, Try.ntmps12
    go_wp2
    go_ret
    exact ⟨congrArg (fun x => Ending.returned (.int .u8 x)) (upDig d h0 h1 _), rfl⟩

/-! ### Plain: what zzEscape writes -/
def b8 (v : Int) : UInt8 := v.toNat.toUInt8
theorem b8_val (v : Int) (h0 : 0 ≤ v) (h1 : v ≤ 255) : ((b8 v).toNat : Int) = v := by
  obtain ⟨n, rfl⟩ := Int.eq_ofNat_of_zero_le h0
  unfold b8
  simp
  omega

/-- What is written of one byte. -/
def esc1 (ap up : Bool) (c : UInt8) : List UInt8 :=
  if ap = true ∧ ((c.toNat : Int) = 34 ∨ (c.toNat : Int) = 92) then [92, c]
  else if (c.toNat : Int) = 34 ∨ (c.toNat : Int) = 92 ∨ (c.toNat : Int) < 32 ∨ 127 ≤ (c.toNat : Int) then [92, 120, b8 (hd up ((c.toNat : Int) / 16)), b8 (hd up ((c.toNat : Int) % 16))]
  else [c]

theorem hd_facts (up : Bool) (d : Int) (h0 : 0 ≤ d) (h1 : d ≤ 15) : hexOk (hd up d) = true ∧ hexVal (hd up d) = d ∧ 0 ≤ hd up d ∧ hd up d ≤ 255 := by
  have key : ∀ (up : Bool) (n : Fin 16), hexOk (hd up (n.val : Int)) = true ∧ hexVal (hd up (n.val : Int)) = (n.val : Int) ∧ 0 ≤ hd up (n.val : Int) ∧ hd up (n.val : Int) ≤ 255 := by decide +kernel
  obtain ⟨n, rfl⟩ := Int.eq_ofNat_of_zero_le h0
  exact key up ⟨n, by omega⟩

theorem esc1_le (ap up : Bool) (c : UInt8) : (esc1 ap up c).length ≤ 4 := by
  unfold esc1
  split
  · simp
  · split
    · exact Nat.le_refl _
    · exact Nat.succ_le_succ (Nat.zero_le _)

/-- THE LAW OF ONE BYTE: what is written of c reads back as c, whatever follows. -/
theorem un_esc1 (ap up : Bool) (c : UInt8) (r : List UInt8) : un (esc1 ap up c ++ r) = c :: un r := by
  unfold esc1
  split
  · rename_i h
    have hn : ¬ ((92 :: c :: r).length < 2 ∨ at_ (92 :: c :: r) 0 ≠ 92) := by
      rintro (h | h)
      · simp at h
        omega
      · exact h rfl
    have h1 : at_ (92 :: c :: r) 1 = 34 ∨ at_ (92 :: c :: r) 1 = 92 := h.2
    have eN : escN (92 :: c :: r) = 2 := by unfold escN; rw [if_neg hn, if_pos h1]
    have eV : escV (92 :: c :: r) = (c.toNat : Int) := by unfold escV; rw [if_neg hn, if_pos h1]; rfl
    show un (92 :: c :: r) = c :: un r
    rw [un_step _ (by simp)]
    unfold stV stN
    rw [eN, eV, if_neg (by decide), if_neg (by decide)]
    simp
  · split
    · rename_i h0 h
      have hc : c.toNat < 256 := c.toNat_lt
      obtain ⟨k1, v1, p1, q1⟩ := hd_facts up ((c.toNat : Int) / 16) (by omega) (by omega)
      obtain ⟨k2, v2, p2, q2⟩ := hd_facts up ((c.toNat : Int) % 16) (by omega) (by omega)
      have a2 : at_ (92 :: 120 :: b8 (hd up ((c.toNat : Int) / 16)) :: b8 (hd up ((c.toNat : Int) % 16)) :: r) 2 = hd up ((c.toNat : Int) / 16) := b8_val _ p1 q1
      have a3 : at_ (92 :: 120 :: b8 (hd up ((c.toNat : Int) / 16)) :: b8 (hd up ((c.toNat : Int) % 16)) :: r) 3 = hd up ((c.toNat : Int) % 16) := b8_val _ p2 q2
      show un (92 :: 120 :: b8 (hd up ((c.toNat : Int) / 16)) :: b8 (hd up ((c.toNat : Int) % 16)) :: r) = c :: un r
      generalize hl : (92 :: 120 :: b8 (hd up ((c.toNat : Int) / 16)) :: b8 (hd up ((c.toNat : Int) % 16)) :: r) = l at a2 a3
      have hlen : 4 ≤ l.length := by rw [← hl]; simp
      have a0 : at_ l 0 = 92 := by rw [← hl]; rfl
      have a1 : at_ l 1 = 120 := by rw [← hl]; rfl
      have hn : ¬ (l.length < 2 ∨ at_ l 0 ≠ 92) := by
        rintro (h | h)
        · omega
        · exact h a0
      have hm : ¬ (at_ l 1 = 34 ∨ at_ l 1 = 92) := by omega
      have hx : at_ l 1 = 120 ∧ 4 ≤ l.length ∧ hexOk (at_ l 2) = true ∧ hexOk (at_ l 3) = true := ⟨a1, hlen, by rw [a2]; exact k1, by rw [a3]; exact k2⟩
      have eN : escN l = 4 := by unfold escN; rw [if_neg hn, if_neg hm, if_pos hx]
      have eV : escV l = (c.toNat : Int) := by
        unfold escV
        rw [if_neg hn, if_neg hm, if_pos hx, a2, a3, v1, v2]
        omega
      rw [un_step l (by rw [← hl]; simp)]
      unfold stV stN
      rw [eN, eV, if_neg (by decide), if_neg (by decide), ← hl]
      simp
    · rename_i h0 h
      exact un_plain (fun e => h (.inr (.inl (by rw [e]; rfl))))

/-- All that is written of the first k bytes of t. -/
def EA (t : ByteArray) (ap up : Bool) (k : Nat) : List UInt8 := (t.data.toList.take k).flatMap (esc1 ap up)

theorem un_all (ap up : Bool) (l : List UInt8) : un (l.flatMap (esc1 ap up)) = l := by
  induction l with
  | nil => rfl
  | cons c l ih => rw [List.flatMap_cons, un_esc1, ih]

theorem EA_end (t : ByteArray) (ap up : Bool) : un (EA t ap up t.size) = t.data.toList := by
  unfold EA
  rw [List.take_of_length_le (by rw [len_data]; omega), un_all]

theorem EA_step (t : ByteArray) (ap up : Bool) (k : Nat) (h : k < t.size) : EA t ap up (k + 1) = EA t ap up k ++ esc1 ap up t[k] := by
  unfold EA
  rw [List.take_succ_eq_append_getElem (by rw [len_data]; exact h), List.flatMap_append]
  simp [ByteArray.getElem_eq_getElem_data]

theorem EA_le (t : ByteArray) (ap up : Bool) (k : Nat) (h : k ≤ t.size) : (EA t ap up k).length ≤ 4 * k := by
  induction k with
  | zero => exact Nat.le_refl _
  | succ k ih =>
    rw [EA_step t ap up k (by omega), List.length_append]
    have := esc1_le ap up (t[k]'(by omega))
    have := ih (by omega)
    omega

/-! ### The cells of each way -/
theorem news_two {t : ByteArray} {up : Bool} {k : Nat} (h : k < t.size) (hx : bt t k = 34 ∨ bt t k = 92) : Lib.byteCells (esc1 true up t[k]) = [.int .u8 92, .int .u8 (bt t k)] := by
  rw [← get_bt t k h] at hx ⊢
  unfold esc1
  rw [if_pos ⟨rfl, hx⟩]
  rfl
theorem news_four {t : ByteArray} {ap up : Bool} {k : Nat} (h : k < t.size) (ha : ¬ (ap = true ∧ (bt t k = 34 ∨ bt t k = 92))) (hx : bt t k = 34 ∨ bt t k = 92 ∨ bt t k < 32 ∨ 127 ≤ bt t k) :
    Lib.byteCells (esc1 ap up t[k]) = [.int .u8 92, .int .u8 120, .int .u8 (hd up (bt t k / 16)), .int .u8 (hd up (bt t k % 16))] := by
  have hb0 := bt_nonneg t k
  have hb1 := bt_le t k
  obtain ⟨_, _, p1, q1⟩ := hd_facts up (bt t k / 16) (by omega) (by omega)
  obtain ⟨_, _, p2, q2⟩ := hd_facts up (bt t k % 16) (by omega) (by omega)
  have e1 := b8_val _ p1 q1
  have e2 := b8_val _ p2 q2
  rw [← get_bt t k h] at hx ha e1 e2 ⊢
  unfold esc1
  rw [if_neg ha, if_pos hx]
  show [Value.int .u8 92, Value.int .u8 120, Value.int .u8 _, Value.int .u8 _] = _
  rw [e1, e2]
theorem news_one {t : ByteArray} {ap up : Bool} {k : Nat} (h : k < t.size) (hx : ¬ (bt t k = 34 ∨ bt t k = 92 ∨ bt t k < 32 ∨ 127 ≤ bt t k)) : Lib.byteCells (esc1 ap up t[k]) = [.int .u8 (bt t k)] := by
  rw [← get_bt t k h] at hx ⊢
  unfold esc1
  rw [if_neg (fun x => hx (x.2.elim .inl (fun y => .inr (.inl y)))), if_neg hx]
  rfl

theorem cells_new (w : World) (vs : List Value) (T : TypeId) : ∀ j u, vs[j]? = some u → (w.alloc (.cells vs.toArray T)).cell? ((⟨w.heap.size, 0, none⟩ : Addr).add j) = some u := by
  intro j u hj
  rw [Addr.add_lit, Nat.zero_add, World.cell?_alloc_mark]
  simpa using hj

/-- Behind the append, in the loop's words. -/
theorem esc_push {w1 : World} {base g cap m k : Nat} {t : ByteArray} {ap up : Bool} {news : List Value} (hk : k < t.size)
    (h : w1.ownsRow base 5 1 (.slice (some ⟨g, 0, none⟩) ((EA t ap up k).length + m) cap) ((EA t ap up k).length + m) (Lib.byteCells (EA t ap up k) ++ news)) (hn : Lib.byteCells (esc1 ap up t[k]) = news) (hm : news.length = m) :
    (EA t ap up k).length + m = (EA t ap up (k + 1)).length ∧
    w1.ownsRow base 5 1 (.slice (some ⟨g, 0, none⟩) (EA t ap up (k + 1)).length cap) (EA t ap up (k + 1)).length (Lib.byteCells (EA t ap up (k + 1))) := by
  have e1 : (EA t ap up k).length + m = (EA t ap up (k + 1)).length := by rw [EA_step t ap up k hk, List.length_append, ← hm, ← hn, Lib.byteCells_length]
  refine ⟨e1, ?_⟩
  rw [← e1, EA_step t ap up k hk, Lib.byteCells_append, hn]
  exact h

theorem fits (t : ByteArray) (ap up : Bool) (k m : Nat) (hk : k < t.size) (news : List Value) (hn : Lib.byteCells (esc1 ap up t[k]) = news) (hm : news.length = m) : (EA t ap up k).length + m ≤ 4 * t.size := by
  have h := EA_le t ap up (k + 1) (by omega)
  rw [EA_step t ap up k hk, List.length_append] at h
  rw [← hn, Lib.byteCells_length] at hm
  omega

theorem one_cell {l : List Int} : ∀ u ∈ l.map (Value.int .u8), u.oneCell' = true := by
  intro u hu
  obtain ⟨_, _, rfl⟩ := List.mem_map.1 hu
  rfl

theorem info5 : (Try.prog.info? 5).map (fun i => (i.zero, i.size, i.bytes)) = some (some (.int .u8 0), 1, 1) := by kernel_rfl

set_option maxHeartbeats 8000000 in
set_option maxRecDepth 100000 in
theorem zzEscape (t : ByteArray) (ap up : Bool) (ht : t.size ≤ 262144) (w : World) :
    Calls Try.prog 17 #[.string t, .bool ap, .bool up] w fun e w' => e = .returned (.slice (some ⟨w.heap.size, 0, none⟩) (EA t ap up t.size).length (4 * t.size)) ∧
      w'.ownsRow w.heap.size 5 1 (.slice (some ⟨w.heap.size, 0, none⟩) (EA t ap up t.size).length (4 * t.size)) (EA t ap up t.size).length (Lib.byteCells (EA t ap up t.size)) ∧ Below w.heap.size w w' := by
  obtain ⟨i0, hi, hz0, hz1, hz2⟩ := info_parts info5
  have hb := get_bt t
  go_enter Try.func17, Try.ntmps17
  go_wp2_with (at_make; refine wpList_make_own _ rfl _ _ 28 rfl w.heap.size 5 i0 (.int .u8 0) 1 Try.underlying28 hi hz0 hz1 _ _ _ (4 * t.size) rfl rfl (by omega) ?b2 ?b3 (Nat.le_refl _) ?_)
  case b2 => rw [hz2]; omega
  case b3 => unfold maxLen; omega
  intro w0 hown0 hgrow0
  go_wp2
  go_loopw [7, 8] (fun o i wr => ∃ (k : Nat), k ≤ t.size ∧ i = .int .i64 k ∧ o = .slice (some ⟨w.heap.size, 0, none⟩) (EA t ap up k).length (4 * t.size) ∧
      wr.ownsRow w.heap.size 5 1 (.slice (some ⟨w.heap.size, 0, none⟩) (EA t ap up k).length (4 * t.size)) (EA t ap up k).length (Lib.byteCells (EA t ap up k)) ∧ Below w.heap.size w wr) (fun _ i _ => t.size - (intOf i).toNat)
  case atStart => exact ⟨0, Nat.zero_le _, rfl, rfl, hown0, (Below.refl _ _).grown hgrow0 (Nat.le_refl _) (fun k h => by cases h)⟩
  case round =>
    obtain ⟨k, hk, rfl, rfl, hown, hbel⟩ := hrel
    clear hown0 hgrow0
    have b0 := bt_nonneg t k
    have b1 := bt_le t k
    by_cases hlt : k < t.size
    · have hsz := hbel.size
      by_cases h34 : bt t k = 34
      · have q1 : (bt t k == 34) = true := by simpa using h34
        have q2 : (bt t k == 92) = false := by rw [h34]; rfl
        cases ap
        · have HN : Hid (_ = _) := news_four (ap := false) (up := up) hlt (fun x => absurd x.1 (by decide)) (.inl h34)
          clear h34
          have HF := fits t false up k 4 hlt _ HN.out rfl
          go_wp2_with fail
          refine (hexDigit (bt t k / 16) _ (by omega) (by omega) _).mono ?_
          rintro e w' ⟨rfl, rfl⟩
          go_wp2_with fail
          refine (hexDigit (bt t k % 16) _ (by omega) (by omega) _).mono ?_
          rintro e w' ⟨rfl, rfl⟩
          go_wp2_with (at_builtin; refine wpList_append_fits _ rfl (.tmp 50) (.tmp 59) 28 rfl w.heap.size 5 i0 1 Try.underlying28 hi hz1 w.heap.size _ (4 * t.size) _ rfl (hown.alloc _) ⟨wr.heap.size, 0, none⟩ 4 4 [.int .u8 92, .int .u8 120, .int .u8 (hd up (bt t k / 16)), .int .u8 (hd up (bt t k % 16))] rfl rfl (cells_new wr [.int .u8 92, .int .u8 120, .int .u8 (hd up (bt t k / 16)), .int .u8 (hd up (bt t k % 16))] 5) (one_cell (l := [92, 120, hd up (bt t k / 16), hd up (bt t k % 16)])) HF ?_)
          intro w1 hown1 hgrow1
          obtain ⟨hl, hown2⟩ := esc_push hlt hown1 HN.out rfl
          have hbel2 : Below w.heap.size w w1 := (hbel.alloc hsz _).grown hgrow1 (by simp; omega) (fun k hk => by cases hk; exact Nat.le_refl _)
          have HL : Hid (_ = _) := hl
          clear hl hown1 hgrow1 hown hbel
          go_wp2
          go_roundw
          case rel => exact ⟨k + 1, by omega, by go_num, by rw [← HL.out], hown2, hbel2⟩
          case measure => simp [intOf]; omega
        · have HN : Hid (_ = _) := news_two (up := up) hlt (.inl h34)
          clear h34
          have HF := fits t true up k 2 hlt _ HN.out rfl
          go_wp2_with (at_builtin; refine wpList_append_fits _ rfl (.tmp 32) (.tmp 34) 28 rfl w.heap.size 5 i0 1 Try.underlying28 hi hz1 w.heap.size _ (4 * t.size) _ rfl (hown.alloc _) ⟨wr.heap.size, 0, none⟩ 2 2 [.int .u8 92, .int .u8 (bt t k)] rfl rfl (cells_new wr [.int .u8 92, .int .u8 (bt t k)] 5) (one_cell (l := [92, bt t k])) HF ?_)
          intro w1 hown1 hgrow1
          obtain ⟨hl, hown2⟩ := esc_push hlt hown1 HN.out rfl
          have hbel2 : Below w.heap.size w w1 := (hbel.alloc hsz _).grown hgrow1 (by simp; omega) (fun k hk => by cases hk; exact Nat.le_refl _)
          have HL : Hid (_ = _) := hl
          clear hl hown1 hgrow1 hown hbel
          go_wp2
          go_roundw
          case rel => exact ⟨k + 1, by omega, by go_num, by rw [← HL.out], hown2, hbel2⟩
          case measure => simp [intOf]; omega
      · by_cases h92 : bt t k = 92
        · have q1 : (bt t k == 34) = false := by simpa using h34
          have q2 : (bt t k == 92) = true := by simpa using h92
          clear h34
          cases ap
          · have HN : Hid (_ = _) := news_four (ap := false) (up := up) hlt (fun x => absurd x.1 (by decide)) (.inr (.inl h92))
            clear h92
            have HF := fits t false up k 4 hlt _ HN.out rfl
            go_wp2_with fail
            refine (hexDigit (bt t k / 16) _ (by omega) (by omega) _).mono ?_
            rintro e w' ⟨rfl, rfl⟩
            go_wp2_with fail
            refine (hexDigit (bt t k % 16) _ (by omega) (by omega) _).mono ?_
            rintro e w' ⟨rfl, rfl⟩
            go_wp2_with (at_builtin; refine wpList_append_fits _ rfl (.tmp 50) (.tmp 59) 28 rfl w.heap.size 5 i0 1 Try.underlying28 hi hz1 w.heap.size _ (4 * t.size) _ rfl (hown.alloc _) ⟨wr.heap.size, 0, none⟩ 4 4 [.int .u8 92, .int .u8 120, .int .u8 (hd up (bt t k / 16)), .int .u8 (hd up (bt t k % 16))] rfl rfl (cells_new wr [.int .u8 92, .int .u8 120, .int .u8 (hd up (bt t k / 16)), .int .u8 (hd up (bt t k % 16))] 5) (one_cell (l := [92, 120, hd up (bt t k / 16), hd up (bt t k % 16)])) HF ?_)
            intro w1 hown1 hgrow1
            obtain ⟨hl, hown2⟩ := esc_push hlt hown1 HN.out rfl
            have hbel2 : Below w.heap.size w w1 := (hbel.alloc hsz _).grown hgrow1 (by simp; omega) (fun k hk => by cases hk; exact Nat.le_refl _)
            have HL : Hid (_ = _) := hl
            clear hl hown1 hgrow1 hown hbel
            go_wp2
            go_roundw
            case rel => exact ⟨k + 1, by omega, by go_num, by rw [← HL.out], hown2, hbel2⟩
            case measure => simp [intOf]; omega
          · have HN : Hid (_ = _) := news_two (up := up) hlt (.inr h92)
            clear h92
            have HF := fits t true up k 2 hlt _ HN.out rfl
            go_wp2_with (at_builtin; refine wpList_append_fits _ rfl (.tmp 32) (.tmp 34) 28 rfl w.heap.size 5 i0 1 Try.underlying28 hi hz1 w.heap.size _ (4 * t.size) _ rfl (hown.alloc _) ⟨wr.heap.size, 0, none⟩ 2 2 [.int .u8 92, .int .u8 (bt t k)] rfl rfl (cells_new wr [.int .u8 92, .int .u8 (bt t k)] 5) (one_cell (l := [92, bt t k])) HF ?_)
            intro w1 hown1 hgrow1
            obtain ⟨hl, hown2⟩ := esc_push hlt hown1 HN.out rfl
            have hbel2 : Below w.heap.size w w1 := (hbel.alloc hsz _).grown hgrow1 (by simp; omega) (fun k hk => by cases hk; exact Nat.le_refl _)
            have HL : Hid (_ = _) := hl
            clear hl hown1 hgrow1 hown hbel
            go_wp2
            go_roundw
            case rel => exact ⟨k + 1, by omega, by go_num, by rw [← HL.out], hown2, hbel2⟩
            case measure => simp [intOf]; omega
        · have q1 : (bt t k == 34) = false := by simpa using h34
          have q2 : (bt t k == 92) = false := by simpa using h92
          by_cases hlow : bt t k < 32
          · have HN : Hid (_ = _) := news_four (ap := ap) (up := up) hlt (fun x => x.2.elim h34 h92) (.inr (.inr (.inl hlow)))
            cases ap
            · have HF := fits t false up k 4 hlt _ HN.out rfl
              go_wp2_with fail
              refine (hexDigit (bt t k / 16) _ (by omega) (by omega) _).mono ?_
              rintro e w' ⟨rfl, rfl⟩
              go_wp2_with fail
              refine (hexDigit (bt t k % 16) _ (by omega) (by omega) _).mono ?_
              rintro e w' ⟨rfl, rfl⟩
              go_wp2_with (at_builtin; refine wpList_append_fits _ rfl (.tmp 50) (.tmp 59) 28 rfl w.heap.size 5 i0 1 Try.underlying28 hi hz1 w.heap.size _ (4 * t.size) _ rfl (hown.alloc _) ⟨wr.heap.size, 0, none⟩ 4 4 [.int .u8 92, .int .u8 120, .int .u8 (hd up (bt t k / 16)), .int .u8 (hd up (bt t k % 16))] rfl rfl (cells_new wr [.int .u8 92, .int .u8 120, .int .u8 (hd up (bt t k / 16)), .int .u8 (hd up (bt t k % 16))] 5) (one_cell (l := [92, 120, hd up (bt t k / 16), hd up (bt t k % 16)])) HF ?_)
              intro w1 hown1 hgrow1
              obtain ⟨hl, hown2⟩ := esc_push hlt hown1 HN.out rfl
              have hbel2 : Below w.heap.size w w1 := (hbel.alloc hsz _).grown hgrow1 (by simp; omega) (fun k hk => by cases hk; exact Nat.le_refl _)
              have HL : Hid (_ = _) := hl
              clear hl hown1 hgrow1 hown hbel
              go_wp2
              go_roundw
              case rel => exact ⟨k + 1, by omega, by go_num, by rw [← HL.out], hown2, hbel2⟩
              case measure => simp [intOf]; omega
            · have HF := fits t true up k 4 hlt _ HN.out rfl
              go_wp2_with fail
              refine (hexDigit (bt t k / 16) _ (by omega) (by omega) _).mono ?_
              rintro e w' ⟨rfl, rfl⟩
              go_wp2_with fail
              refine (hexDigit (bt t k % 16) _ (by omega) (by omega) _).mono ?_
              rintro e w' ⟨rfl, rfl⟩
              go_wp2_with (at_builtin; refine wpList_append_fits _ rfl (.tmp 50) (.tmp 59) 28 rfl w.heap.size 5 i0 1 Try.underlying28 hi hz1 w.heap.size _ (4 * t.size) _ rfl (hown.alloc _) ⟨wr.heap.size, 0, none⟩ 4 4 [.int .u8 92, .int .u8 120, .int .u8 (hd up (bt t k / 16)), .int .u8 (hd up (bt t k % 16))] rfl rfl (cells_new wr [.int .u8 92, .int .u8 120, .int .u8 (hd up (bt t k / 16)), .int .u8 (hd up (bt t k % 16))] 5) (one_cell (l := [92, 120, hd up (bt t k / 16), hd up (bt t k % 16)])) HF ?_)
              intro w1 hown1 hgrow1
              obtain ⟨hl, hown2⟩ := esc_push hlt hown1 HN.out rfl
              have hbel2 : Below w.heap.size w w1 := (hbel.alloc hsz _).grown hgrow1 (by simp; omega) (fun k hk => by cases hk; exact Nat.le_refl _)
              have HL : Hid (_ = _) := hl
              clear hl hown1 hgrow1 hown hbel
              go_wp2
              go_roundw
              case rel => exact ⟨k + 1, by omega, by go_num, by rw [← HL.out], hown2, hbel2⟩
              case measure => simp [intOf]; omega
          · by_cases hhigh : 127 ≤ bt t k
            · have HN : Hid (_ = _) := news_four (ap := ap) (up := up) hlt (fun x => x.2.elim h34 h92) (.inr (.inr (.inr hhigh)))
              cases ap
              · have HF := fits t false up k 4 hlt _ HN.out rfl
                go_wp2_with fail
                refine (hexDigit (bt t k / 16) _ (by omega) (by omega) _).mono ?_
                rintro e w' ⟨rfl, rfl⟩
                go_wp2_with fail
                refine (hexDigit (bt t k % 16) _ (by omega) (by omega) _).mono ?_
                rintro e w' ⟨rfl, rfl⟩
                go_wp2_with (at_builtin; refine wpList_append_fits _ rfl (.tmp 50) (.tmp 59) 28 rfl w.heap.size 5 i0 1 Try.underlying28 hi hz1 w.heap.size _ (4 * t.size) _ rfl (hown.alloc _) ⟨wr.heap.size, 0, none⟩ 4 4 [.int .u8 92, .int .u8 120, .int .u8 (hd up (bt t k / 16)), .int .u8 (hd up (bt t k % 16))] rfl rfl (cells_new wr [.int .u8 92, .int .u8 120, .int .u8 (hd up (bt t k / 16)), .int .u8 (hd up (bt t k % 16))] 5) (one_cell (l := [92, 120, hd up (bt t k / 16), hd up (bt t k % 16)])) HF ?_)
                intro w1 hown1 hgrow1
                obtain ⟨hl, hown2⟩ := esc_push hlt hown1 HN.out rfl
                have hbel2 : Below w.heap.size w w1 := (hbel.alloc hsz _).grown hgrow1 (by simp; omega) (fun k hk => by cases hk; exact Nat.le_refl _)
                have HL : Hid (_ = _) := hl
                clear hl hown1 hgrow1 hown hbel
                go_wp2
                go_roundw
                case rel => exact ⟨k + 1, by omega, by go_num, by rw [← HL.out], hown2, hbel2⟩
                case measure => simp [intOf]; omega
              · have HF := fits t true up k 4 hlt _ HN.out rfl
                go_wp2_with fail
                refine (hexDigit (bt t k / 16) _ (by omega) (by omega) _).mono ?_
                rintro e w' ⟨rfl, rfl⟩
                go_wp2_with fail
                refine (hexDigit (bt t k % 16) _ (by omega) (by omega) _).mono ?_
                rintro e w' ⟨rfl, rfl⟩
                go_wp2_with (at_builtin; refine wpList_append_fits _ rfl (.tmp 50) (.tmp 59) 28 rfl w.heap.size 5 i0 1 Try.underlying28 hi hz1 w.heap.size _ (4 * t.size) _ rfl (hown.alloc _) ⟨wr.heap.size, 0, none⟩ 4 4 [.int .u8 92, .int .u8 120, .int .u8 (hd up (bt t k / 16)), .int .u8 (hd up (bt t k % 16))] rfl rfl (cells_new wr [.int .u8 92, .int .u8 120, .int .u8 (hd up (bt t k / 16)), .int .u8 (hd up (bt t k % 16))] 5) (one_cell (l := [92, 120, hd up (bt t k / 16), hd up (bt t k % 16)])) HF ?_)
                intro w1 hown1 hgrow1
                obtain ⟨hl, hown2⟩ := esc_push hlt hown1 HN.out rfl
                have hbel2 : Below w.heap.size w w1 := (hbel.alloc hsz _).grown hgrow1 (by simp; omega) (fun k hk => by cases hk; exact Nat.le_refl _)
                have HL : Hid (_ = _) := hl
                clear hl hown1 hgrow1 hown hbel
                go_wp2
                go_roundw
                case rel => exact ⟨k + 1, by omega, by go_num, by rw [← HL.out], hown2, hbel2⟩
                case measure => simp [intOf]; omega
            · have HN : Hid (_ = _) := news_one (ap := ap) (up := up) hlt (fun x => x.elim h34 (fun x => x.elim h92 (fun x => x.elim hlow hhigh)))
              cases ap
              · have HF := fits t false up k 1 hlt _ HN.out rfl
                go_wp2_with (at_builtin; refine wpList_append_fits _ rfl (.tmp 61) (.tmp 63) 28 rfl w.heap.size 5 i0 1 Try.underlying28 hi hz1 w.heap.size _ (4 * t.size) _ rfl (hown.alloc _) ⟨wr.heap.size, 0, none⟩ 1 1 [.int .u8 (bt t k)] rfl rfl (cells_new wr [.int .u8 (bt t k)] 5) (one_cell (l := [bt t k])) HF ?_)
                intro w1 hown1 hgrow1
                obtain ⟨hl, hown2⟩ := esc_push hlt hown1 HN.out rfl
                have hbel2 : Below w.heap.size w w1 := (hbel.alloc hsz _).grown hgrow1 (by simp; omega) (fun k hk => by cases hk; exact Nat.le_refl _)
                have HL : Hid (_ = _) := hl
                clear hl hown1 hgrow1 hown hbel
                go_wp2
                go_roundw
                case rel => exact ⟨k + 1, by omega, by go_num, by rw [← HL.out], hown2, hbel2⟩
                case measure => simp [intOf]; omega
              · have HF := fits t true up k 1 hlt _ HN.out rfl
                go_wp2_with (at_builtin; refine wpList_append_fits _ rfl (.tmp 61) (.tmp 63) 28 rfl w.heap.size 5 i0 1 Try.underlying28 hi hz1 w.heap.size _ (4 * t.size) _ rfl (hown.alloc _) ⟨wr.heap.size, 0, none⟩ 1 1 [.int .u8 (bt t k)] rfl rfl (cells_new wr [.int .u8 (bt t k)] 5) (one_cell (l := [bt t k])) HF ?_)
                intro w1 hown1 hgrow1
                obtain ⟨hl, hown2⟩ := esc_push hlt hown1 HN.out rfl
                have hbel2 : Below w.heap.size w w1 := (hbel.alloc hsz _).grown hgrow1 (by simp; omega) (fun k hk => by cases hk; exact Nat.le_refl _)
                have HL : Hid (_ = _) := hl
                clear hl hown1 hgrow1 hown hbel
                go_wp2
                go_roundw
                case rel => exact ⟨k + 1, by omega, by go_num, by rw [← HL.out], hown2, hbel2⟩
                case measure => simp [intOf]; omega
    · obtain rfl : k = t.size := by omega
      go_wp2
      go_ret
      exact ⟨rfl, hown, hbel⟩

end Go.Proofs.Qxb6603825a
