/- Seat b6604089a: the law on extra as a set. -/
import Derived.Test.Qxb6604089aHold
namespace Go.Proofs.Qxb6604089a
open Go.RowKit Go.PlainAid

/-! ### Plain facts -/
theorem data_cat (a b : ByteArray) : (a ++ b).data.toList = a.data.toList ++ b.data.toList := by
  simp [ByteArray.data_append]

theorem ok_cat (x y : List UInt8) (c : UInt8) : ok (x ++ y) c = (ok x c || ok y c) := by
  unfold ok
  rw [Bool.eq_iff_iff]
  simp only [Bool.or_eq_true, List.contains_iff_mem, List.mem_append]
  constructor
  · rintro (h | h | h)
    · exact .inl (.inl h)
    · exact .inl (.inr h)
    · exact .inr (.inr h)
  · rintro ((h | h) | (h | h))
    · exact .inl h
    · exact .inr (.inl h)
    · exact .inl h
    · exact .inr (.inr h)

theorem HO_congr {s x y : List UInt8} (h : ∀ c, ok x c = ok y c) : HO s x = HO s y := by
  unfold HO
  rw [show ok x = ok y from funext h]

theorem HO_mono {s x y : List UInt8} (h : ∀ c, ok x c = true → ok y c = true) (hs : HO s x = true) : HO s y = true := by
  unfold HO at hs ⊢
  rw [List.all_eq_true] at hs ⊢
  exact fun c hc => h c (hs c hc)

theorem HO_self {s x : List UInt8} (h : ∀ c ∈ s, c ∈ x) : HO s x = true := by
  unfold HO
  rw [List.all_eq_true]
  intro c hc
  unfold ok
  rw [Bool.or_eq_true, List.contains_iff_mem]
  exact .inr (h c hc)

/-- All letters and digits. -/
def AllA (l : List UInt8) : Prop := ∀ c ∈ l, alnum (c.toNat : Int) = true

theorem ok_all {l : List UInt8} (h : AllA l) (x : List UInt8) (c : UInt8) : ok (x ++ l) c = ok x c ∧ ok (l ++ x) c = ok x c := by
  have e : ok l c = true → ok x c = true := by
    intro hk
    unfold ok at hk ⊢
    rw [Bool.or_eq_true, List.contains_iff_mem] at hk ⊢
    rcases hk with hk | hk
    · exact .inl hk
    · exact .inl (h c hk)
  rw [ok_cat, ok_cat]
  cases hx : ok x c
  · cases hl : ok l c
    · exact ⟨rfl, rfl⟩
    · rw [hx] at e
      exact absurd (e hl) (by decide)
  · simp

/-- What the law asks of the answers. -/
structure Ans (s e1 e2 t2 : ByteArray) (U P Q : Bool) : Prop where
  u1 : HO s.data.toList (e1 ++ e2).data.toList = U
  u2 : HO s.data.toList (e2 ++ e1).data.toList = U
  p1 : HO s.data.toList e1.data.toList = P
  p2 : HO s.data.toList (e1 ++ e1).data.toList = P
  p3 : HO s.data.toList (e1 ++ t2).data.toList = P
  p4 : HO s.data.toList (t2 ++ e1).data.toList = P
  q1 : HO s.data.toList e2.data.toList = Q
  s1 : HO s.data.toList (e1 ++ s).data.toList = true
  s2 : HO s.data.toList (s ++ e1).data.toList = true
  pu : P = true → U = true
  qu : Q = true → U = true

theorem not_up {P : Bool} (h : P = true → false = true) : P = false := by
  cases P
  · rfl
  · exact absurd (h rfl) (by decide)

theorem ans (s e1 e2 t2 : ByteArray) (h : AllA t2.data.toList) : ∃ U P Q, Ans s e1 e2 t2 U P Q := by
  refine ⟨_, _, _, rfl, ?_, rfl, ?_, ?_, ?_, rfl, ?_, ?_, ?_, ?_⟩
  · rw [data_cat, data_cat]
    exact HO_congr (fun c => by rw [ok_cat, ok_cat, Bool.or_comm])
  · rw [data_cat]
    exact HO_congr (fun c => by rw [ok_cat, Bool.or_self])
  · rw [data_cat]
    exact HO_congr (fun c => (ok_all h _ c).1)
  · rw [data_cat]
    exact HO_congr (fun c => (ok_all h _ c).2)
  · rw [data_cat]
    exact HO_self (fun c hc => List.mem_append_right _ hc)
  · rw [data_cat]
    exact HO_self (fun c hc => List.mem_append_left _ hc)
  · intro hp
    rw [data_cat]
    exact HO_mono (fun c hc => by rw [ok_cat, hc]; rfl) hp
  · intro hp
    rw [data_cat]
    exact HO_mono (fun c hc => by rw [ok_cat, hc, Bool.or_true]) hp

/-- Bytes as cells. -/
def bc (l : List UInt8) : List Value := l.map fun b => Value.int .u8 b.toNat
theorem bc_append (a b : List UInt8) : bc (a ++ b) = bc a ++ bc b := List.map_append ..

/-- The letters and digits among the first k bytes. -/
def FA (t : ByteArray) (k : Nat) : List UInt8 := (t.data.toList.take k).filter (fun c => alnum (c.toNat : Int))

theorem FA_all (t : ByteArray) (k : Nat) : AllA (FA t k) := by
  intro c hc
  unfold FA at hc
  exact (List.mem_filter.1 hc).2
theorem FA_le (t : ByteArray) (k : Nat) : (FA t k).length ≤ k := by
  unfold FA
  have := List.length_filter_le (fun c : UInt8 => alnum (c.toNat : Int)) (t.data.toList.take k)
  have := List.length_take_le k t.data.toList
  omega
theorem FA_hit (t : ByteArray) (k : Nat) (h : k < t.size) (ha : alnum (bt t k) = true) : FA t (k + 1) = FA t k ++ [t.data.toList[k]'(by rw [len_data]; exact h)] := by
  rw [bt_byte t k h] at ha
  unfold FA
  rw [take_snoc t k h, List.filter_append, List.filter_cons, if_pos ha, List.filter_nil]
theorem FA_miss (t : ByteArray) (k : Nat) (h : k < t.size) (ha : alnum (bt t k) = false) : FA t (k + 1) = FA t k := by
  rw [bt_byte t k h] at ha
  unfold FA
  rw [take_snoc t k h, List.filter_append, List.filter_cons, if_neg (by rw [ha]; decide), List.filter_nil, List.append_nil]

/-- Behind the append, in the loop's words. -/
theorem fa_push {w1 : World} {base g cap k : Nat} {t : ByteArray} (hk : k < t.size) (ha : alnum (bt t k) = true)
    (h : w1.ownsRow base 5 1 (.slice (some ⟨g, 0, none⟩) ((FA t k).length + 1) cap) ((FA t k).length + 1) (bc (FA t k) ++ [.int .u8 (bt t k)])) :
    (FA t k).length + 1 = (FA t (k + 1)).length ∧ w1.ownsRow base 5 1 (.slice (some ⟨g, 0, none⟩) (FA t (k + 1)).length cap) (FA t (k + 1)).length (bc (FA t (k + 1))) := by
  have e : (FA t k).length + 1 = (FA t (k + 1)).length := by rw [FA_hit t k hk ha, List.length_append]; rfl
  refine ⟨e, ?_⟩
  rw [← e, FA_hit t k hk ha, bc_append]
  rw [bt_byte t k hk] at h
  exact h

theorem cells_new (w : World) (vs : List Value) (T : TypeId) : ∀ j u, vs[j]? = some u → (w.alloc (.cells vs.toArray T)).cell? ((⟨w.heap.size, 0, none⟩ : Addr).add j) = some u := by
  intro j u hj
  rw [Addr.add_lit, Nat.zero_add, World.cell?_alloc_mark]
  simpa using hj

/-! ### The walk -/
set_option maxHeartbeats 1000000 in
set_option maxRecDepth 100000 in
theorem zzBytes5_yes (a b c d : ByteArray) (h : a.size + b.size + c.size + d.size ≤ 1048576) (w : World) :
    Calls Try.prog 9 #[.string a, .string b, .string c, .string d] w fun e w' => e = .returned (.bool true) ∧ w = w' := by
  go_enter Try.func9, Try.ntmps9
  go_wp2
  go_ret
  exact ⟨rfl, rfl⟩

set_option maxHeartbeats 2000000 in
set_option maxRecDepth 100000 in
/-- Whatever it answers. -/
theorem zzBytes5_any (a b c d : ByteArray) (ha : a.size ≤ maxLen) (hb : b.size ≤ maxLen) (hc : c.size ≤ maxLen) (hd : d.size ≤ maxLen) (w : World) :
    Calls Try.prog 9 #[.string a, .string b, .string c, .string d] w fun e w' => ∃ r, e = .returned (.bool r) ∧ w = w' := by
  unfold maxLen at ha hb hc hd
  go_enter Try.func9, Try.ntmps9
  go_wp2
  all_goals
    go_ret
    exact ⟨_, rfl, rfl⟩

theorem info5 : (Try.prog.info? 5).map (fun i => (i.zero, i.size, i.bytes)) = some (some (.int .u8 0), 1, 1) := by kernel_rfl

set_option maxHeartbeats 8000000 in
set_option maxRecDepth 100000 in
theorem walkSet (s e1 e2 t : ByteArray) (hs : s.size ≤ 32768) (h1 : e1.size ≤ 32768) (h2 : e2.size ≤ 32768) (ht : t.size ≤ 32768) (w : World) :
    Calls Try.prog 5 #[.string s, .string e1, .string e2, .string t] w fun e w' => e = .returned (.bool true) ∧ Below w.heap.size w w' := by
  obtain ⟨i0, hi, hz0, hz1, hz2⟩ := info_parts info5
  have hb := get_bt t
  go_enter Try.func5, Try.ntmps5
  go_wp2_with fail
  refine (zzBytes5_yes s e1 e2 t (by omega) _).mono ?_
  rintro e w1 ⟨rfl, rfl⟩
  go_wp2_with (at_make; refine wpList_make_own _ rfl _ _ 26 rfl w.heap.size 5 i0 (.int .u8 0) 1 Try.underlying26 hi hz0 hz1 _ _ _ t.size rfl rfl rfl ?b2 ?b3 (Nat.le_refl _) ?_)
  case b2 => rw [hz2]; omega
  case b3 => unfold maxLen; omega
  intro w0 hown0 hgrow0
  go_wp2
  go_loopw [9, 10] (fun o i wr => ∃ k : Nat, k ≤ t.size ∧ i = .int .i64 k ∧ o = .slice (some ⟨w.heap.size, 0, none⟩) (FA t k).length t.size ∧
      wr.ownsRow w.heap.size 5 1 (.slice (some ⟨w.heap.size, 0, none⟩) (FA t k).length t.size) (FA t k).length (bc (FA t k)) ∧ Below w.heap.size w wr) (fun _ i _ => t.size - (intOf i).toNat)
  case atStart => exact ⟨0, Nat.zero_le _, rfl, rfl, hown0, (Below.refl _ _).grown hgrow0 (Nat.le_refl _) (fun k h => by cases h)⟩
  case round =>
    obtain ⟨k, hk, rfl, rfl, hown, hbel⟩ := hrel
    clear hown0 hgrow0
    have b0 := bt_nonneg t k
    have b1 := bt_le t k
    have hFl := FA_le t k
    have hsz := hbel.size
    by_cases hlt : k < t.size
    · by_cases ha : alnum (bt t k) = true
      · have HA : Hid (alnum (bt t k) = true) := ha
        rcases (show (97 ≤ bt t k ∧ bt t k ≤ 122) ∨ (65 ≤ bt t k ∧ bt t k ≤ 90) ∨ (48 ≤ bt t k ∧ bt t k ≤ 57) by unfold alnum at ha; simpa [or_assoc] using ha) with ⟨c1, c2⟩ | ⟨c1, c2⟩ | ⟨c1, c2⟩
        all_goals
          clear ha
          go_wp2_with (at_builtin; refine wpList_append_fits _ rfl (.tmp 67) (.tmp 69) 26 rfl w.heap.size 5 i0 1 Try.underlying26 hi hz1 w.heap.size _ t.size _ rfl (hown.alloc _) ⟨wr.heap.size, 0, none⟩ 1 1 [.int .u8 (bt t k)] rfl rfl (cells_new wr [.int .u8 (bt t k)] 5) (ints_oneCell .u8 [bt t k]) (by omega) ?_)
          intro w1 hown1 hgrow1
          obtain ⟨hl, hown2⟩ := fa_push hlt HA.out hown1
          have hbel2 : Below w.heap.size w w1 := (hbel.alloc hsz _).grown hgrow1 (by simp; omega) (fun k hk => by cases hk; exact Nat.le_refl _)
          have HL : Hid (_ = _) := hl
          clear hl hown1 hgrow1 hown hbel
          go_wp2
          go_roundw
          case rel => exact ⟨k + 1, by omega, by go_num, by rw [← HL.out], hown2, hbel2⟩
          case measure => simp [intOf]; omega
      · have ha' : alnum (bt t k) = false := by simpa using ha
        have hm := FA_miss t k hlt ha'
        rw [← hm] at hown
        have HM : Hid (FA t (k + 1) = FA t k) := hm
        have hq : (bt t k < 97 ∨ 122 < bt t k) ∧ (bt t k < 65 ∨ 90 < bt t k) ∧ (bt t k < 48 ∨ 57 < bt t k) := by unfold alnum at ha'; simp at ha'; omega
        obtain ⟨q1, q2, q3⟩ := hq
        clear ha ha' hm
        rcases (show bt t k < 48 ∨ (57 < bt t k ∧ bt t k < 65) ∨ (90 < bt t k ∧ bt t k < 97) ∨ 122 < bt t k by omega) with c1 | ⟨c1, c2⟩ | ⟨c1, c2⟩ | c1
        all_goals
          clear q1 q2 q3
          go_wp2
          go_roundw
          case rel => exact ⟨k + 1, by omega, by go_num, by rw [HM.out], hown, hbel⟩
          case measure => simp [intOf]; omega
    · obtain rfl : k = t.size := by omega
      have hcv := run_convert_bytes_back (P := Try.prog) wr 26 9 5 ⟨w.heap.size, 0, none⟩ t.size (FA t t.size) Try.underlying26 Try.underlying5 Try.underlying9 (fun j hj => by
        refine hown.cells (g := w.heap.size) rfl j _ ?_
        rw [bc, List.getElem?_map, List.getElem?_eq_getElem hj]
        rfl)
      obtain ⟨t2, ht2⟩ : ∃ t2 : ByteArray, t2 = ⟨(FA t t.size).toArray⟩ := ⟨_, rfl⟩
      have hz3 : t2.size ≤ 32768 := by rw [ht2]; show (FA t t.size).toArray.size ≤ _; simp; omega
      rw [← ht2] at hcv
      obtain ⟨U, P, Q, hA⟩ := ans s e1 e2 t2 (by rw [ht2]; show AllA (FA t t.size).toArray.toList; rw [List.toList_toArray]; exact FA_all _ _)
      have HA : Hid (Ans s e1 e2 t2 U P Q) := hA
      clear hA ht2 hown
      go_wp2_with fail
      refine (zzHold s (e1 ++ e2) (by omega) _).mono ?_
      rintro e w1 ⟨rfl, rfl⟩
      rw [HA.out.u1]
      clear hcv
      go_wp2_with fail
      refine (zzHold s (e2 ++ e1) (by omega) _).mono ?_
      rintro e w1 ⟨rfl, rfl⟩
      rw [HA.out.u2]
      go_wp2_with fail
      refine (zzHold s e1 (by omega) _).mono ?_
      rintro e w1 ⟨rfl, rfl⟩
      rw [HA.out.p1]
      go_wp2_with fail
      refine (zzHold s (e1 ++ e1) (by omega) _).mono ?_
      rintro e w1 ⟨rfl, rfl⟩
      rw [HA.out.p2]
      go_wp2_with fail
      refine (zzHold s (e1 ++ t2) (by omega) _).mono ?_
      rintro e w1 ⟨rfl, rfl⟩
      rw [HA.out.p3]
      go_wp2_with fail
      refine (zzHold s (t2 ++ e1) (by omega) _).mono ?_
      rintro e w1 ⟨rfl, rfl⟩
      rw [HA.out.p4]
      cases U
      · have eP : P = false := not_up HA.out.pu
        have eQ : Q = false := not_up HA.out.qu
        subst eP
        subst eQ
        go_wp2_with fail
        refine (zzHold s e2 (by omega) _).mono ?_
        rintro e w1 ⟨rfl, rfl⟩
        rw [HA.out.q1]
        go_wp2_with fail
        refine (zzHold s (e1 ++ s) (by omega) _).mono ?_
        rintro e w1 ⟨rfl, rfl⟩
        rw [HA.out.s1]
        go_wp2_with fail
        refine (zzHold s (s ++ e1) (by omega) _).mono ?_
        rintro e w1 ⟨rfl, rfl⟩
        rw [HA.out.s2]
        go_wp2
        go_ret
        exact ⟨rfl, hbel⟩
      · cases P
        all_goals
          go_wp2_with fail
          refine (zzHold s e2 (by omega) _).mono ?_
          rintro e w1 ⟨rfl, rfl⟩
          rw [HA.out.q1]
          cases Q
          all_goals
            go_wp2_with fail
            refine (zzHold s (e1 ++ s) (by omega) _).mono ?_
            rintro e w1 ⟨rfl, rfl⟩
            rw [HA.out.s1]
            go_wp2_with fail
            refine (zzHold s (s ++ e1) (by omega) _).mono ?_
            rintro e w1 ⟨rfl, rfl⟩
            rw [HA.out.s2]
            go_wp2
            go_ret
            exact ⟨rfl, hbel⟩

set_option maxHeartbeats 2000000 in
set_option maxRecDepth 100000 in
theorem walkSet_big (s e1 e2 t : ByteArray) (h : ¬ (s.size ≤ 32768 ∧ e1.size ≤ 32768 ∧ e2.size ≤ 32768 ∧ t.size ≤ 32768)) (hs : s.size ≤ maxLen) (h1 : e1.size ≤ maxLen) (h2 : e2.size ≤ maxLen) (ht : t.size ≤ maxLen) (w : World) :
    Calls Try.prog 5 #[.string s, .string e1, .string e2, .string t] w fun e w' => e = .returned (.bool true) ∧ Below w.heap.size w w' := by
  have hs' := hs
  have h1' := h1
  have h2' := h2
  have ht' := ht
  unfold maxLen at hs' h1' h2' ht'
  rcases (show 32768 < s.size ∨ (s.size ≤ 32768 ∧ 32768 < e1.size) ∨ (s.size ≤ 32768 ∧ e1.size ≤ 32768 ∧ 32768 < e2.size) ∨ (s.size ≤ 32768 ∧ e1.size ≤ 32768 ∧ e2.size ≤ 32768 ∧ 32768 < t.size) by omega) with g1 | ⟨g1, g2⟩ | ⟨g1, g2, g3⟩ | ⟨g1, g2, g3, g4⟩
  all_goals
    clear h
    go_enter Try.func5, Try.ntmps5
    go_wp2_with fail
    refine (zzBytes5_any s e1 e2 t hs h1 h2 ht _).mono ?_
    rintro e w1 ⟨r, rfl, rfl⟩
    cases r
    all_goals
      go_wp2
      go_ret
      exact ⟨rfl, Below.refl _ _⟩

end Go.Proofs.Qxb6604089a
