/- Seat b6604089a: the law on the table. -/
import Derived.Test.Qxb6604089aHold
namespace Go.Proofs.Qxb6604089a
open Go.RowKit Go.PlainAid

set_option maxHeartbeats 1000000 in
set_option maxRecDepth 100000 in
theorem zzBytes3_yes (s x : ByteArray) (h : s.size + x.size ≤ 1048576) (w : World) :
    Calls Try.prog 6 #[.string s, .string x] w fun e w' => e = .returned (.bool true) ∧ w = w' := by
  go_enter Try.func6, Try.ntmps6
  go_wp2
  go_ret
  exact ⟨rfl, rfl⟩

set_option maxHeartbeats 1000000 in
set_option maxRecDepth 100000 in
/-- Whatever it answers. -/
theorem zzBytes3_any (s x : ByteArray) (hs : s.size ≤ maxLen) (hx : x.size ≤ maxLen) (w : World) :
    Calls Try.prog 6 #[.string s, .string x] w fun e w' => ∃ b, e = .returned (.bool b) ∧ w = w' := by
  unfold maxLen at hs hx
  by_cases h1 : s.size ≤ 1048576
  · by_cases h2 : x.size ≤ 1048576
    · by_cases h3 : s.size + x.size ≤ 1048576
      all_goals
        go_enter Try.func6, Try.ntmps6
        go_wp2
        go_ret
        exact ⟨_, rfl, rfl⟩
    · go_enter Try.func6, Try.ntmps6
      go_wp2
      go_ret
      exact ⟨_, rfl, rfl⟩
  · go_enter Try.func6, Try.ntmps6
    go_wp2
    go_ret
    exact ⟨_, rfl, rfl⟩

/-! ### The table -/
/-- The table as it is made: 256 times false. -/
def tab0 : Array Value := Array.replicate 256 (.bool false)
theorem zero23 : ∀ w : World, (zeroValue 23).run Try.prog w = .ok (.agg tab0) w := fun w => by kernel_rfl

/-- Block B holds 256 truth values, p's. -/
def Tab (B : Nat) (p : Nat → Bool) (w : World) : Prop := ∀ j, j < 256 → w.cell? ⟨B, j, none⟩ = some (.bool (p j)) ∧ w.frozen? ⟨B, j, none⟩ = false

theorem Tab.congr {B : Nat} {p q : Nat → Bool} {w : World} (h : Tab B p w) (e : ∀ j, j < 256 → p j = q j) : Tab B q w := by
  intro j hj
  rw [← e j hj]
  exact h j hj

theorem Tab.store {B : Nat} {p : Nat → Bool} {w : World} (h : Tab B p w) {i : Nat} (hi : i < 256) : Tab B (fun j => p j || j == i) (w.setCell ⟨B, i, none⟩ (.bool true)) := by
  intro j hj
  refine ⟨?_, by rw [World.frozen?_setCell]; exact (h j hj).2⟩
  by_cases e : j = i
  · subst e
    rw [World.cell?_setCell_same _ _ _ (h j hj).1]
    simp
  · rw [World.cell?_setCell_other _ _ _ _ (fun x => e (congrArg Addr.off x).symm), (h j hj).1]
    simp [e]

theorem Tab.start (w : World) : Tab w.heap.size (fun _ => false) (w.alloc (.cells tab0 23)) := by
  intro j hj
  refine ⟨?_, ?_⟩
  · rw [World.cell?_alloc_new]
    unfold tab0
    rw [Array.getElem?_replicate, if_pos hj]
  · have : (w.alloc (.cells tab0 23)).heap[w.heap.size]? = some (.cells tab0 23 (0, 0)) := heap_alloc_new w _
    unfold World.frozen?
    rw [this]
    simp

/-- The letters, the first k of them. -/
def TA (k : Nat) (j : Nat) : Bool := decide ((97 ≤ j ∧ j < 97 + k) ∨ (65 ≤ j ∧ j < 65 + k))
/-- .. and the digits, the first k of them. -/
def TB (k : Nat) (j : Nat) : Bool := TA 26 j || decide (48 ≤ j ∧ j < 48 + k)
/-- .. and the bytes of x, the first k of them. -/
def TC (x : ByteArray) (k : Nat) (j : Nat) : Bool := TB 10 j || (x.data.toList.take k).any (fun c => c.toNat == j)

theorem TA_step (k : Nat) (j : Nat) : ((TA k j || j == 97 + k) || j == 65 + k) = TA (k + 1) j := by
  unfold TA
  rw [Bool.eq_iff_iff]
  simp
  omega
theorem TB_step (k : Nat) (j : Nat) : (TB k j || j == 48 + k) = TB (k + 1) j := by
  unfold TB
  rw [Bool.or_assoc]
  congr 1
  rw [Bool.eq_iff_iff]
  simp
  omega
theorem TC_step (x : ByteArray) (k : Nat) (h : k < x.size) (n : Nat) (hn : bt x k = (n : Int)) (j : Nat) : (TC x k j || j == n) = TC x (k + 1) j := by
  unfold TC
  rw [take_snoc x k h, List.any_append, List.any_cons, List.any_nil, Bool.or_false, ← Bool.or_assoc]
  congr 1
  rw [bt_byte x k h] at hn
  rw [Bool.eq_iff_iff]
  simp only [beq_iff_eq]
  omega
theorem TC_ok (x s : ByteArray) (k : Nat) (h : k < s.size) (n : Nat) (hn : bt s k = (n : Int)) : TC x x.size n = (alnum (bt s k) || decide (0 ≤ IX x (bt s k))) := by
  rw [← ok_ix x s k h]
  rw [bt_byte s k h] at hn
  unfold TC TB TA ok alnum
  rw [List.take_of_length_le (by rw [len_data]; exact Nat.le_refl _), hn]
  have e1 : (x.data.toList.any fun c => c.toNat == n) = x.data.toList.contains (s.data.toList[k]'(by rw [len_data]; exact h)) := by
    rw [Bool.eq_iff_iff, List.any_eq_true, List.contains_iff_mem]
    constructor
    · rintro ⟨c, hc, e⟩
      rw [beq_iff_eq] at e
      have : c = s.data.toList[k]'(by rw [len_data]; exact h) := UInt8.toNat_inj.1 (by omega)
      rw [← this]; exact hc
    · intro hc
      exact ⟨_, hc, by rw [beq_iff_eq]; omega⟩
  rw [e1]
  congr 1
  rw [Bool.eq_iff_iff]
  simp
  omega

/-- The k-th byte as a natural number below 256. -/
theorem bt_nat (t : ByteArray) (k : Nat) : ∃ n : Nat, n < 256 ∧ bt t k = (n : Int) :=
  ⟨(bt t k).toNat, by have := bt_le t k; have := bt_nonneg t k; omega, by have := bt_nonneg t k; omega⟩

theorem Below.table {B : Nat} {w w' : World} (h : Below B w w') {j : Nat} : Below B w (w'.setCell ⟨B, j, none⟩ (.bool true)) := h.setCell (p := ⟨B, j, none⟩) (Nat.le_refl _) _

set_option maxHeartbeats 4000000 in
set_option maxRecDepth 100000 in
theorem walkTab (s x : ByteArray) (hs : s.size ≤ 524288) (hx : x.size ≤ 524288) (w : World) :
    Calls Try.prog 3 #[.string s, .string x] w fun e w' => e = .returned (.bool true) ∧ Below w.heap.size w w' := by
  have hz := zero23
  have hbs := get_bt s
  have hbx := get_bt x
  go_enter Try.func3, Try.ntmps3
  go_wp2_with fail
  refine (zzBytes3_yes s x (by omega) _).mono ?_
  rintro e w1 ⟨rfl, rfl⟩
  go_wp2_with fail
  clear hz
  go_loopw [6] (fun i wr => ∃ k : Nat, k ≤ 26 ∧ i = .int .i64 k ∧ Tab w.heap.size (TA k) wr ∧ Below w.heap.size w wr) (fun i _ => 26 - (intOf i).toNat)
  case atStart => exact ⟨0, Nat.zero_le _, rfl, (Tab.start w).congr (fun j _ => by unfold TA; symm; rw [decide_eq_false_iff_not]; omega), (Below.refl _ _).alloc (Nat.le_refl _) _⟩
  case round =>
    obtain ⟨k, hk, rfl, ht, hbel⟩ := hrel
    by_cases hlt : k < 26
    · obtain ⟨c1, f1⟩ := ht (97 + k) (by omega)
      obtain ⟨c2, f2⟩ := ht (65 + k) (by omega)
      go_wp2
      go_roundw
      case rel => exact ⟨k + 1, by omega, by go_num, ((ht.store (i := 97 + k) (by omega)).store (i := 65 + k) (by omega)).congr (fun j _ => TA_step k j), (Below.table (Below.table hbel))⟩
      case measure => simp [intOf]; omega
    · obtain rfl : k = 26 := by omega
      have ht2 : Tab w.heap.size (TB 0) wr := ht.congr (fun j _ => by unfold TB; rw [decide_eq_false (by omega), Bool.or_false])
      clear ht
      go_wp2
      go_loopw [7] (fun i wr => ∃ k : Nat, k ≤ 10 ∧ i = .int .i64 k ∧ Tab w.heap.size (TB k) wr ∧ Below w.heap.size w wr) (fun i _ => 10 - (intOf i).toNat)
      case atStart => exact ⟨0, Nat.zero_le _, rfl, ht2, hbel⟩
      case round =>
        clear ht2 hbel
        obtain ⟨k, hk, rfl, ht, hbel⟩ := hrel
        by_cases hlt : k < 10
        · obtain ⟨c1, f1⟩ := ht (48 + k) (by omega)
          go_wp2
          go_roundw
          case rel => exact ⟨k + 1, by omega, by go_num, (ht.store (i := 48 + k) (by omega)).congr (fun j _ => TB_step k j), Below.table hbel⟩
          case measure => simp [intOf]; omega
        · obtain rfl : k = 10 := by omega
          have ht2 : Tab w.heap.size (TC x 0) wr := ht.congr (fun j _ => by unfold TC; rw [List.take_zero, List.any_nil, Bool.or_false])
          clear ht
          go_wp2
          go_loopw [8] (fun i wr => ∃ k : Nat, k ≤ x.size ∧ i = .int .i64 k ∧ Tab w.heap.size (TC x k) wr ∧ Below w.heap.size w wr) (fun i _ => x.size - (intOf i).toNat)
          case atStart => exact ⟨0, Nat.zero_le _, rfl, ht2, hbel⟩
          case round =>
            clear ht2 hbel
            obtain ⟨k, hk, rfl, ht, hbel⟩ := hrel
            by_cases hlt : k < x.size
            · obtain ⟨n, hn, hv⟩ := bt_nat x k
              obtain ⟨c1, f1⟩ := ht n hn
              have HS : Hid (∀ j, (TC x k j || j == n) = TC x (k + 1) j) := TC_step x k hlt n hv
              have hn2 : (n : Int) < 256 := by omega
              go_wp2
              go_roundw
              case rel => exact ⟨k + 1, by omega, by go_num, (ht.store (i := n) hn).congr (fun j _ => HS.out j), Below.table hbel⟩
              case measure => simp [intOf]; omega
            · obtain rfl : k = x.size := by omega
              go_wp2
              go_loop [9, 10] (fun wt i => ∃ k : Nat, k ≤ s.size ∧ i = .int .i64 k ∧ wt = .bool true ∧ Good s x k) (fun _ i => s.size - (intOf i).toNat)
              case atStart => exact ⟨0, Nat.zero_le _, rfl, rfl, Good.start s x⟩
              case round =>
                obtain ⟨k, hk, rfl, rfl, hg⟩ := hrel
                by_cases hlt : k < s.size
                · obtain ⟨n, hn, hv⟩ := bt_nat s k
                  obtain ⟨c1, f1⟩ := ht n hn
                  have hok := TC_ok x s k hlt n hv
                  have hn2 : (n : Int) < 256 := by omega
                  by_cases hq : TC x x.size n = true
                  · have hg2 := hg.snoc hlt (by rw [← hok]; exact hq)
                    rw [hq] at c1
                    clear hok hq
                    go_wp2
                    go_round
                    case rel => exact ⟨k + 1, by omega, by go_num, rfl, hg2⟩
                    case measure => simp [intOf]; omega
                  · have hq' : TC x x.size n = false := by simpa using hq
                    have HB : Hid (HO s.data.toList x.data.toList = false) := bad hlt (by rw [← hok]; exact hq')
                    rw [hq'] at c1
                    clear hok hq hq'
                    go_wp2_with fail
                    refine (zzHold s x (by omega) _).mono ?_
                    rintro e w' ⟨rfl, rfl⟩
                    rw [HB.out]
                    go_wp2
                    go_ret
                    exact ⟨rfl, hbel⟩
                · obtain rfl : k = s.size := by omega
                  have HF : Hid (_ = _) := hg.fin
                  go_wp2_with fail
                  refine (zzHold s x (by omega) _).mono ?_
                  rintro e w' ⟨rfl, rfl⟩
                  rw [HF.out]
                  go_wp2
                  go_ret
                  exact ⟨rfl, hbel⟩

set_option maxHeartbeats 1000000 in
set_option maxRecDepth 100000 in
theorem walkTab_big (s x : ByteArray) (h : ¬ (s.size ≤ 524288 ∧ x.size ≤ 524288)) (hs : s.size ≤ maxLen) (hx : x.size ≤ maxLen) (w : World) :
    Calls Try.prog 3 #[.string s, .string x] w fun e w' => e = .returned (.bool true) ∧ Below w.heap.size w w' := by
  have hs' := hs
  have hx' := hx
  unfold maxLen at hs' hx'
  by_cases h1 : s.size ≤ 524288
  · have h2 : 524288 < x.size := by omega
    clear h
    go_enter Try.func3, Try.ntmps3
    go_wp2_with fail
    refine (zzBytes3_any s x hs hx _).mono ?_
    rintro e w1 ⟨b, rfl, rfl⟩
    cases b
    all_goals
      go_wp2
      go_ret
      exact ⟨rfl, Below.refl _ _⟩
  · clear h
    go_enter Try.func3, Try.ntmps3
    go_wp2_with fail
    refine (zzBytes3_any s x hs hx _).mono ?_
    rintro e w1 ⟨b, rfl, rfl⟩
    cases b
    all_goals
      go_wp2
      go_ret
      exact ⟨rfl, Below.refl _ _⟩

end Go.Proofs.Qxb6604089a
