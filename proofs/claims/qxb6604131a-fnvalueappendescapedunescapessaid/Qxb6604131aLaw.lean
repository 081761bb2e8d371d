/- Seat b6604131a: the law. -/
import Derived.Test.Qxb6604131aTwo
namespace Go.Proofs.Qxb6604131a
open Go.RowKit Go.PlainAid

set_option maxHeartbeats 2000000 in
set_option maxRecDepth 100000 in
theorem zzBytes_yes (a : Option Addr) (n cap : Nat) (s x : ByteArray) (h : n + s.size + x.size ≤ 1048576) (w : World) :
    Calls Try.prog 4 #[.slice a n cap, .string s, .string x] w fun e w' => e = .returned (.bool true) ∧ w = w' := by
  go_enter Try.func4, Try.ntmps4
  go_wp2
  go_ret
  exact ⟨rfl, rfl⟩

set_option maxHeartbeats 2000000 in
set_option maxRecDepth 100000 in
/-- Whatever it answers. -/
theorem zzBytes_any (a : Option Addr) (n cap : Nat) (s x : ByteArray) (hn : n ≤ maxLen) (hs : s.size ≤ maxLen) (hx : x.size ≤ maxLen) (w : World) :
    Calls Try.prog 4 #[.slice a n cap, .string s, .string x] w fun e w' => ∃ r, e = .returned (.bool r) ∧ w = w' := by
  unfold maxLen at hn hs hx
  go_enter Try.func4, Try.ntmps4
  go_wp2
  all_goals
    go_ret
    exact ⟨_, rfl, rfl⟩

/-- The kept copy can still be read behind AppendEscaped. -/
theorem keep_RV {w2 w3 : World} {B n : Nat} {ao2 : Option Addr} {v1 v3 : Value} {zs : List Int} (hk : w2.ownsRow B 5 1 (.slice ao2 n n) n (ic zs)) (hv : ∀ k, v1.ownBlock = some k → k < B) (hf : FrV n v1 w2 w3 v3) : RV w3 ao2 n zs := by
  have hown : w3.ownsRow B 5 1 (.slice ao2 n n) n (ic zs) := by
    refine ⟨hk.1, hk.2.imp id ?_⟩
    rintro ⟨g, cap, cur, he, hg, hh, h1, h2, h3, h4⟩
    have hc : cap = n := by simp only [Value.slice.injEq] at he; exact he.2.2.symm
    exact ⟨g, cap, cur, he, hg, (hf g cur hh (by omega) (fun e => by have := hv g e; omega)).1, h1, h2, h3, h4⟩
  exact own_RV hown

/-- An owned value is a slice. -/
theorem own_shape {w : World} {base N : Nat} {v : Value} {xs : List Value} (h : w.ownsRow base 5 1 v N xs) : ∃ ao c, v = .slice ao N c ∧ N ≤ c ∧ (ao = none → N = 0 ∧ c = 0) ∧ c ≤ maxLen := by
  rcases h.2 with ⟨rfl, rfl⟩ | ⟨g, cap, cur, rfl, _, _, h1, h2, _⟩
  · exact ⟨none, 0, rfl, Nat.le_refl _, fun _ => ⟨rfl, rfl⟩, Nat.zero_le _⟩
  · exact ⟨some ⟨g, 0, none⟩, cap, rfl, h1, fun e => absurd e (by simp), h2⟩

/-- What lies behind the first n elements. -/
theorem RV_drop {w : World} {ao : Option Addr} {n m c : Nat} {zs es : List Int} (h : RV w ao (n + m) (zs ++ es)) (hz : zs.length = n) (hc : n + m ≤ c) : RV w (if c = n then ao else ao.map (·.add n)) m es := by
  have hl : es.length = m := by have := h.1; rw [List.length_append] at this; omega
  refine ⟨hl, ?_⟩
  by_cases hm : m = 0
  · exact .inl hm
  · rcases h.2 with h0 | ⟨g, off, rfl, hcell⟩
    · omega
    · right
      rw [if_neg (by omega)]
      refine ⟨g, off + n, by simp [Addr.add_lit], fun i hi => ?_⟩
      have := hcell (n + i) (by omega)
      rw [List.getD_eq_getElem?_getD, List.getElem?_append_right (by omega), hz, Nat.add_sub_cancel_left, ← List.getD_eq_getElem?_getD] at this
      rw [Nat.add_assoc]
      exact this

theorem pre_eq (zs es : List Int) (n : Nat) (hz : zs.length = n) : ∀ i, i < n → (zs ++ es).getD i 0 = zs.getD i 0 := by
  intro i hi
  rw [List.getD_eq_getElem?_getD, List.getElem?_append_left (by omega), ← List.getD_eq_getElem?_getD]

/-- pv1Unescape, its answer's length by a name, its cells told one by one. -/
theorem unescTo (a : Option Addr) (n cap : Nat) (zs r : List Int) (m : Nat) (w : World) (hn : n ≤ 1048576) (h : RV w a n zs) (hu0 : un2 zs = some r) (hm : r.length = m) :
    Calls Try.prog 9 #[.slice a n cap] w fun e w' => e = .returned (.tuple #[.slice (some ⟨w.heap.size, 0, none⟩) m n, .bool true]) ∧
      Hid (∀ j, j < m → w'.cell? ⟨w.heap.size, j, none⟩ = some (.int .u8 (r.getD j 0))) ∧ Below w.heap.size w w' := by
  subst hm
  refine (unesc a n cap zs r w hn h hu0).mono ?_
  rintro e w' ⟨rfl, hown, hbel⟩
  exact ⟨rfl, fun j hj => by rw [hown.cellAt j (by omega), ic_get hj], hbel⟩

set_option maxHeartbeats 4000000 in
set_option maxRecDepth 100000 in
theorem walkLaw (a : Option Addr) (n cap : Nat) (zs : List Int) (s also : ByteArray) (w : World) (hnil : a = none → n = 0) (hr : RV w a n zs) (hn : n ≤ 262144) (hs : s.size ≤ 262144) (hx : also.size ≤ 262144) :
    Calls Try.prog 3 #[.slice a n cap, .string s, .string also] w fun e w' => e = .returned (.bool true) ∧ Below w.heap.size w w' := by
  have hb := get_bt s
  have hzl := hr.1
  go_enter Try.func3, Try.ntmps3
  go_wp2_with fail
  refine (zzBytes_yes a n cap s also (by omega) _).mono ?_
  rintro e w1 ⟨rfl, rfl⟩
  go_wp2_with fail
  refine (hasByte also 116 (by omega) _).mono ?_
  rintro e w1 ⟨rfl, rfl⟩
  by_cases k1 : HB also 116 = true
  · go_wp2
    go_ret
    exact ⟨rfl, Below.refl _ _⟩
  · have k1' : HB also 116 = false := by simpa using k1
    clear k1
    go_wp2_with fail
    refine (hasByte also 110 (by omega) _).mono ?_
    rintro e w1 ⟨rfl, rfl⟩
    by_cases k2 : HB also 110 = true
    · go_wp2
      go_ret
      exact ⟨rfl, Below.refl _ _⟩
    · have k2' : HB also 110 = false := by simpa using k2
      clear k2
      go_wp2_with fail
      refine (hasByte also 114 (by omega) _).mono ?_
      rintro e w1 ⟨rfl, rfl⟩
      by_cases k3 : HB also 114 = true
      · go_wp2
        go_ret
        exact ⟨rfl, Below.refl _ _⟩
      · have k3' : HB also 114 = false := by simpa using k3
        clear k3
        have hun := un2_ES (s := s) k1' k2' k3' s.size
        go_wp2_with fail
        refine (clone a n cap zs _ (by omega) hnil hr).mono ?_
        rintro e w1 ⟨ao1, rfl, hown1, hbel1⟩
        have hnil1 : ao1 = none → n = 0 := by
          obtain ⟨ao', c', hv, _, h3, _⟩ := own_shape hown1
          simp only [Value.slice.injEq] at hv
          obtain ⟨rfl, _, rfl⟩ := hv
          exact fun e => (h3 e).1
        go_wp2_with fail
        refine (clone ao1 n n zs _ (by omega) hnil1 (own_RV hown1)).mono ?_
        rintro e w2 ⟨ao2, rfl, hown2, hbel2⟩
        have hown1' := own_below hown1 hbel2
        have hlt1 : ∀ k, (Value.slice ao1 n n).ownBlock = some k → k < w1.heap.size := fun k h => (hown1.lt k h).2
        have hsz1 := hbel1.size
        have hsz2 := hbel2.size
        have hbelA : Below w.heap.size w w2 := hbel1.trans (hbel2.mono hsz1)
        clear hown1 hbel1 hbel2 hnil1
        go_wp2_with fail
        refine (appendEsc ao1 n n w.heap.size zs s also _ hs hn (by omega) hown1').mono ?_
        rintro e w3 ⟨v3, rfl, hown3, hbel3, hfr⟩
        have hkeep := keep_RV hown2 hlt1 hfr
        obtain ⟨ao3, c3, rfl, hc3, hnil3, hm3⟩ := own_shape hown3
        have hrv3 := own_RV hown3
        have hEl := ES_le s also s.size
        have hbelB : Below w.heap.size w w3 := hbelA.trans hbel3
        obtain ⟨E, hE⟩ : ∃ E, (ES s also s.size).length = E := ⟨_, rfl⟩
        rw [hE] at hrv3 hEl hc3 hnil3
        rw [hE]
        obtain ⟨es, hes⟩ : ∃ es, ES s also s.size = es := ⟨_, rfl⟩
        rw [hes] at hrv3 hun hE
        have HE : Hid (es.length = E) := hE
        clear hE hes hfr hown3 hown2 hown1' hbelA hbel3
        unfold maxLen at hm3
        go_wp2_with fail
        refine (hasPre ao3 ao2 (n + E) c3 n n (zs ++ es) zs _ (by omega) (by omega) hrv3 hkeep (pre_eq zs es n hzl)).mono ?_
        rintro e w4 ⟨rfl, hbel4⟩
        have hrv4 := RV_drop (hrv3.below hbel4) hzl hc3
        have hbelC : Below w.heap.size w w4 := hbelB.trans (hbel4.mono hbelB.size)
        clear hbel4 hbelB hrv3 hkeep
        by_cases hcn : c3 = n
        · have hrv5 : RV w4 ao3 E es := by rw [if_pos hcn] at hrv4; exact hrv4
          clear hrv4
          go_wp2_with fail
          refine (unescTo _ _ _ es (BS s s.size) s.size _ (by omega) hrv5 hun (BS_len s s.size)).mono ?_
          rintro e w5 ⟨rfl, HC5', hbel5⟩
          have HC5 : Hid (∀ j, j < s.size → w5.cell? ⟨w4.heap.size, j, none⟩ = some (.int .u8 (bt s j))) := fun j hj => by rw [HC5'.out j hj, List.getD_eq_getElem?_getD, BS_get s s.size j hj]; rfl
          clear HC5'
          have hbelD : Below w.heap.size w w5 := hbelC.trans (hbel5.mono hbelC.size)
          clear hbel5 hbelC hrv5
          go_wp2
          go_loopw [11] (fun i wr => ∃ k : Nat, k ≤ s.size ∧ i = .int .i64 k ∧ Below w.heap.size w wr ∧ Hid (∀ j, j < s.size → wr.cell? ⟨w4.heap.size, j, none⟩ = some (.int .u8 (bt s j)))) (fun i _ => s.size - (intOf i).toNat)
          case atStart => exact ⟨0, Nat.zero_le _, rfl, hbelD, HC5⟩
          case round =>
            clear HC5 hbelD
            obtain ⟨k, hk, rfl, hbi, HC⟩ := hrel
            by_cases hlt : k < s.size
            · have hc := HC.out k hlt
              have hi3 : (k : Int) < (s.size : Int) := by omega
              go_wp2_with fail
              go_quiet (fail)
              go_wp2
              go_roundw
              case rel => exact ⟨k + 1, by omega, by go_num, hbi.trans ⟨rfl, rfl, rfl, Nat.le_refl _, fun _ _ => rfl⟩, HC⟩
              case measure => simp [intOf]; omega
            · obtain rfl : k = s.size := by omega
              go_wp2
              go_ret
              exact ⟨rfl, hbi⟩
        · have hrv5 : RV w4 (Option.map (fun x => x.add n) ao3) E es := by rw [if_neg hcn] at hrv4; exact hrv4
          clear hrv4
          go_wp2_with fail
          refine (unescTo _ _ _ es (BS s s.size) s.size _ (by omega) hrv5 hun (BS_len s s.size)).mono ?_
          rintro e w5 ⟨rfl, HC5', hbel5⟩
          have HC5 : Hid (∀ j, j < s.size → w5.cell? ⟨w4.heap.size, j, none⟩ = some (.int .u8 (bt s j))) := fun j hj => by rw [HC5'.out j hj, List.getD_eq_getElem?_getD, BS_get s s.size j hj]; rfl
          clear HC5'
          have hbelD : Below w.heap.size w w5 := hbelC.trans (hbel5.mono hbelC.size)
          clear hbel5 hbelC hrv5
          go_wp2
          go_loopw [11] (fun i wr => ∃ k : Nat, k ≤ s.size ∧ i = .int .i64 k ∧ Below w.heap.size w wr ∧ Hid (∀ j, j < s.size → wr.cell? ⟨w4.heap.size, j, none⟩ = some (.int .u8 (bt s j)))) (fun i _ => s.size - (intOf i).toNat)
          case atStart => exact ⟨0, Nat.zero_le _, rfl, hbelD, HC5⟩
          case round =>
            clear HC5 hbelD
            obtain ⟨k, hk, rfl, hbi, HC⟩ := hrel
            by_cases hlt : k < s.size
            · have hc := HC.out k hlt
              have hi3 : (k : Int) < (s.size : Int) := by omega
              go_wp2_with fail
              go_quiet (fail)
              go_wp2
              go_roundw
              case rel => exact ⟨k + 1, by omega, by go_num, hbi.trans ⟨rfl, rfl, rfl, Nat.le_refl _, fun _ _ => rfl⟩, HC⟩
              case measure => simp [intOf]; omega
            · obtain rfl : k = s.size := by omega
              go_wp2
              go_ret
              exact ⟨rfl, hbi⟩

set_option maxHeartbeats 2000000 in
set_option maxRecDepth 100000 in
theorem walkLaw_big (a : Option Addr) (n cap : Nat) (s also : ByteArray) (w : World) (h : ¬ (n ≤ 262144 ∧ s.size ≤ 262144 ∧ also.size ≤ 262144)) (hn : n ≤ maxLen) (hs : s.size ≤ maxLen) (hx : also.size ≤ maxLen) :
    Calls Try.prog 3 #[.slice a n cap, .string s, .string also] w fun e w' => e = .returned (.bool true) ∧ Below w.heap.size w w' := by
  have hn' := hn
  have hs' := hs
  have hx' := hx
  unfold maxLen at hn' hs' hx'
  rcases (show 262144 < n ∨ (n ≤ 262144 ∧ 262144 < s.size) ∨ (n ≤ 262144 ∧ s.size ≤ 262144 ∧ 262144 < also.size) by omega) with g1 | ⟨g1, g2⟩ | ⟨g1, g2, g3⟩
  all_goals
    clear h
    go_enter Try.func3, Try.ntmps3
    go_wp2_with fail
    refine (zzBytes_any a n cap s also hn hs hx _).mono ?_
    rintro e w1 ⟨r, rfl, rfl⟩
    cases r
    all_goals
      go_wp2
      go_ret
      exact ⟨rfl, Below.refl _ _⟩

/-- A slice that came in, as the given frame tells it, can be read. -/
theorem row_RV {w : World} {x : Addr} {len cap : Nat} {zs : List Int} (hl : len ≤ cap) (hz : zs.length = cap) (hc : ∀ i, i < zs.length → w.cell? (x.add i) = some (.int .u8 (zs.getD i 0))) : RV w (some x) len (zs.take len) := by
  refine ⟨by rw [List.length_take]; omega, ?_⟩
  by_cases h0 : len = 0
  · exact .inl h0
  · right
    obtain ⟨b, off, rfl, hcell⟩ := ints_at hc (by omega)
    refine ⟨b, off, rfl, fun i hi => ?_⟩
    rw [hcell i (by omega)]
    rw [List.getD_eq_getElem?_getD, List.getD_eq_getElem?_getD, List.getElem?_take, if_pos hi]

end Go.Proofs.Qxb6604131a
