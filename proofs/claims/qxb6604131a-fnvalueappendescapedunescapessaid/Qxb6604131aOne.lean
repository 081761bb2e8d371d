/- Seat b6604131a: strings.IndexByte, pv1HasByte, pv1CloneBytes. -/
import Derived.Test.Qxb6604131aRows
import Derived.Test.Qxb6604131aPlain
import Derived.WalkKit
import Derived.ProofKit
import Derived.OpenShut
import Derived.Handy
import Derived.Lib.SliceRun
import Derived.BigQuiet
import Derived.Deep.QuietTactic
namespace Go.Proofs.Qxb6604131a
open Go.RowKit Go.PlainAid

theorem info5 : (Try.prog.info? 5).map (fun i => (i.zero, i.size, i.bytes)) = some (some (.int .u8 0), 1, 1) := by kernel_rfl

/-- Numbers as cells. -/
def ic (zs : List Int) : List Value := zs.map (Value.int .u8)
theorem ic_length (zs : List Int) : (ic zs).length = zs.length := List.length_map ..
theorem ic_append (a b : List Int) : ic (a ++ b) = ic a ++ ic b := List.map_append ..
theorem ic_get {zs : List Int} {i : Nat} (h : i < zs.length) : (ic zs)[i]? = some (.int .u8 (zs.getD i 0)) := by
  unfold ic
  rw [List.getElem?_map, List.getElem?_eq_getElem h, getD_get h]
  rfl

/-- A SLICE THAT IS READ: n elements, the numbers zs. -/
def RV (w : World) (a : Option Addr) (n : Nat) (zs : List Int) : Prop :=
  zs.length = n ∧ (n = 0 ∨ ∃ g off, a = some ⟨g, off, none⟩ ∧ ∀ i, i < n → w.cell? ⟨g, off + i, none⟩ = some (.int .u8 (zs.getD i 0)))

theorem RV.below {w w' : World} {a : Option Addr} {n : Nat} {zs : List Int} (h : RV w a n zs) (hb : Below w.heap.size w w') : RV w' a n zs := by
  refine ⟨h.1, h.2.imp id ?_⟩
  rintro ⟨g, off, rfl, hc⟩
  refine ⟨g, off, rfl, fun i hi => ?_⟩
  have := hc i hi
  rw [hb.cell (p := ⟨g, off + i, none⟩) (World.block_lt_of_cell? w _ this)]
  exact this

/-- What a row owns can be read. -/
theorem own_RV {w : World} {base : Nat} {ao : Option Addr} {n cap : Nat} {zs : List Int} (h : w.ownsRow base 5 1 (.slice ao n cap) n (ic zs)) : RV w ao n zs := by
  have hl : zs.length = n := by have := h.1; rw [ic_length, Nat.mul_one] at this; exact this
  refine ⟨hl, ?_⟩
  rcases h.2 with ⟨hv, h0⟩ | ⟨g, cap', cur, hv, _⟩
  · exact .inl h0
  · right
    simp only [Value.slice.injEq] at hv
    obtain ⟨rfl, _, rfl⟩ := hv
    refine ⟨g, 0, rfl, fun i hi => ?_⟩
    rw [Nat.zero_add, h.cellAt i (by omega), ic_get (by omega)]

/-- A row stays owned while only newer blocks change. -/
theorem own_below {w w' : World} {base : Nat} {v : Value} {n : Nat} {xs : List Value} (h : w.ownsRow base 5 1 v n xs) (hb : Below w.heap.size w w') : w'.ownsRow base 5 1 v n xs := by
  refine ⟨h.1, h.2.imp id ?_⟩
  rintro ⟨g, cap, cur, hv, hg, hh, r⟩
  have hlt : g < w.heap.size := by
    rcases Nat.lt_or_ge g w.heap.size with h' | h'
    · exact h'
    · rw [Array.getElem?_eq_none h'] at hh
      exact absurd hh (by simp)
  exact ⟨g, cap, cur, hv, hg, by rw [hb.block g hlt]; exact hh, r⟩

set_option maxHeartbeats 1000000 in
set_option maxRecDepth 100000 in
theorem lite_indexByte (s : ByteArray) (c : Int) (w : World) :
    Calls Try.prog 11 #[.string s, .int .u8 c] w fun e w' => e = .returned (.int .i64 (IX s c)) ∧ w' = w := by
  unfold IX
  go_enter Try.func11, Try.ntmps11
  go_wp2
  rw [run_callFunc_extern Try.func12 (by kernel_rfl) (by kernel_rfl) (by kernel_rfl) (e := Extern.BytealgIndexByte.indexByte) (by kernel_rfl), Lib.run_indexByteString]
  simp only [Result.andThen]
  rw [Oper.upon_value]
  go_wp2
  go_ret
  exact ⟨rfl, rfl⟩

set_option maxHeartbeats 1000000 in
set_option maxRecDepth 100000 in
/-- strings.IndexByte. -/
theorem strings_indexByte (s : ByteArray) (c : Int) (w : World) :
    Calls Try.prog 10 #[.string s, .int .u8 c] w fun e w' => e = .returned (.int .i64 (IX s c)) ∧ w = w' := by
  go_enter Try.func10, Try.ntmps10
  go_wp2_with fail
  refine (lite_indexByte s c w).mono ?_
  rintro e w' ⟨rfl, rfl⟩
  go_wp2
  go_ret
  exact ⟨rfl, rfl⟩

set_option maxHeartbeats 1000000 in
set_option maxRecDepth 100000 in
theorem hasByte (s : ByteArray) (c : Int) (hs : s.size ≤ 1048576) (w : World) :
    Calls Try.prog 5 #[.string s, .int .u8 c] w fun e w' => e = .returned (.bool (HB s c)) ∧ w = w' := by
  have hb := get_bt s
  go_enter Try.func5, Try.ntmps5
  go_wp2
  go_loop [5] (fun i => ∃ k : Nat, k ≤ s.size ∧ i = .int .i64 k ∧ NoB s c k) (fun i => s.size - (intOf i).toNat)
  case atStart => exact ⟨0, Nat.zero_le _, rfl, fun i hi => by omega⟩
  case round =>
    obtain ⟨k, hk, rfl, hno⟩ := hrel
    by_cases hlt : k < s.size
    · by_cases h : bt s k = c
      · have HH : Hid (HB s c = true) := HB_hit hlt h
        have q : (bt s k == c) = true := by simpa using h
        clear h
        go_wp2
        go_ret
        exact ⟨congrArg (fun b => Ending.returned (.bool b)) HH.out.symm, rfl⟩
      · have q : (bt s k == c) = false := by simpa using h
        have hno2 := hno.snoc h
        clear h
        go_wp2
        go_round
        case rel => exact ⟨k + 1, by omega, by go_num, hno2⟩
        case measure => simp [intOf]; omega
    · obtain rfl : k = s.size := by omega
      have HH : Hid (HB s c = false) := hno.fin
      go_wp2
      go_ret
      exact ⟨congrArg (fun b => Ending.returned (.bool b)) HH.out.symm, rfl⟩

/-! ### pv1CloneBytes -/
/-- The cells of the clone, k of them written. -/
def cl (zs : List Int) (k : Nat) : List Int := zs.take k ++ List.replicate (zs.length - k) 0

theorem cl_zero (zs : List Int) : cl zs 0 = List.replicate zs.length 0 := by unfold cl; simp
theorem cl_full (zs : List Int) : cl zs zs.length = zs := by unfold cl; simp
theorem cl_len (zs : List Int) (k : Nat) (h : k ≤ zs.length) : (cl zs k).length = zs.length := by
  unfold cl
  rw [List.length_append, List.length_take, List.length_replicate]
  omega
theorem cl_set (zs : List Int) (k : Nat) (h : k < zs.length) : (cl zs k).set k (zs.getD k 0) = cl zs (k + 1) := by
  unfold cl
  rw [getD_get h, List.set_append_right _ _ (by rw [List.length_take]; omega), List.length_take, show k - min k zs.length = 0 by omega,
    show zs.length - k = (zs.length - (k + 1)) + 1 by omega, List.replicate_succ, List.set_cons_zero, List.take_succ_eq_append_getElem h, List.append_assoc]
  rfl
theorem ic_set (zs : List Int) (k : Nat) (c : Int) : (ic zs).set k (.int .u8 c) = ic (zs.set k c) := by
  unfold ic
  rw [List.map_set]

set_option maxHeartbeats 2000000 in
set_option maxRecDepth 100000 in
theorem clone (a : Option Addr) (n cap : Nat) (zs : List Int) (w : World) (hn : n ≤ 1048576) (hnil : a = none → n = 0) (hr : RV w a n zs) :
    Calls Try.prog 6 #[.slice a n cap] w fun e w' => ∃ ao, e = .returned (.slice ao n n) ∧ w'.ownsRow w.heap.size 5 1 (.slice ao n n) n (ic zs) ∧ Below w.heap.size w w' := by
  have hz := hr.1
  cases a with
  | none =>
    obtain rfl := hnil rfl
    have hzs : zs = [] := List.eq_nil_of_length_eq_zero hz
    subst hzs
    have hnl := fun wx => Lib.run_eql_slice_nil (P := Try.prog) wx 22 5 none 0 cap 0 0 Try.underlying22
    go_enter Try.func6, Try.ntmps6
    go_wp2
    go_ret
    exact ⟨none, rfl, World.ownsRow_nil _ _ _ _, Below.refl _ _⟩
  | some x =>
    obtain ⟨i0, hi, hz0, hz1, hz2⟩ := info_parts info5
    have hnl := fun wx => Lib.run_eql_slice_nil (P := Try.prog) wx 22 5 (some x) n cap 0 0 Try.underlying22
    go_enter Try.func6, Try.ntmps6
    go_wp2_with (at_make; refine wpList_make_full _ rfl _ _ 22 rfl w.heap.size 5 i0 (.int .u8 0) 1 Try.underlying22 hi hz0 hz1 _ _ _ _ n rfl rfl rfl rfl ?b2 ?b3 (Nat.le_refl _) ?_)
    case b2 => rw [hz2]; omega
    case b3 => unfold maxLen; omega
    intro w0 hown0 hgrow0
    have hown1 : w0.ownsRow w.heap.size 5 1 (.slice (some ⟨w.heap.size, 0, none⟩) n n) n (ic (cl zs 0)) := by
      have e : (madeCells #[Value.int .u8 0] n).toList = ic (cl zs 0) := by
        rw [cl_zero, hz]
        unfold ic
        rw [List.map_replicate]
        exact toList_madeCells_one _ _
      rw [← e]
      exact hown0
    have hbel0 : Below w.heap.size w w0 := (Below.refl _ _).grown hgrow0 (Nat.le_refl _) (fun k h => by cases h)
    clear hown0 hgrow0 hnl
    go_wp2
    go_loopw [4] (fun i wr => ∃ k : Nat, k ≤ n ∧ i = .int .i64 k ∧ wr.ownsRow w.heap.size 5 1 (.slice (some ⟨w.heap.size, 0, none⟩) n n) n (ic (cl zs k)) ∧ Below w.heap.size w wr) (fun i _ => n - (intOf i).toNat)
    case atStart => exact ⟨0, Nat.zero_le _, rfl, hown1, hbel0⟩
    case round =>
      clear hown1 hbel0
      obtain ⟨k, hk, rfl, hown, hbel⟩ := hrel
      by_cases hlt : k < n
      · rcases hr.2 with h0 | ⟨g, off, hx, hc⟩
        · omega
        · cases hx
          have hck := hc k hlt
          have hgl : g < w.heap.size := World.block_lt_of_cell? w _ hck
          have c1 : wr.cell? ⟨g, off + k, none⟩ = some (.int .u8 (zs.getD k 0)) := (hbel.cell (p := ⟨g, off + k, none⟩) hgl).trans hck
          have c2 : wr.cell? ⟨w.heap.size, k, none⟩ = some (.int .u8 ((cl zs k).getD k 0)) := by
            rw [hown.cellAt k (by omega), ic_get (by rw [cl_len zs k (by omega)]; omega)]
          have f2 : wr.frozen? ⟨w.heap.size, k, none⟩ = false := hown.frozenAt k
          have hst := (hown.stored k (.int .u8 (zs.getD k 0))).1
          rw [ic_set, cl_set zs k (by omega)] at hst
          have hbel2 : Below w.heap.size w (wr.setCell ⟨w.heap.size, k, none⟩ (.int .u8 (zs.getD k 0))) := hbel.setCell (p := ⟨w.heap.size, k, none⟩) (Nat.le_refl _) _
          obtain ⟨z, hzk⟩ : ∃ z, zs.getD k 0 = z := ⟨_, rfl⟩
          obtain ⟨y, hyk⟩ : ∃ y, (cl zs k).getD k 0 = y := ⟨_, rfl⟩
          rw [hzk] at c1 hst hbel2
          rw [hyk] at c2
          clear hck hc hr hown hbel hzk hyk
          go_wp2
          go_roundw
          case rel => exact ⟨k + 1, by omega, by go_num, hst, hbel2⟩
          case measure => simp [intOf]; omega
      · obtain rfl : k = n := by omega
        have e : cl zs k = zs := by rw [← hz]; exact cl_full zs
        rw [e] at hown
        clear e
        go_wp2
        go_ret
        exact ⟨_, rfl, hown, hbel⟩

end Go.Proofs.Qxb6604131a
