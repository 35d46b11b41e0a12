/-
  'zzJoinInts' (11) once more, its result owned by the call; 'distinct' (27) and 'ZZdistinct' (17) once more, with the room of their result; 'zzBytes' of law 6 (19).
-/
import Derived.Test.Qxb6617194aDistinct
import Derived.Test.Qxb6617194aInts
namespace Go.Proofs.Qxb6617194a
open Go.RowKit Go.Maps

theorem owned_cap {w : World} {base : Nat} {e : TypeId} {v : Value} {n : Nat} {cs : List Value} (h : w.ownsRow base e 1 v n cs) :
    ∃ a cap, v = .slice a n cap ∧ Rd w a cs ∧ n ≤ cap := by
  obtain ⟨a, cap, rfl, hr, hl⟩ := Rd.owned h
  refine ⟨a, cap, rfl, hr, ?_⟩
  rcases h.2 with ⟨hv, hn⟩ | ⟨g, cap', cur, hv, hg, hh, hnc, r⟩
  · omega
  · cases hv; exact hnc

set_option maxHeartbeats 1600000 in
set_option maxRecDepth 100000 in
theorem join_own (a1 a2 : Option Addr) (n1 n2 cap1 cap2 : Nat) (xs ys : List Int) (w : World) (hn1 : xs.length = n1) (hn2 : ys.length = n2) (hr1 : RdI w a1 xs) (hr2 : RdI w a2 ys) (hl1 : xs.length ≤ 1048576) (hl2 : ys.length ≤ 1048576) :
    Calls Try.prog 11 #[.slice a1 n1 cap1, .slice a2 n2 cap2] w fun e w' => ∃ v, e = .returned v ∧ w'.ownsRow w.heap.size 3 1 v (xs ++ ys).length ((xs ++ ys).map (Value.int .i64)) ∧ Below w.heap.size w w' := by
  subst hn1; subst hn2
  obtain ⟨i0, hi, hz0, hz1, hz2⟩ := info_parts Try.info3
  have HO1 : Hid _ := hr1.open
  have HO2 : Hid _ := hr2.open
  clear hr1 hr2
  go_enter Try.func11, Try.ntmps11
  go_wp2_with (at_make; refine wpList_make_own _ rfl _ _ 22 rfl w.heap.size 3 i0 (.int .i64 0) 1 Try.underlying22 hi hz0 hz1 _ _ _ (xs.length + ys.length) rfl rfl (by omega) (by rw [hz2]; omega) (by unfold maxLen; omega) (Nat.le_refl _) ?_; intro w1 hown1 hgrow1)
  have hB1 : Below w.heap.size w w1 := (Below.refl _ _).grown hgrow1 (Nat.le_refl _) (fun k hk => by cases hk)
  clear hgrow1
  go_loopw [5, 6] (fun v i wr => ∃ k : Nat, k ≤ xs.length ∧ i = .int .i64 k ∧ wr.ownsRow w.heap.size 3 1 v (xs.take k).length ((xs.take k).map (Value.int .i64)) ∧ Below w.heap.size w wr) (fun _ i _ => xs.length - (intOf i).toNat)
  case atStart => exact ⟨0, Nat.zero_le _, rfl, hown1, hB1⟩
  case round =>
    clear hown1 hB1
    obtain ⟨k, hk, rfl, hown, hnx⟩ := hrel
    have hlk : (xs.take k).length ≤ 1048576 := by simp; omega
    by_cases hlt : k < xs.length
    · rcases HO1.out with h0 | ⟨b, off, rfl, hb, hc⟩
      · simp [h0] at hlt
      · obtain ⟨x, hx⟩ : ∃ x, xs.getD k 0 = x := ⟨_, rfl⟩
        have hcx : wr.cell? ⟨b, off + k, none⟩ = some (.int .i64 x) := by rw [← hx]; exact (hnx.cell hb).trans (hc k hlt)
        have HX : Hid _ := hx
        obtain ⟨L, hL⟩ : ∃ L, xs.take k = L := ⟨_, rfl⟩
        rw [hL] at hown hlk
        have HL : Hid _ := hL
        clear HO1 HO2 hc hx hL
        go_wp2_with (first
          | (at_builtin; refine wpList_append_own _ rfl _ _ 22 rfl w.heap.size 3 i0 (.int .i64 0) 1 8 Try.underlying22 hi hz0 hz1 hz2 rfl (by decide) _ _ _ rfl (hown.alloc _) ⟨wr.heap.size, 0, none⟩ 1 1 [.int .i64 x] rfl rfl (cell_one_new _ _ _) (ints_oneCell .i64 [x]) (by unfold maxLen; omega) (by omega) (by have := hnx.size; simp; omega) ?_; intro v' w2 hown' hgrow hnil))
        go_roundw
        case rel =>
          refine ⟨k + 1, by omega, by go_num, ?_, ?_⟩
          · rw [take_succ' xs 0 k hlt, HX.out, HL.out]; simpa using hown'
          · exact (hnx.alloc hnx.size _).grown hgrow (by have := hnx.size; simp; omega) (fun j hj => (hown.lt j hj).1)
        case measure => simp [intOf]; omega
    · obtain rfl : k = xs.length := by omega
      rw [List.take_length] at hown
      have hown0 : wr.ownsRow w.heap.size 3 1 u5 (xs ++ ys.take 0).length ((xs ++ ys.take 0).map (Value.int .i64)) := by simpa using hown
      clear hk hlt hown hlk
      go_wp2_with fail
      obtain ⟨wo, rfl⟩ : ∃ wo : World, wo = wr := ⟨_, rfl⟩
      go_loopw [5, 7] (fun v i wr => ∃ k : Nat, k ≤ ys.length ∧ i = .int .i64 k ∧ wr.ownsRow w.heap.size 3 1 v (xs ++ ys.take k).length ((xs ++ ys.take k).map (Value.int .i64)) ∧ Below w.heap.size w wr) (fun _ i _ => ys.length - (intOf i).toNat)
      case atStart => exact ⟨0, Nat.zero_le _, rfl, hown0, hnx⟩
      case round =>
        clear hown0 hnx
        obtain ⟨k, hk, rfl, hown, hnx⟩ := hrel
        have hlk : (xs ++ ys.take k).length ≤ 2097152 := by simp; omega
        by_cases hlt : k < ys.length
        · rcases HO2.out with h0 | ⟨b, off, rfl, hb, hc⟩
          · simp [h0] at hlt
          · obtain ⟨x, hx⟩ : ∃ x, ys.getD k 0 = x := ⟨_, rfl⟩
            have hcx : wr.cell? ⟨b, off + k, none⟩ = some (.int .i64 x) := by rw [← hx]; exact (hnx.cell hb).trans (hc k hlt)
            have HX : Hid _ := hx
            obtain ⟨L, hL⟩ : ∃ L, xs ++ ys.take k = L := ⟨_, rfl⟩
            rw [hL] at hown hlk
            have HL : Hid _ := hL
            clear HO1 HO2 hc hx hL
            go_wp2_with (first
              | (at_builtin; refine wpList_append_own _ rfl _ _ 22 rfl w.heap.size 3 i0 (.int .i64 0) 1 8 Try.underlying22 hi hz0 hz1 hz2 rfl (by decide) _ _ _ rfl (hown.alloc _) ⟨wr.heap.size, 0, none⟩ 1 1 [.int .i64 x] rfl rfl (cell_one_new _ _ _) (ints_oneCell .i64 [x]) (by unfold maxLen; omega) (by omega) (by have := hnx.size; simp; omega) ?_; intro v' w2 hown' hgrow hnil))
            go_roundw
            case rel =>
              refine ⟨k + 1, by omega, by go_num, ?_, ?_⟩
              · rw [List_take_app xs ys k hlt, HX.out, HL.out]; simpa using hown'
              · exact (hnx.alloc hnx.size _).grown hgrow (by have := hnx.size; simp; omega) (fun j hj => (hown.lt j hj).1)
            case measure => simp [intOf]; omega
        · obtain rfl : k = ys.length := by omega
          rw [List.take_length] at hown
          go_wp2
          go_ret
          exact ⟨_, rfl, hown, hnx⟩

set_option maxHeartbeats 1600000 in
set_option maxRecDepth 100000 in
theorem distinct_cap (a : Option Addr) (cap : Nat) (zs : List Int) (w : World) (hr : RdI w a zs) (hlen : zs.length ≤ 1048576) (hwz : ∀ x ∈ zs, (Lit.int .i64 x).wf = true) :
    Calls Try.prog 27 #[.slice a zs.length cap] w fun e w' => ∃ a' cap', e = .returned (.slice a' (dst zs).length cap') ∧ RdI w' a' (dst zs) ∧ Below w.heap.size w w' ∧ (dst zs).length ≤ cap' := by
  have hmm := @run_makeMap Try.prog
  obtain ⟨i0, hi, hz0, hz1, hz2⟩ := info_parts Try.info3
  have HO : Hid _ := hr.open
  have HW : Hid _ := hwz
  clear hr hwz
  go_enter Try.func27, Try.ntmps27
  go_wp2
  go_loopw [3, 10] (fun v i wr => ∃ k : Nat, k ≤ zs.length ∧ i = .int .i64 k ∧ wr.ownsMap Try.prog 3 boolElem w.heap.size k (keysOf (dst (zs.take k))) ∧ wr.ownsRow (w.heap.size + 1) 3 1 v (dst (zs.take k)).length ((dst (zs.take k)).map (Value.int .i64)) ∧
      Below w.heap.size w wr ∧ w.heap.size + 1 ≤ wr.heap.size) (fun _ i _ => zs.length - (intOf i).toNat)
  case atStart => exact ⟨0, Nat.zero_le _, rfl, World.ownsMap_made _ _ _ _, World.ownsRow_nil _ _ _ _, (Below.refl _ _).alloc (Nat.le_refl _) _, by simp⟩
  case round =>
    obtain ⟨k, hk, rfl, hown, hrow, hnx, hws⟩ := hrel
    have hal := dst_take_le zs k
    by_cases hlt : k < zs.length
    · rcases HO.out with h0 | ⟨b, off, rfl, hb, hc⟩
      · simp [h0] at hlt
      · have hsu := dst_succ zs k hlt
        obtain ⟨x, hx⟩ : ∃ x, zs.getD k 0 = x := ⟨_, rfl⟩
        have hcx : wr.cell? ⟨b, off + k, none⟩ = some (.int .i64 x) := by rw [← hx]; exact (hnx.cell hb).trans (hc k hlt)
        have hwx : (Lit.int .i64 x).wf = true := HW.out x (by rw [← hx, List.getD, List.getElem?_eq_getElem hlt]; exact List.getElem_mem hlt)
        have hkey : keyOf Try.prog 3 (.int .i64 x) = some (.int .i64 x) := keyOf_int_mk Try.underlying3 hwx
        have hat := atKey_keysOf (dst (zs.take k)) x
        rw [hx] at hsu
        have HSU : Hid _ := hsu
        clear HO hc hx hsu hwx
        by_cases hin : (dst (zs.take k)).contains x = true
        · rw [hin] at hat
          have HAT : Hid _ := hat
          have HIN : Hid _ := hin
          have HKY : Hid _ := hkey
          clear hat hin hkey
          go_wp2_with (at_lookup; refine wpList_lookup_bool _ rfl _ _ 37 rfl 3 4 law3 Try.underlying37 (zero4 _) w.heap.size k _ rfl hown _ _ rfl HKY.out true HAT.out ?_)
          have hd : dst (zs.take (k + 1)) = dst (zs.take k) := by rw [HSU.out]; unfold addI; rw [if_pos HIN.out]
          go_roundw
          case rel => exact ⟨k + 1, by omega, by go_num, by rw [hd]; exact hown.mono (Nat.le_succ _), by rw [hd]; exact hrow, hnx, hws⟩
          case measure => simp [intOf]; omega
        · have hin' : (dst (zs.take k)).contains x = false := by simpa using hin
          rw [hin'] at hat
          have HAT : Hid _ := hat
          have HIN : Hid _ := hin'
          have HKY : Hid _ := hkey
          clear hat hin hin' hkey
          go_wp2_with (first
            | (at_lookup; refine wpList_lookup_bool _ rfl _ _ 37 rfl 3 4 law3 Try.underlying37 (zero4 _) w.heap.size k _ rfl hown _ _ rfl HKY.out false HAT.out ?_)
            | (at_mapUpdate; refine wpList_mapUpdate_own _ rfl _ _ _ 37 rfl 3 4 law3 Try.underlying37 boolElem w.heap.size k _ rfl hown (by unfold maxLen; omega) _ _ _ rfl rfl HKY.out (.lit (.bool true)) [] rfl ?_; intro w1 hown1 hgrow1)
            | (at_builtin; refine wpList_append_own _ rfl _ _ 22 rfl (w.heap.size + 1) 3 i0 (.int .i64 0) 1 8 Try.underlying22 hi hz0 hz1 hz2 rfl (by decide) _ _ _ rfl ((hrow.kept hgrow1 (Or.inr (row_ne hrow (Nat.lt_succ_self _)).symm)).alloc _) ⟨w1.heap.size, 0, none⟩ 1 1 [.int .i64 x] rfl rfl (cell_one_new _ _ _) (ints_oneCell .i64 [x]) (by unfold maxLen; omega) (by omega) (by have := hgrow1.size; simp at this ⊢; omega) ?_; intro v' w2 hown' hgrow2 hnil2))
          have hd : dst (zs.take (k + 1)) = dst (zs.take k) ++ [x] := by rw [HSU.out]; unfold addI; rw [if_neg (by rw [HIN.out]; exact Bool.false_ne_true)]
          have hr1 := hrow.kept hgrow1 (Or.inr (row_ne hrow (Nat.lt_succ_self _)).symm)
          have s1 := hgrow1.size
          have s2 := hgrow2.size
          simp at s1 s2
          go_roundw
          case rel =>
            refine ⟨k + 1, by omega, by go_num, ?_, ?_, ?_, by omega⟩
            · rw [hd]
              unfold keysOf
              rw [List.map_append, List.map_singleton, setOf_snoc]
              exact (hown1.alloc _).kept hgrow2 (row_ne hr1 (Nat.lt_succ_self _))
            · rw [hd]
              simpa using hown'
            · exact ((hnx.grown hgrow1 hnx.size (fun j hj => by cases hj; exact Nat.le_refl _)).alloc (by omega) _).grown hgrow2 (by simp; omega) (fun j hj => Nat.le_trans (Nat.le_succ _) (hr1.lt j hj).1)
          case measure => simp [intOf]; omega
    · go_wp2
      obtain rfl : k = zs.length := by omega
      rw [List.take_length] at hrow
      obtain ⟨a', cap', rfl, hrd, hcp⟩ := owned_cap hrow
      go_ret
      exact ⟨a', cap', rfl, hrd, hnx, hcp⟩

theorem zzdistinct_cap (a : Option Addr) (n cap : Nat) (zs : List Int) (w : World) (hn : zs.length = n) (hr : RdI w a zs) (hlen : n ≤ 1048576) (hwz : ∀ x ∈ zs, (Lit.int .i64 x).wf = true) :
    Calls Try.prog 17 #[.slice a n cap] w fun e w' => ∃ a' cap', e = .returned (.slice a' (dst zs).length cap') ∧ RdI w' a' (dst zs) ∧ Below w.heap.size w w' ∧ (dst zs).length ≤ cap' := by
  subst hn
  go_enter Try.func17, Try.ntmps17
  go_wp2_with fail
  refine (distinct_cap _ _ _ _ hr hlen hwz).mono ?_
  rintro e w' ⟨a', cap', rfl, h1, h2, h3⟩
  go_wp2
  go_ret
  exact ⟨a', cap', rfl, h1, h2, h3⟩


/-- How a bound on two lengths ends: it says no; or it says yes, and both lengths are small. -/
def Told3 (n1 n2 : Nat) (w : World) (e : Ending) (w' : World) : Prop := w = w' ∧ (e = .returned (.bool false) ∨ e = .returned (.bool true) ∧ n1 ≤ 1048576 ∧ n2 ≤ 1048576)
theorem Told3.no {n1 n2 : Nat} {w w' : World} {e : Ending} (h : e = .returned (.bool false)) (hw : w = w') : Told3 n1 n2 w e w' := ⟨hw, .inl h⟩
theorem Told3.yes {n1 n2 : Nat} {w w' : World} {e : Ending} (h : e = .returned (.bool true)) (h1 : n1 ≤ 1048576) (h2 : n2 ≤ 1048576) (hw : w = w') : Told3 n1 n2 w e w' := ⟨hw, .inr ⟨h, h1, h2⟩⟩

set_option maxRecDepth 100000 in
theorem bytes19 (a1 a2 : Option Addr) (n1 n2 cap1 cap2 : Nat) (w : World) (hm1 : n1 ≤ maxLen) (hm2 : n2 ≤ maxLen) :
    Calls Try.prog 19 #[.slice a1 n1 cap1, .slice a2 n2 cap2] w fun e w' => Told3 n1 n2 w e w' := by
  unfold maxLen at hm1 hm2
  by_cases h1 : 1048576 < n1
  · go_enter Try.func19, Try.ntmps19
    go_wp2
    go_ret
    exact Told3.no rfl rfl
  · by_cases h2 : 1048576 < n2
    · go_enter Try.func19, Try.ntmps19
      go_wp2
      go_ret
      exact Told3.no rfl rfl
    · by_cases h3 : 1048576 < n1 + n2
      · go_enter Try.func19, Try.ntmps19
        go_wp2
        go_ret
        exact Told3.no rfl rfl
      · go_enter Try.func19, Try.ntmps19
        go_wp2
        go_ret
        exact Told3.yes rfl (by omega) (by omega) rfl

theorem index_q (a : Option Addr) (n cap : Nat) (zs : List Int) (x : Int) (w : World) (hn : zs.length = n) (hr : RdI w a zs) (hlen : zs.length ≤ 1048576) :
    Calls Try.prog 18 #[.slice a n cap, .int .i64 x] w fun e w' => e = .returned (.int .i64 (idx zs x)) ∧ w' = w :=
  (index_any a n cap zs x w hn hr hlen).mono fun _ _ ⟨h1, h2⟩ => ⟨h1, h2.symm⟩

theorem RdI.drewN {w : World} {a : Option Addr} {zs : List Int} (h : RdI w a zs) (n : Nat) : RdI (w.drewN n) a zs := h.below (below_drewN (Below.refl _ _) n)
theorem RdI.take {w : World} {a : Option Addr} {zs : List Int} (h : RdI w a zs) (k : Nat) : RdI w a (zs.take k) := by
  rcases h.open with rfl | ⟨b, off, rfl, hb, hc⟩
  · simpa using h
  · refine RdI.mk hb fun j hj => ?_
    have hj' : j < k ∧ j < zs.length := by simp at hj; omega
    rw [hc j hj'.2]
    simp [List.getD, hj'.1]

end Go.Proofs.Qxb6617194a
