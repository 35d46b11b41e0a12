/-
  'zzIntsEqual' (12), 'zzIndexInt' (18), 'zzJoinInts' (11).
-/
import Derived.Test.Qxb6617194aKit
import Derived.Deep.QuietTactic
import Derived.BigQuiet
import Derived.WalkSmall
namespace Go.Proofs.Qxb6617194a
open Go.RowKit

set_option maxHeartbeats 800000 in
set_option maxRecDepth 100000 in
/-- Two slices that read alike are told equal. -/
theorem intsEqual_same (a1 a2 : Option Addr) (n1 n2 cap1 cap2 : Nat) (zs : List Int) (w : World) (hn1 : zs.length = n1) (hn2 : zs.length = n2) (hr1 : RdI w a1 zs) (hr2 : RdI w a2 zs) (hlen : zs.length ≤ 1048576) :
    Calls Try.prog 12 #[.slice a1 n1 cap1, .slice a2 n2 cap2] w fun e w' => e = .returned (.bool true) ∧ Below w.heap.size w w' := by
  subst hn1; subst hn2
  have HO1 : Hid _ := hr1.open
  have HO2 : Hid _ := hr2.open
  clear hr1 hr2
  go_enter Try.func12, Try.ntmps12
  go_wp2
  go_loopw [5] (fun i wr => ∃ k : Nat, k ≤ zs.length ∧ i = .int .i64 k ∧ Below w.heap.size w wr) (fun i _ => zs.length - (intOf i).toNat)
  case atStart => exact ⟨0, Nat.zero_le _, rfl, Below.refl _ _⟩
  case round =>
    obtain ⟨k, hk, rfl, hB⟩ := hrel
    by_cases hlt : k < zs.length
    · rcases HO1.out with h0 | ⟨b1, off1, rfl, hb1, hc1⟩
      · simp [h0] at hlt
      · rcases HO2.out with h0 | ⟨b2, off2, rfl, hb2, hc2⟩
        · simp [h0] at hlt
        · obtain ⟨x, hx⟩ : ∃ x, zs.getD k 0 = x := ⟨_, rfl⟩
          have hcx1 : wr.cell? ⟨b1, off1 + k, none⟩ = some (.int .i64 x) := by rw [← hx]; exact (hB.cell hb1).trans (hc1 k hlt)
          have hcx2 : wr.cell? ⟨b2, off2 + k, none⟩ = some (.int .i64 x) := by rw [← hx]; exact (hB.cell hb2).trans (hc2 k hlt)
          have hlti : (k : Int) < (zs.length : Int) := by omega
          clear hc1 hc2 hx HO1 HO2
          go_wp2_with fail
          go_quiet (fail)
          go_wp2
          go_roundw
          case rel => exact ⟨k + 1, by omega, by go_num, below_drewN hB _⟩
          case measure => simp [intOf]; omega
    · go_wp2
      go_ret
      exact ⟨rfl, hB⟩

/-- The first place of a number; -1 where there is none. -/
def idx (zs : List Int) (x : Int) : Int := if x ∈ zs then (zs.idxOf x : Int) else -1

theorem idx_hit (zs : List Int) (x : Int) (k : Nat) (hk : k < zs.length) (hx : zs.getD k 0 = x) (hno : x ∉ zs.take k) : idx zs x = k := by
  have hz : zs = zs.take k ++ x :: zs.drop (k + 1) := by
    conv => lhs; rw [← List.take_append_drop (k + 1) zs, take_succ' zs 0 k hk, hx]
    simp
  unfold idx
  rw [if_pos (by rw [hz]; simp)]
  have : zs.idxOf x = k := by
    rw [hz, List.idxOf_append]
    simp [hno]; omega
  rw [this]
theorem idx_miss (zs : List Int) (x : Int) (h : x ∉ zs) : idx zs x = -1 := by unfold idx; rw [if_neg h]

set_option maxHeartbeats 800000 in
set_option maxRecDepth 100000 in
theorem index_any (a : Option Addr) (n cap : Nat) (zs : List Int) (x : Int) (w : World) (hn : zs.length = n) (hr : RdI w a zs) (hlen : zs.length ≤ 1048576) :
    Calls Try.prog 18 #[.slice a n cap, .int .i64 x] w fun e w' => e = .returned (.int .i64 (idx zs x)) ∧ w = w' := by
  subst hn
  have HO : Hid _ := hr.open
  clear hr
  go_enter Try.func18, Try.ntmps18
  go_wp2
  go_loop [5] (fun i => ∃ k : Nat, k ≤ zs.length ∧ i = .int .i64 k ∧ Hid (x ∉ zs.take k)) (fun i => zs.length - (intOf i).toNat)
  case atStart => exact ⟨0, Nat.zero_le _, rfl, by show x ∉ zs.take 0; simp⟩
  case round =>
    obtain ⟨k, hk, rfl, hno⟩ := hrel
    by_cases hlt : k < zs.length
    · rcases HO.out with h0 | ⟨b, off, rfl, hb, hc⟩
      · simp [h0] at hlt
      · obtain ⟨y, hy⟩ : ∃ y, zs.getD k 0 = y := ⟨_, rfl⟩
        have hcx : w.cell? ⟨b, off + k, none⟩ = some (.int .i64 y) := by rw [← hy]; exact hc k hlt
        have HY : Hid _ := hy
        clear hc hy HO
        by_cases hxy : (y == x) = true
        · go_wp2
          go_ret
          have e : y = x := by simpa using hxy
          exact ⟨ret_int (idx_hit zs x k hlt (HY.out.trans e) hno.out).symm, rfl⟩
        · have hxf : (y == x) = false := by simpa using hxy
          clear hxy
          go_wp2
          go_round
          case rel =>
            refine ⟨k + 1, by omega, by go_num, ?_⟩
            show x ∉ zs.take (k + 1)
            rw [take_succ' zs 0 k hlt, HY.out]
            have e : ¬ y = x := by simpa using hxf
            simp only [List.mem_append, List.mem_singleton, not_or]
            exact ⟨hno.out, fun h => e h.symm⟩
          case measure => simp [intOf]; omega
    · go_wp2
      go_ret
      have hno' : x ∉ zs := by have := hno.out; rwa [List.take_of_length_le (by omega)] at this
      exact ⟨ret_int (idx_miss zs x hno').symm, rfl⟩

theorem List_take_app (xs ys : List Int) (k : Nat) (hk : k < ys.length) : xs ++ ys.take (k + 1) = xs ++ ys.take k ++ [ys.getD k 0] := by
  rw [take_succ' ys 0 k hk, List.append_assoc]

set_option maxHeartbeats 1600000 in
set_option maxRecDepth 100000 in
theorem join_any (a1 a2 : Option Addr) (n1 n2 cap1 cap2 : Nat) (xs ys : List Int) (w : World) (hn1 : xs.length = n1) (hn2 : ys.length = n2) (hr1 : RdI w a1 xs) (hr2 : RdI w a2 ys) (hl1 : xs.length ≤ 1048576) (hl2 : ys.length ≤ 1048576) :
    Calls Try.prog 11 #[.slice a1 n1 cap1, .slice a2 n2 cap2] w fun e w' => ∃ a' cap', e = .returned (.slice a' (xs ++ ys).length cap') ∧ RdI w' a' (xs ++ ys) ∧ Below w.heap.size w w' := by
  subst hn1; subst hn2
  obtain ⟨i0, hi, hz0, hz1, hz2⟩ := info_parts Try.info3
  have HO1 : Hid _ := hr1.open
  have HO2 : Hid _ := hr2.open
  clear hr1 hr2
  go_enter Try.func11, Try.ntmps11
  go_wp2_with (at_make; refine wpList_make_own _ rfl _ _ 22 rfl w.heap.size 3 i0 (.int .i64 0) 1 Try.underlying22 hi hz0 hz1 _ _ _ (xs.length + ys.length) rfl rfl (by omega) (by rw [hz2]; omega) (by unfold maxLen; omega) (Nat.le_refl _) ?_; intro w1 hown1 hgrow1)
  have hB1 : Below w.heap.size w w1 := (Below.refl _ _).grown hgrow1 (Nat.le_refl _) (fun k hk => by cases hk)
  clear hgrow1
  go_loopw [5, 6] (fun v i wr => ∃ k : Nat, k ≤ xs.length ∧ i = .int .i64 k ∧ wr.ownsRow w.heap.size 3 1 v (xs.take k).length ((xs.take k).map (Value.int .i64)) ∧ Below w.heap.size w wr) (fun _ i _ => xs.length - (intOf i).toNat)
  case atStart => exact ⟨0, Nat.zero_le _, rfl, hown1, hB1⟩
  case round =>
    clear hown1 hB1
    obtain ⟨k, hk, rfl, hown, hnx⟩ := hrel
    have hlk : (xs.take k).length ≤ 1048576 := by simp; omega
    by_cases hlt : k < xs.length
    · rcases HO1.out with h0 | ⟨b, off, rfl, hb, hc⟩
      · simp [h0] at hlt
      · obtain ⟨x, hx⟩ : ∃ x, xs.getD k 0 = x := ⟨_, rfl⟩
        have hcx : wr.cell? ⟨b, off + k, none⟩ = some (.int .i64 x) := by rw [← hx]; exact (hnx.cell hb).trans (hc k hlt)
        have HX : Hid _ := hx
        obtain ⟨L, hL⟩ : ∃ L, xs.take k = L := ⟨_, rfl⟩
        rw [hL] at hown hlk
        have HL : Hid _ := hL
        clear HO1 HO2 hc hx hL
        go_wp2_with (first
          | (at_builtin; refine wpList_append_own _ rfl _ _ 22 rfl w.heap.size 3 i0 (.int .i64 0) 1 8 Try.underlying22 hi hz0 hz1 hz2 rfl (by decide) _ _ _ rfl (hown.alloc _) ⟨wr.heap.size, 0, none⟩ 1 1 [.int .i64 x] rfl rfl (cell_one_new _ _ _) (ints_oneCell .i64 [x]) (by unfold maxLen; omega) (by omega) (by have := hnx.size; simp; omega) ?_; intro v' w2 hown' hgrow hnil))
        go_roundw
        case rel =>
          refine ⟨k + 1, by omega, by go_num, ?_, ?_⟩
          · rw [take_succ' xs 0 k hlt, HX.out, HL.out]; simpa using hown'
          · exact (hnx.alloc hnx.size _).grown hgrow (by have := hnx.size; simp; omega) (fun j hj => (hown.lt j hj).1)
        case measure => simp [intOf]; omega
    · obtain rfl : k = xs.length := by omega
      rw [List.take_length] at hown
      have hown0 : wr.ownsRow w.heap.size 3 1 u5 (xs ++ ys.take 0).length ((xs ++ ys.take 0).map (Value.int .i64)) := by simpa using hown
      clear hk hlt hown hlk
      go_wp2_with fail
      obtain ⟨wo, rfl⟩ : ∃ wo : World, wo = wr := ⟨_, rfl⟩
      go_loopw [5, 7] (fun v i wr => ∃ k : Nat, k ≤ ys.length ∧ i = .int .i64 k ∧ wr.ownsRow w.heap.size 3 1 v (xs ++ ys.take k).length ((xs ++ ys.take k).map (Value.int .i64)) ∧ Below w.heap.size w wr) (fun _ i _ => ys.length - (intOf i).toNat)
      case atStart => exact ⟨0, Nat.zero_le _, rfl, hown0, hnx⟩
      case round =>
        clear hown0 hnx
        obtain ⟨k, hk, rfl, hown, hnx⟩ := hrel
        have hlk : (xs ++ ys.take k).length ≤ 2097152 := by simp; omega
        by_cases hlt : k < ys.length
        · rcases HO2.out with h0 | ⟨b, off, rfl, hb, hc⟩
          · simp [h0] at hlt
          · obtain ⟨x, hx⟩ : ∃ x, ys.getD k 0 = x := ⟨_, rfl⟩
            have hcx : wr.cell? ⟨b, off + k, none⟩ = some (.int .i64 x) := by rw [← hx]; exact (hnx.cell hb).trans (hc k hlt)
            have HX : Hid _ := hx
            obtain ⟨L, hL⟩ : ∃ L, xs ++ ys.take k = L := ⟨_, rfl⟩
            rw [hL] at hown hlk
            have HL : Hid _ := hL
            clear HO1 HO2 hc hx hL
            go_wp2_with (first
              | (at_builtin; refine wpList_append_own _ rfl _ _ 22 rfl w.heap.size 3 i0 (.int .i64 0) 1 8 Try.underlying22 hi hz0 hz1 hz2 rfl (by decide) _ _ _ rfl (hown.alloc _) ⟨wr.heap.size, 0, none⟩ 1 1 [.int .i64 x] rfl rfl (cell_one_new _ _ _) (ints_oneCell .i64 [x]) (by unfold maxLen; omega) (by omega) (by have := hnx.size; simp; omega) ?_; intro v' w2 hown' hgrow hnil))
            go_roundw
            case rel =>
              refine ⟨k + 1, by omega, by go_num, ?_, ?_⟩
              · rw [List_take_app xs ys k hlt, HX.out, HL.out]; simpa using hown'
              · exact (hnx.alloc hnx.size _).grown hgrow (by have := hnx.size; simp; omega) (fun j hj => (hown.lt j hj).1)
            case measure => simp [intOf]; omega
        · obtain rfl : k = ys.length := by omega
          rw [List.take_length] at hown
          go_wp2
          obtain ⟨a', cap', rfl, hrd, hl⟩ := Rd.owned hown
          go_ret
          exact ⟨a', cap', rfl, hrd, hnx⟩

end Go.Proofs.Qxb6617194a
