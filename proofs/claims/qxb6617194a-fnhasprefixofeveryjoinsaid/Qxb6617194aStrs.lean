/-
  'hasPrefix' (28), 'ZZhasPrefix' (22), 'zzStringsEqual' (23), 'zzStrBytes' (21), 'zzJoinStrings' (25), and the two bounds on bytes (20, 24).
-/
import Derived.Test.Qxb6617194aKit
import Derived.Deep.QuietTactic
import Derived.BigQuiet
import Derived.WalkSmall
namespace Go.Proofs.Qxb6617194a
open Go.RowKit

theorem sz_ne {x y : ByteArray} (h : x ≠ y) : (x.toList == y.toList) = false := by
  rw [ByteArray.toList_eq, ByteArray.toList_eq]
  have : x.data.toList ≠ y.data.toList := fun e => h (by cases x; cases y; simp at e; simp [e])
  simpa using this

/-- Does the first list begin with the second? -/
def hp (ps qs : List ByteArray) : Bool := decide (qs = ps.take qs.length)
theorem hp_true {ps qs : List ByteArray} (h : qs = ps.take qs.length) : hp ps qs = true := by unfold hp; exact decide_eq_true h
theorem hp_long {ps qs : List ByteArray} (h : ps.length < qs.length) : hp ps qs = false := by
  unfold hp
  refine decide_eq_false fun e => ?_
  have := congrArg List.length e
  simp at this
  omega
theorem hp_ne {ps qs : List ByteArray} {k : Nat} (hk : k < qs.length) (h : ps.getD k ByteArray.empty ≠ qs.getD k ByteArray.empty) : hp ps qs = false := by
  unfold hp
  refine decide_eq_false fun e => h ?_
  have e2 : qs[k]? = (ps.take qs.length)[k]? := by rw [← e]
  rw [List.getElem?_take, if_pos hk] at e2
  simp [List.getD, e2]

set_option maxHeartbeats 800000 in
set_option maxRecDepth 100000 in
theorem hasP_any (a1 a2 : Option Addr) (cap1 cap2 : Nat) (ps qs : List ByteArray) (w : World) (hr1 : RdS w a1 ps) (hr2 : RdS w a2 qs) (_hl1 : ps.length ≤ 2097152) (hl2 : qs.length ≤ 2097152) :
    Calls Try.prog 28 #[.slice a1 ps.length cap1, .slice a2 qs.length cap2] w fun e w' => e = .returned (.bool (hp ps qs)) ∧ w = w' := by
  by_cases hle : ps.length < qs.length
  · go_enter Try.func28, Try.ntmps28
    go_wp2
    go_ret
    exact ⟨ret_bool (hp_long hle).symm, rfl⟩
  · have HO1 : Hid _ := hr1.open
    have HO2 : Hid _ := hr2.open
    clear hr1 hr2
    go_enter Try.func28, Try.ntmps28
    go_wp2
    go_loop [14] (fun i => ∃ k : Nat, k ≤ qs.length ∧ i = .int .i64 k ∧ Hid (qs.take k = ps.take k)) (fun i => qs.length - (intOf i).toNat)
    case atStart => exact ⟨0, Nat.zero_le _, rfl, by show qs.take 0 = ps.take 0; simp⟩
    case round =>
      obtain ⟨k, hk, rfl, hno⟩ := hrel
      by_cases hlt : k < qs.length
      · rcases HO1.out with h0 | ⟨b1, off1, rfl, hb1, hc1⟩
        · have : ps.length = 0 := by rw [h0]; rfl
          omega
        · rcases HO2.out with h0 | ⟨b2, off2, rfl, hb2, hc2⟩
          · simp [h0] at hlt
          · obtain ⟨x, hx⟩ : ∃ x, ps.getD k ByteArray.empty = x := ⟨_, rfl⟩
            obtain ⟨y, hy⟩ : ∃ y, qs.getD k ByteArray.empty = y := ⟨_, rfl⟩
            have hcx : w.cell? ⟨b1, off1 + k, none⟩ = some (.string x) := by rw [← hx]; exact hc1 k (by omega)
            have hcy : w.cell? ⟨b2, off2 + k, none⟩ = some (.string y) := by rw [← hy]; exact hc2 k hlt
            have HX : Hid _ := hx
            have HY : Hid _ := hy
            clear hc1 hc2 hx hy HO1 HO2
            by_cases hxy : x = y
            · subst hxy
              go_wp2
              go_round
              case rel =>
                refine ⟨k + 1, by omega, by go_num, ?_⟩
                show qs.take (k + 1) = ps.take (k + 1)
                rw [take_succ' qs ByteArray.empty k hlt, take_succ' ps ByteArray.empty k (by omega), hno.out, HX.out, HY.out]
              case measure => simp [intOf]; omega
            · have hb := sz_ne hxy
              have HXY : Hid _ := hxy
              clear hxy
              go_wp2
              go_ret
              exact ⟨ret_bool (hp_ne hlt (by rw [HX.out, HY.out]; exact HXY.out)).symm, rfl⟩
      · go_wp2
        go_ret
        have : k = qs.length := by omega
        subst this
        exact ⟨ret_bool (hp_true (by have := hno.out; rwa [List.take_length] at this)).symm, rfl⟩

theorem zzhasP_any (a1 a2 : Option Addr) (n1 n2 cap1 cap2 : Nat) (ps qs : List ByteArray) (w : World) (hn1 : ps.length = n1) (hn2 : qs.length = n2) (hr1 : RdS w a1 ps) (hr2 : RdS w a2 qs) (hl1 : ps.length ≤ 2097152) (hl2 : qs.length ≤ 2097152) :
    Calls Try.prog 22 #[.slice a1 n1 cap1, .slice a2 n2 cap2] w fun e w' => e = .returned (.bool (hp ps qs)) ∧ w = w' := by
  subst hn1; subst hn2
  go_enter Try.func22, Try.ntmps22
  go_wp2_with fail
  refine (hasP_any _ _ _ _ _ _ _ hr1 hr2 hl1 hl2).mono ?_
  rintro e w' ⟨rfl, rfl⟩
  go_wp2
  go_ret
  exact ⟨rfl, rfl⟩

/-- Are the two lists one? -/
def sEq (ps qs : List ByteArray) : Bool := decide (ps = qs)
theorem sEq_true {ps qs : List ByteArray} (h : ps = qs) : sEq ps qs = true := by unfold sEq; exact decide_eq_true h
theorem sEq_len {ps qs : List ByteArray} (h : ps.length ≠ qs.length) : sEq ps qs = false := by
  unfold sEq; exact decide_eq_false fun e => h (by rw [e])
theorem sEq_ne {ps qs : List ByteArray} {k : Nat} (h : ps.getD k ByteArray.empty ≠ qs.getD k ByteArray.empty) : sEq ps qs = false := by
  unfold sEq; exact decide_eq_false fun e => h (by rw [e])

set_option maxHeartbeats 800000 in
set_option maxRecDepth 100000 in
theorem stringsEqual_any (a1 a2 : Option Addr) (cap1 cap2 : Nat) (ps qs : List ByteArray) (w : World) (hr1 : RdS w a1 ps) (hr2 : RdS w a2 qs) (_hl1 : ps.length ≤ 2097152) (hl2 : qs.length ≤ 2097152) :
    Calls Try.prog 23 #[.slice a1 ps.length cap1, .slice a2 qs.length cap2] w fun e w' => e = .returned (.bool (sEq ps qs)) ∧ Below w.heap.size w w' := by
  by_cases hle : ps.length = qs.length
  · have HO1 : Hid _ := hr1.open
    have HO2 : Hid _ := hr2.open
    have HLE : Hid _ := hle
    have hle1 : ps.length ≤ qs.length := by omega
    rw [hle]
    clear hr1 hr2 hle
    go_enter Try.func23, Try.ntmps23
    go_wp2
    go_loopw [5] (fun i wr => ∃ k : Nat, k ≤ qs.length ∧ i = .int .i64 k ∧ Hid (ps.take k = qs.take k) ∧ Below w.heap.size w wr) (fun i _ => qs.length - (intOf i).toNat)
    case atStart => exact ⟨0, Nat.zero_le _, rfl, by show ps.take 0 = qs.take 0; simp, Below.refl _ _⟩
    case round =>
      obtain ⟨k, hk, rfl, hno, hB⟩ := hrel
      by_cases hlt : k < qs.length
      · have hlt1 : k < ps.length := by have := HLE.out; omega
        rcases HO1.out with h0 | ⟨b1, off1, rfl, hb1, hc1⟩
        · simp [h0] at hlt1
        · rcases HO2.out with h0 | ⟨b2, off2, rfl, hb2, hc2⟩
          · simp [h0] at hlt
          · obtain ⟨x, hx⟩ : ∃ x, ps.getD k ByteArray.empty = x := ⟨_, rfl⟩
            obtain ⟨y, hy⟩ : ∃ y, qs.getD k ByteArray.empty = y := ⟨_, rfl⟩
            have hcx : wr.cell? ⟨b1, off1 + k, none⟩ = some (.string x) := by rw [← hx]; exact (hB.cell hb1).trans (hc1 k hlt1)
            have hcy : wr.cell? ⟨b2, off2 + k, none⟩ = some (.string y) := by rw [← hy]; exact (hB.cell hb2).trans (hc2 k hlt)
            have HX : Hid _ := hx
            have HY : Hid _ := hy
            have hlti : (k : Int) < (qs.length : Int) := by omega
            clear hc1 hc2 hx hy HO1 HO2
            by_cases hxy : x = y
            · subst hxy
              go_wp2_with fail
              go_quiet (fail)
              go_wp2
              go_roundw
              case rel =>
                refine ⟨k + 1, by omega, by go_num, ?_, below_drewN hB _⟩
                show ps.take (k + 1) = qs.take (k + 1)
                rw [take_succ' ps ByteArray.empty k hlt1, take_succ' qs ByteArray.empty k hlt, hno.out, HX.out, HY.out]
              case measure => simp [intOf]; omega
            · have hb := sz_ne hxy
              have HXY : Hid _ := hxy
              clear hxy
              go_wp2_with fail
              go_quiet (fail)
              go_wp2
              go_ret
              exact ⟨ret_bool (sEq_ne (k := k) (by rw [HX.out, HY.out]; exact HXY.out)).symm, below_drewN hB _⟩
      · go_wp2
        go_ret
        have : k = qs.length := by omega
        subst this
        refine ⟨ret_bool (sEq_true ?_).symm, hB⟩
        have h := hno.out
        rw [List.take_length] at h
        rwa [List.take_of_length_le hle1] at h
  · have hb : ((ps.length : Int) == (qs.length : Int)) = false := by simp; omega
    go_enter Try.func23, Try.ntmps23
    go_wp2
    go_ret
    exact ⟨ret_bool (sEq_len hle).symm, Below.refl _ _⟩

set_option maxHeartbeats 800000 in
set_option maxRecDepth 100000 in
theorem strBytes_any (a : Option Addr) (n cap : Nat) (T : Int) (ss : List ByteArray) (w : World) (hn : ss.length = n) (hr : RdS w a ss) (hl : ss.length ≤ 1048576) (hT0 : 0 ≤ T) (hT1 : T ≤ 1048576) :
    Calls Try.prog 21 #[.int .i64 T, .slice a n cap] w fun e w' => ∃ r : Int, e = .returned (.int .i64 r) ∧ 0 ≤ r ∧ w = w' := by
  subst hn
  have HO : Hid _ := hr.open
  clear hr
  go_enter Try.func21, Try.ntmps21
  go_wp2
  go_loop [0, 5] (fun t i => ∃ (k : Nat) (U : Int), k ≤ ss.length ∧ 0 ≤ U ∧ U ≤ 1048576 ∧ t = .int .i64 U ∧ i = .int .i64 k) (fun _ i => ss.length - (intOf i).toNat)
  case atStart => exact ⟨0, T, Nat.zero_le _, hT0, hT1, rfl, rfl⟩
  case round =>
    obtain ⟨k, U, hk, hU0, hU1, rfl, rfl⟩ := hrel
    by_cases hlt : k < ss.length
    · rcases HO.out with h0 | ⟨b, off, rfl, hb, hc⟩
      · simp [h0] at hlt
      · obtain ⟨x, hx⟩ : ∃ x, ss.getD k ByteArray.empty = x := ⟨_, rfl⟩
        have hcx : w.cell? ⟨b, off + k, none⟩ = some (.string x) := by rw [← hx]; exact hc k hlt
        clear hc hx HO
        by_cases hbig : 1048576 < x.size
        · go_wp2
          go_ret
          exact ⟨_, rfl, by omega, rfl⟩
        · by_cases hsum : 1048576 < U + (16 + (x.size : Int))
          · go_wp2
            go_ret
            exact ⟨_, rfl, by omega, rfl⟩
          · go_wp2
            go_round
            case rel => exact ⟨k + 1, U + (16 + (x.size : Int)), by omega, by omega, by omega, rfl, by go_num⟩
            case measure => simp [intOf]; omega
    · go_wp2
      go_ret
      exact ⟨_, rfl, by omega, rfl⟩

theorem take_app' (xs ys : List ByteArray) (k : Nat) (hk : k < ys.length) : xs ++ ys.take (k + 1) = xs ++ ys.take k ++ [ys.getD k ByteArray.empty] := by
  rw [take_succ' ys ByteArray.empty k hk, List.append_assoc]

set_option maxHeartbeats 1600000 in
set_option maxRecDepth 100000 in
theorem joinS_any (a1 a2 : Option Addr) (n1 n2 cap1 cap2 : Nat) (xs ys : List ByteArray) (w : World) (hn1 : xs.length = n1) (hn2 : ys.length = n2) (hr1 : RdS w a1 xs) (hr2 : RdS w a2 ys) (hl1 : xs.length ≤ 1048576) (hl2 : ys.length ≤ 1048576) :
    Calls Try.prog 25 #[.slice a1 n1 cap1, .slice a2 n2 cap2] w fun e w' => ∃ a' cap', e = .returned (.slice a' (xs ++ ys).length cap') ∧ RdS w' a' (xs ++ ys) ∧ Below w.heap.size w w' := by
  subst hn1; subst hn2
  obtain ⟨i0, hi, hz0, hz1, hz2⟩ := info_parts Try.info9
  have HO1 : Hid _ := hr1.open
  have HO2 : Hid _ := hr2.open
  clear hr1 hr2
  go_enter Try.func25, Try.ntmps25
  go_wp2_with (at_make; refine wpList_make_own _ rfl _ _ 32 rfl w.heap.size 9 i0 (.string ByteArray.empty) 1 Try.underlying32 hi hz0 hz1 _ _ _ (xs.length + ys.length) rfl rfl (by omega) (by rw [hz2]; omega) (by unfold maxLen; omega) (Nat.le_refl _) ?_; intro w1 hown1 hgrow1)
  have hB1 : Below w.heap.size w w1 := (Below.refl _ _).grown hgrow1 (Nat.le_refl _) (fun k hk => by cases hk)
  clear hgrow1
  go_loopw [5, 6] (fun v i wr => ∃ k : Nat, k ≤ xs.length ∧ i = .int .i64 k ∧ wr.ownsRow w.heap.size 9 1 v (xs.take k).length ((xs.take k).map Value.string) ∧ Below w.heap.size w wr) (fun _ i _ => xs.length - (intOf i).toNat)
  case atStart => exact ⟨0, Nat.zero_le _, rfl, hown1, hB1⟩
  case round =>
    clear hown1 hB1
    obtain ⟨k, hk, rfl, hown, hnx⟩ := hrel
    have hlk : (xs.take k).length ≤ 1048576 := by simp; omega
    by_cases hlt : k < xs.length
    · rcases HO1.out with h0 | ⟨b, off, rfl, hb, hc⟩
      · simp [h0] at hlt
      · obtain ⟨x, hx⟩ : ∃ x, xs.getD k ByteArray.empty = x := ⟨_, rfl⟩
        have hcx : wr.cell? ⟨b, off + k, none⟩ = some (.string x) := by rw [← hx]; exact (hnx.cell hb).trans (hc k hlt)
        have HX : Hid _ := hx
        obtain ⟨L, hL⟩ : ∃ L, xs.take k = L := ⟨_, rfl⟩
        rw [hL] at hown hlk
        have HL : Hid _ := hL
        clear HO1 HO2 hc hx hL
        go_wp2_with (first
          | (at_builtin; refine wpList_append_own _ rfl _ _ 32 rfl w.heap.size 9 i0 (.string ByteArray.empty) 1 16 Try.underlying32 hi hz0 hz1 hz2 rfl (by decide) _ _ _ rfl (hown.alloc _) ⟨wr.heap.size, 0, none⟩ 1 1 [.string x] rfl rfl (cell_one_new _ _ _) (strs_oneCell [x]) (by unfold maxLen; omega) (by omega) (by have := hnx.size; simp; omega) ?_; intro v' w2 hown' hgrow hnil))
        go_roundw
        case rel =>
          refine ⟨k + 1, by omega, by go_num, ?_, ?_⟩
          · rw [take_succ' xs ByteArray.empty k hlt, HX.out, HL.out]; simpa using hown'
          · exact (hnx.alloc hnx.size _).grown hgrow (by have := hnx.size; simp; omega) (fun j hj => (hown.lt j hj).1)
        case measure => simp [intOf]; omega
    · obtain rfl : k = xs.length := by omega
      rw [List.take_length] at hown
      have hown0 : wr.ownsRow w.heap.size 9 1 u5 (xs ++ ys.take 0).length ((xs ++ ys.take 0).map Value.string) := by simpa using hown
      clear hk hlt hown hlk
      go_wp2_with fail
      obtain ⟨wo, rfl⟩ : ∃ wo : World, wo = wr := ⟨_, rfl⟩
      go_loopw [5, 7] (fun v i wr => ∃ k : Nat, k ≤ ys.length ∧ i = .int .i64 k ∧ wr.ownsRow w.heap.size 9 1 v (xs ++ ys.take k).length ((xs ++ ys.take k).map Value.string) ∧ Below w.heap.size w wr) (fun _ i _ => ys.length - (intOf i).toNat)
      case atStart => exact ⟨0, Nat.zero_le _, rfl, hown0, hnx⟩
      case round =>
        clear hown0 hnx
        obtain ⟨k, hk, rfl, hown, hnx⟩ := hrel
        have hlk : (xs ++ ys.take k).length ≤ 2097152 := by simp; omega
        by_cases hlt : k < ys.length
        · rcases HO2.out with h0 | ⟨b, off, rfl, hb, hc⟩
          · simp [h0] at hlt
          · obtain ⟨x, hx⟩ : ∃ x, ys.getD k ByteArray.empty = x := ⟨_, rfl⟩
            have hcx : wr.cell? ⟨b, off + k, none⟩ = some (.string x) := by rw [← hx]; exact (hnx.cell hb).trans (hc k hlt)
            have HX : Hid _ := hx
            obtain ⟨L, hL⟩ : ∃ L, xs ++ ys.take k = L := ⟨_, rfl⟩
            rw [hL] at hown hlk
            have HL : Hid _ := hL
            clear HO1 HO2 hc hx hL
            go_wp2_with (first
              | (at_builtin; refine wpList_append_own _ rfl _ _ 32 rfl w.heap.size 9 i0 (.string ByteArray.empty) 1 16 Try.underlying32 hi hz0 hz1 hz2 rfl (by decide) _ _ _ rfl (hown.alloc _) ⟨wr.heap.size, 0, none⟩ 1 1 [.string x] rfl rfl (cell_one_new _ _ _) (strs_oneCell [x]) (by unfold maxLen; omega) (by omega) (by have := hnx.size; simp; omega) ?_; intro v' w2 hown' hgrow hnil))
            go_roundw
            case rel =>
              refine ⟨k + 1, by omega, by go_num, ?_, ?_⟩
              · rw [take_app' xs ys k hlt, HX.out, HL.out]; simpa using hown'
              · exact (hnx.alloc hnx.size _).grown hgrow (by have := hnx.size; simp; omega) (fun j hj => (hown.lt j hj).1)
            case measure => simp [intOf]; omega
        · obtain rfl : k = ys.length := by omega
          rw [List.take_length] at hown
          go_wp2
          obtain ⟨a', cap', rfl, hrd, hl⟩ := Rd.owned hown
          go_ret
          exact ⟨a', cap', rfl, hrd, hnx⟩


/-- How a bound on bytes ends: it says no; or it says yes, and both lengths are small. -/
def Told (n1 n2 : Nat) (w : World) (e : Ending) (w' : World) : Prop := w = w' ∧ (e = .returned (.bool false) ∨ e = .returned (.bool true) ∧ n1 ≤ 1048576 ∧ n2 ≤ 1048576)
theorem Told.no {n1 n2 : Nat} {w w' : World} {e : Ending} (h : e = .returned (.bool false)) (hw : w = w') : Told n1 n2 w e w' := ⟨hw, .inl h⟩
theorem Told.yes {n1 n2 : Nat} {w w' : World} {e : Ending} (h : e = .returned (.bool true)) (h1 : n1 ≤ 1048576) (h2 : n2 ≤ 1048576) (hw : w = w') : Told n1 n2 w e w' := ⟨hw, .inr ⟨h, h1, h2⟩⟩

set_option maxHeartbeats 1600000 in
set_option maxRecDepth 100000 in
theorem bytes20 (a1 a2 : Option Addr) (n1 n2 cap1 cap2 : Nat) (k0 : Int) (ps qs : List ByteArray) (w : World) (hn1 : ps.length = n1) (hn2 : qs.length = n2) (hr1 : RdS w a1 ps) (hr2 : RdS w a2 qs) (hm1 : n1 ≤ maxLen) (hm2 : n2 ≤ maxLen) :
    Calls Try.prog 20 #[.slice a1 n1 cap1, .slice a2 n2 cap2, .int .i64 k0] w fun e w' => Told n1 n2 w e w' := by
  subst hn1; subst hn2
  unfold maxLen at hm1 hm2
  by_cases hb1 : 1048576 < ps.length
  · go_enter Try.func20, Try.ntmps20
    go_wp2
    go_ret
    exact Told.no rfl rfl
  · have HO1 : Hid _ := hr1.open
    have HO2 : Hid _ := hr2.open
    clear hr1 hr2
    go_enter Try.func20, Try.ntmps20
    go_wp2
    go_loop [7, 8] (fun t i => ∃ (k : Nat) (U : Int), k ≤ ps.length ∧ 0 ≤ U ∧ U ≤ 1048576 ∧ t = .int .i64 U ∧ i = .int .i64 k) (fun _ i => ps.length - (intOf i).toNat)
    case atStart => exact ⟨0, _, Nat.zero_le _, by omega, by omega, rfl, rfl⟩
    case round =>
      obtain ⟨k, U, hk, hU0, hU1, rfl, rfl⟩ := hrel
      by_cases hlt : k < ps.length
      · rcases HO1.out with h0 | ⟨b, off, rfl, hb, hc⟩
        · simp [h0] at hlt
        · obtain ⟨x, hx⟩ : ∃ x, ps.getD k ByteArray.empty = x := ⟨_, rfl⟩
          have hcx : w.cell? ⟨b, off + k, none⟩ = some (.string x) := by rw [← hx]; exact hc k hlt
          clear hc hx HO1 HO2
          by_cases hbig : 1048576 < x.size
          · go_wp2
            go_ret
            exact Told.no rfl rfl
          · by_cases hsum : 1048576 < U + (x.size : Int)
            · go_wp2
              go_ret
              exact Told.no rfl rfl
            · go_wp2
              go_round
              case rel => exact ⟨k + 1, U + (x.size : Int), by omega, by omega, by omega, rfl, by go_num⟩
              case measure => simp [intOf]; omega
      · obtain rfl : k = ps.length := by omega
        clear hk hlt
        by_cases hb2 : 1048576 < qs.length
        · go_wp2
          go_ret
          exact Told.no rfl rfl
        · by_cases hs2 : 1048576 < U + (qs.length : Int)
          · go_wp2
            go_ret
            exact Told.no rfl rfl
          · go_wp2_with fail
            go_loop [7, 9] (fun t i => ∃ (k : Nat) (V : Int), k ≤ qs.length ∧ 0 ≤ V ∧ V ≤ 1048576 ∧ t = .int .i64 V ∧ i = .int .i64 k) (fun _ i => qs.length - (intOf i).toNat)
            case atStart => exact ⟨0, _, Nat.zero_le _, by omega, by omega, rfl, rfl⟩
            case round =>
              obtain ⟨k, V, hk, hV0, hV1, rfl, rfl⟩ := hrel
              by_cases hlt : k < qs.length
              · rcases HO2.out with h0 | ⟨b, off, rfl, hb, hc⟩
                · simp [h0] at hlt
                · obtain ⟨x, hx⟩ : ∃ x, qs.getD k ByteArray.empty = x := ⟨_, rfl⟩
                  have hcx : w.cell? ⟨b, off + k, none⟩ = some (.string x) := by rw [← hx]; exact hc k hlt
                  clear hc hx HO1 HO2
                  by_cases hbig : 1048576 < x.size
                  · go_wp2
                    go_ret
                    exact Told.no rfl rfl
                  · by_cases hsum : 1048576 < V + (x.size : Int)
                    · go_wp2
                      go_ret
                      exact Told.no rfl rfl
                    · go_wp2
                      go_round
                      case rel => exact ⟨k + 1, V + (x.size : Int), by omega, by omega, by omega, rfl, by go_num⟩
                      case measure => simp [intOf]; omega
              · go_wp2
                go_ret
                exact Told.yes rfl (by omega) (by omega) rfl

set_option maxHeartbeats 1600000 in
set_option maxRecDepth 100000 in
theorem bytes24 (a1 a2 : Option Addr) (n1 n2 cap1 cap2 : Nat) (ps qs : List ByteArray) (w : World) (hn1 : ps.length = n1) (hn2 : qs.length = n2) (hr1 : RdS w a1 ps) (hr2 : RdS w a2 qs) (hm1 : n1 ≤ maxLen) (hm2 : n2 ≤ maxLen) :
    Calls Try.prog 24 #[.slice a1 n1 cap1, .slice a2 n2 cap2] w fun e w' => Told n1 n2 w e w' := by
  subst hn1; subst hn2
  unfold maxLen at hm1 hm2
  by_cases hb1 : 1048576 < ps.length
  · go_enter Try.func24, Try.ntmps24
    go_wp2
    go_ret
    exact Told.no rfl rfl
  · have HO1 : Hid _ := hr1.open
    have HO2 : Hid _ := hr2.open
    clear hr1 hr2
    go_enter Try.func24, Try.ntmps24
    go_wp2
    go_loop [5, 6] (fun t i => ∃ (k : Nat) (U : Int), k ≤ ps.length ∧ 0 ≤ U ∧ U ≤ 1048576 ∧ t = .int .i64 U ∧ i = .int .i64 k) (fun _ i => ps.length - (intOf i).toNat)
    case atStart => exact ⟨0, _, Nat.zero_le _, by omega, by omega, rfl, rfl⟩
    case round =>
      obtain ⟨k, U, hk, hU0, hU1, rfl, rfl⟩ := hrel
      by_cases hlt : k < ps.length
      · rcases HO1.out with h0 | ⟨b, off, rfl, hb, hc⟩
        · simp [h0] at hlt
        · obtain ⟨x, hx⟩ : ∃ x, ps.getD k ByteArray.empty = x := ⟨_, rfl⟩
          have hcx : w.cell? ⟨b, off + k, none⟩ = some (.string x) := by rw [← hx]; exact hc k hlt
          clear hc hx HO1 HO2
          by_cases hbig : 1048576 < x.size
          · go_wp2
            go_ret
            exact Told.no rfl rfl
          · by_cases hsum : 1048576 < U + (x.size : Int)
            · go_wp2
              go_ret
              exact Told.no rfl rfl
            · go_wp2
              go_round
              case rel => exact ⟨k + 1, U + (x.size : Int), by omega, by omega, by omega, rfl, by go_num⟩
              case measure => simp [intOf]; omega
      · obtain rfl : k = ps.length := by omega
        clear hk hlt
        by_cases hb2 : 1048576 < qs.length
        · go_wp2
          go_ret
          exact Told.no rfl rfl
        · by_cases hs2 : 1048576 < U + (qs.length : Int)
          · go_wp2
            go_ret
            exact Told.no rfl rfl
          · go_wp2_with fail
            go_loop [5, 7] (fun t i => ∃ (k : Nat) (V : Int), k ≤ qs.length ∧ 0 ≤ V ∧ V ≤ 1048576 ∧ t = .int .i64 V ∧ i = .int .i64 k) (fun _ i => qs.length - (intOf i).toNat)
            case atStart => exact ⟨0, _, Nat.zero_le _, by omega, by omega, rfl, rfl⟩
            case round =>
              obtain ⟨k, V, hk, hV0, hV1, rfl, rfl⟩ := hrel
              by_cases hlt : k < qs.length
              · rcases HO2.out with h0 | ⟨b, off, rfl, hb, hc⟩
                · simp [h0] at hlt
                · obtain ⟨x, hx⟩ : ∃ x, qs.getD k ByteArray.empty = x := ⟨_, rfl⟩
                  have hcx : w.cell? ⟨b, off + k, none⟩ = some (.string x) := by rw [← hx]; exact hc k hlt
                  clear hc hx HO1 HO2
                  by_cases hbig : 1048576 < x.size
                  · go_wp2
                    go_ret
                    exact Told.no rfl rfl
                  · by_cases hsum : 1048576 < V + (x.size : Int)
                    · go_wp2
                      go_ret
                      exact Told.no rfl rfl
                    · go_wp2
                      go_round
                      case rel => exact ⟨k + 1, V + (x.size : Int), by omega, by omega, by omega, rfl, by go_num⟩
                      case measure => simp [intOf]; omega
              · go_wp2
                go_ret
                exact Told.yes rfl (by omega) (by omega) rfl

end Go.Proofs.Qxb6617194a
