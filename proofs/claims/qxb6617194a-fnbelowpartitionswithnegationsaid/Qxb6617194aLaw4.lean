/-
  The walk of FnBelowPartitionsWithNegation (4).
-/
import Derived.Test.Qxb6617194aBelow
import Derived.Deep.DeepCutAuto
import Derived.Deep.CutBlock
import Derived.Deep.QuietTactic
import Derived.BigQuiet
import Derived.WalkSmall
namespace Go.Proofs.Qxb6617194a
open Go.RowKit

theorem bytes14 (a : Option Addr) (n cap : Nat) (f : Int) (w : World) : n ≤ 1048576 →
    Calls Try.prog 14 #[.slice a n cap, .int .i64 f] w fun e w' => e = .returned (.bool true) ∧ w = w' := by
  intro h
  go_enter Try.func14, Try.ntmps14
  go_wp2
  go_ret
  exact ⟨rfl, rfl⟩

theorem bytes14_no (a : Option Addr) (n cap : Nat) (f : Int) (w : World) (h : 1048576 < n) (hm : n ≤ maxLen) :
    Calls Try.prog 14 #[.slice a n cap, .int .i64 f] w fun e w' => e = .returned (.bool false) ∧ w = w' := by
  unfold maxLen at hm
  go_enter Try.func14, Try.ntmps14
  go_wp2
  go_ret
  exact ⟨rfl, rfl⟩

/-- No number among the first k is the least one. -/
def noMin (zs : List Int) (k : Nat) : Prop := ∀ x ∈ zs.take k, x ≠ -9223372036854775808
theorem noMin_zero (zs : List Int) : noMin zs 0 := by simp [noMin]
theorem noMin_succ {zs : List Int} {k : Nat} (hk : k < zs.length) {x : Int} (hx : zs.getD k 0 = x) (h : noMin zs k) (h' : (x == -9223372036854775808) = false) : noMin zs (k + 1) := by
  intro y hy
  rw [take_succ' zs 0 k hk] at hy
  rcases List.mem_append.1 hy with hy | hy
  · exact h y hy
  · simp only [List.mem_singleton] at hy; rw [hy, hx]; simpa using h'
theorem noMin_all {zs : List Int} (h : noMin zs zs.length) : ∀ x ∈ zs, x ≠ -9223372036854775808 := by
  unfold noMin at h; rwa [List.take_length] at h

/-- The cells of 'neg' behind k rounds. -/
def ng (zs : List Int) (k : Nat) : List Value := (((zs.take k).map (fun x => -x)) ++ List.replicate (zs.length - k) 0).map (Value.int .i64)
theorem ng_length (zs : List Int) (k : Nat) (hk : k ≤ zs.length) : (ng zs k).length = zs.length := by simp [ng]; omega
theorem ng_zero (zs : List Int) : (madeCells (Value.int .i64 0).cells (zs.length * 1)).toList = ng zs 0 := by
  rw [Nat.mul_one, show (Value.int .i64 0).cells = #[.int .i64 0] from rfl, toList_madeCells_one]; simp [ng]
theorem ng_set (zs : List Int) (k : Nat) (hk : k < zs.length) {x : Int} (hx : zs.getD k 0 = x) : (ng zs k).set k (.int .i64 (-x)) = ng zs (k + 1) := by
  have e : zs.length - k = (zs.length - (k + 1)) + 1 := by omega
  unfold ng
  rw [take_succ' zs 0 k hk, hx, e, List.replicate_succ]
  simp only [List.map_append, List.map_cons, List.map_nil, List.append_assoc, List.cons_append, List.nil_append]
  rw [List.set_append_right _ _ (by simp; omega)]
  have e2 : k - ((zs.take k).map (fun x => -x) |>.map (Value.int IntKind.i64)).length = 0 := by simp; omega
  rw [e2, List.set_cons_zero]
theorem ng_all (zs : List Int) : ng zs zs.length = (zs.map (fun x => -x)).map (Value.int .i64) := by simp [ng]
theorem ng_cell (zs : List Int) (k : Nat) (hk : k < zs.length) : ∃ v, (ng zs k)[k]? = some v := by
  exact ⟨_, List.getElem?_eq_getElem (by rw [ng_length zs k (by omega)]; exact hk)⟩

/-- What 'below' keeps of the negated numbers: the negations of those at or over f. -/
theorem bel_neg (f : Int) : ∀ zs : List Int, bel (1 - f) (zs.map (fun x => -x)) = (zs.filter (fun x => !decide (x < f))).map (fun x => -x)
  | [] => rfl
  | x :: r => by
    have ih := bel_neg f r
    unfold bel at ih ⊢
    by_cases h : x < f
    · rw [List.map_cons, List.filter_cons_of_neg (by simp; omega), List.filter_cons_of_neg (by simp; omega)]; exact ih
    · rw [List.map_cons, List.filter_cons_of_pos (by simp; omega), List.filter_cons_of_pos (by simp; omega), List.map_cons, ih]

/-- The numbers at or over f among the first m. -/
def ovr (f : Int) (zs : List Int) : List Int := zs.filter (fun x => !decide (x < f))
theorem ovr_hit (f : Int) (zs : List Int) (k : Nat) (hk : k < zs.length) {x : Int} (hx : zs.getD k 0 = x) (h : f ≤ x) : (ovr f (zs.take (k + 1))).length = (ovr f (zs.take k)).length + 1 := by
  rw [take_succ' zs 0 k hk, hx]; unfold ovr; rw [List.filter_append, List.filter_cons_of_pos (by simp; omega)]; simp
theorem ovr_miss (f : Int) (zs : List Int) (k : Nat) (hk : k < zs.length) {x : Int} (hx : zs.getD k 0 = x) (h : x < f) : (ovr f (zs.take (k + 1))).length = (ovr f (zs.take k)).length := by
  rw [take_succ' zs 0 k hk, hx]; unfold ovr; rw [List.filter_append, List.filter_cons_of_neg (by simp; omega)]; simp
theorem neg_length (f : Int) (zs : List Int) : (bel (1 - f) (zs.map (fun x => -x))).length = (ovr f zs).length := by rw [bel_neg, List.length_map]; rfl

/-- What is known of the two counts behind m rounds. -/
def cnt (f : Int) (zs : List Int) (m J K : Nat) : Prop := J = (bel f (zs.take m)).length ∧ K = (ovr f (zs.take m)).length
theorem cnt_zero (f : Int) (zs : List Int) : cnt f zs 0 0 0 := by simp [cnt, bel, ovr]
theorem cnt_under {f : Int} {zs : List Int} {m J K : Nat} (hm : m < zs.length) {x : Int} (hx : zs.getD m 0 = x) (h : x < f) (hc : cnt f zs m J K) :
    J < (bel f zs).length ∧ (bel f zs).getD J 0 = x ∧ cnt f zs (m + 1) (J + 1) K := by
  obtain ⟨rfl, rfl⟩ := hc
  have := filter_at (fun x => decide (x < f)) zs m hm (by rw [hx]; simpa using h)
  refine ⟨this.2, this.1.trans hx, ?_, (ovr_miss f zs m hm hx h).symm⟩
  rw [bel_hit f zs m hm (by rw [hx]; exact h)]; simp
theorem cnt_over {f : Int} {zs : List Int} {m J K : Nat} (hm : m < zs.length) {x : Int} (hx : zs.getD m 0 = x) (h : f ≤ x) (hc : cnt f zs m J K) :
    K < (bel (1 - f) (zs.map (fun x => -x))).length ∧ (bel (1 - f) (zs.map (fun x => -x))).getD K 0 = -x ∧ cnt f zs (m + 1) J (K + 1) := by
  obtain ⟨rfl, rfl⟩ := hc
  have := filter_at (fun x => !decide (x < f)) zs m hm (by rw [hx]; simp; omega)
  refine ⟨by rw [neg_length]; exact this.2, ?_, ?_, ?_⟩
  · have h2 := this.1.trans hx
    rw [bel_neg]
    have h3 : (zs.filter (fun x => !decide (x < f)))[(ovr f (zs.take m)).length]? = some x := by
      show (zs.filter (fun x => !decide (x < f)))[((zs.take m).filter (fun x => !decide (x < f))).length]? = some x
      rw [List.getElem?_eq_getElem this.2]
      rw [List.getD, List.getElem?_eq_getElem this.2] at h2
      exact congrArg some h2
    simp [List.getD, h3]
  · rw [bel_miss f zs m hm (by rw [hx]; omega)]
  · exact (ovr_hit f zs m hm hx h).symm
theorem cnt_all {f : Int} {zs : List Int} {J K : Nat} (hc : cnt f zs zs.length J K) : J = (bel f zs).length ∧ K = (bel (1 - f) (zs.map (fun x => -x))).length := by
  unfold cnt at hc; rw [List.take_length] at hc; rw [neg_length]; exact hc
theorem neg_mem {f : Int} {zs : List Int} (hN : ∀ x ∈ zs, x ≠ -9223372036854775808) (hW : ∀ x ∈ zs, -9223372036854775808 ≤ x ∧ x ≤ 9223372036854775807) {v : Int} (h : v ∈ bel (1 - f) (zs.map (fun x => -x))) :
    -9223372036854775807 ≤ v ∧ v ≤ 9223372036854775807 ∧ f ≤ -v := by
  obtain ⟨h1, h2⟩ := bel_mem h
  obtain ⟨x, hx, rfl⟩ := List.mem_map.1 h1
  have := hN x hx
  have := hW x hx
  omega

set_option maxHeartbeats 800000 in
set_option maxRecDepth 100000 in
theorem law4_big (a : Option Addr) (n cap : Nat) (f : Int) (w : World) (h : 65536 < n) (hm : n ≤ maxLen) :
    Calls Try.prog 4 #[.slice a n cap, .int .i64 f] w fun e w' => e = .returned (.bool true) ∧ Below w.heap.size w w' := by
  by_cases hb : 1048576 < n
  · go_enter Try.func4, Try.ntmps4
    go_wp2_with (go_at_call 14; refine (bytes14_no _ _ _ _ _ hb hm).mono ?_; rintro e w' ⟨rfl, rfl⟩)
    go_ret
    exact ⟨rfl, Below.refl _ _⟩
  · unfold maxLen at hm
    go_enter Try.func4, Try.ntmps4
    go_wp2_with (go_at_call 14; refine (bytes14 _ _ _ _ _ (by omega)).mono ?_; rintro e w' ⟨rfl, rfl⟩)
    go_ret
    exact ⟨rfl, Below.refl _ _⟩

set_option maxHeartbeats 800000 in
set_option maxRecDepth 100000 in
theorem law4_small (a : Option Addr) (cap : Nat) (zs : List Int) (f : Int) (w : World) (hr : RdI w a zs) (hlen : zs.length ≤ 65536) (hwz : ∀ x ∈ zs, -9223372036854775808 ≤ x ∧ x ≤ 9223372036854775807) (hf2 : f ≤ 9223372036854775807) :
    Calls Try.prog 4 #[.slice a zs.length cap, .int .i64 f] w fun e w' => e = .returned (.bool true) ∧ Below w.heap.size w w' := by
  have HW : Hid _ := hwz
  clear hwz
  obtain ⟨i0, hi, hz0, hz1, hz2⟩ := info_parts Try.info3
  have hnn : ∀ (w : World) (a : Option Addr) (n c n' c' : Nat), (binOp .neq 22 (.slice a n c) (.slice none n' c')).run Try.prog w = .ok (.bool (!a.isNone)) w := fun w a n c n' c' => run_neq_slice_nil_any w _ _ a n c n' c' Try.underlying22
  go_enter Try.func4, Try.ntmps4
  go_upto_if 25 with (go_at_call 14; refine (bytes14 _ _ _ _ _ (by omega)).mono ?_; rintro e w' ⟨rfl, rfl⟩)
  go_cut [0] (fun v wr => ∃ a' cap', v = .slice a' zs.length cap' ∧ RdI wr a' zs ∧ Below w.heap.size w wr)
  case first =>
    cases a with
    | none =>
      go_wp2
      go_meet
      case rel => exact ⟨none, cap, rfl, hr, Below.refl _ _⟩
    | some x =>
      go_wp2_with (first
        | (at_make; refine wpList_make_full _ rfl _ _ 22 rfl w.heap.size 3 i0 (.int .i64 0) 1 Try.underlying22 hi hz0 hz1 _ _ _ _ zs.length rfl rfl rfl rfl (by rw [hz2]; omega) (by unfold maxLen; omega) (Nat.le_refl _) ?_; intro w1 hown1 hgrow1)
        | (refine wpList_copy_all rfl (.tmp 29) (.tmp 30) 22 rfl 3 Try.underlying22 (by rw [hi]; simp [hz1]) w.heap.size _ _ _ _ _ rfl rfl _ (zs.map (Value.int .i64)) hown1 (Rd.below hr ((Below.refl _ _).grown hgrow1 (Nat.le_refl _) (fun k hk => by cases hk))) (by simp) (ints_oneCell _ _) ?_; intro w2 hown2 hgrow2))
      go_meet
      case rel =>
        obtain ⟨a', cap', hv, hrd, _⟩ := Rd.owned hown2
        exact ⟨_, _, rfl, by cases hv; exact hrd, ((Below.refl _ _).grown hgrow1 (Nat.le_refl _) (fun k hk => by cases hk)).grown hgrow2 hgrow1.size (fun k hk => by cases hk; exact Nat.le_refl _)⟩
  case rest =>
    obtain ⟨a1, cap1, rfl, hr1, hB1⟩ := hcut
    clear hr
    by_cases hf : f < -9223372036854775806
    · go_wp2
      go_ret
      exact ⟨rfl, hB1⟩
    · have HO : Hid _ := hr1.open
      have HR : Hid (RdI wc a1 zs) := hr1
      clear hr1
      go_wp2_with go_in
      go_loop [7] (fun i => ∃ k : Nat, k ≤ zs.length ∧ i = .int .i64 k ∧ Hid (noMin zs k)) (fun i => zs.length - (intOf i).toNat)
      case atStart => exact ⟨0, Nat.zero_le _, rfl, noMin_zero zs⟩
      case round =>
        obtain ⟨k, hk, rfl, hno⟩ := hrel
        by_cases hlt : k < zs.length
        · rcases HO.out with h0 | ⟨b, off, rfl, hb, hc⟩
          · simp [h0] at hlt
          · obtain ⟨x, hx⟩ : ∃ x, zs.getD k 0 = x := ⟨_, rfl⟩
            have hcx : wc.cell? ⟨b, off + k, none⟩ = some (.int .i64 x) := by rw [← hx]; exact hc k hlt
            have HX : Hid _ := hx
            clear HO hc hx
            go_wp2
            · go_ret
              exact ⟨rfl, hB1⟩
            · go_round
              case rel => exact ⟨k + 1, by omega, by go_num, noMin_succ hlt HX.out hno.out (by assumption)⟩
              case measure => simp [intOf]; omega
        · obtain rfl : k = zs.length := by omega
          have HN : Hid _ := noMin_all hno.out
          clear hno hk hlt
          go_wp2_with (at_make; refine wpList_make_full _ rfl _ _ 22 rfl wc.heap.size 3 i0 (.int .i64 0) 1 Try.underlying22 hi hz0 hz1 _ _ _ _ zs.length rfl rfl rfl rfl (by rw [hz2]; omega) (by unfold maxLen; omega) (Nat.le_refl _) ?_; intro w1 hown1 hgrow1)
          have hBw1 : Below wc.heap.size wc w1 := (Below.refl _ _).grown hgrow1 (Nat.le_refl _) (fun k hk => by cases hk)
          have hown0 : w1.ownsRow wc.heap.size 3 1 (.slice (some ⟨wc.heap.size, 0, none⟩) zs.length zs.length) zs.length (ng zs 0) := by rw [← ng_zero]; exact hown1
          clear hown1 hgrow1
          go_loopw [9] (fun i wr => ∃ k : Nat, k ≤ zs.length ∧ i = .int .i64 k ∧ wr.ownsRow wc.heap.size 3 1 (.slice (some ⟨wc.heap.size, 0, none⟩) zs.length zs.length) zs.length (ng zs k) ∧ Below wc.heap.size wc wr) (fun i _ => zs.length - (intOf i).toNat)
          case atStart => exact ⟨0, Nat.zero_le _, rfl, hown0, hBw1⟩
          case round =>
            clear hown0 hBw1
            obtain ⟨k, hk, rfl, hown, hBr⟩ := hrel
            by_cases hlt : k < zs.length
            · rcases HO.out with h0 | ⟨b, off, rfl, hb, hc⟩
              · simp [h0] at hlt
              · obtain ⟨x, hx⟩ : ∃ x, zs.getD k 0 = x := ⟨_, rfl⟩
                have hcx : wr.cell? ⟨b, off + k, none⟩ = some (.int .i64 x) := by rw [← hx]; exact (hBr.cell hb).trans (hc k hlt)
                have hx1 : -9223372036854775807 ≤ x ∧ x ≤ 9223372036854775807 := by
                  have h1 := HN.out x (hx ▸ getD_mem hlt)
                  have h2 := HW.out x (hx ▸ getD_mem hlt)
                  omega
                obtain ⟨hx1, hx2⟩ := hx1
                have HX : Hid _ := hx
                obtain ⟨v, hv⟩ := ng_cell zs k hlt
                have hcg : wr.cell? ⟨wc.heap.size, k, none⟩ = some v := (hown.cellAt k (by omega)).trans hv
                have hfz := hown.frozenAt k
                have hst := hown.stored k (.int .i64 (-x))
                have HST : Hid _ := hst
                clear HO hc hx hst hv
                go_wp2
                go_roundw
                case rel => exact ⟨k + 1, by omega, by go_num, by rw [← ng_set zs k hlt HX.out]; exact HST.out.1, hBr.setCell (Nat.le_refl _) _⟩
                case measure => simp [intOf]; omega
            · obtain rfl : k = zs.length := by omega
              rw [ng_all] at hown
              obtain ⟨a', cap', hv, hrd, -⟩ := Rd.owned hown
              cases hv
              have HRN : Hid (RdI wr _ (zs.map (fun x => -x))) := hrd
              clear hrd hown hk hlt
              go_wp2_with fail
              refine (zzbelow_any _ _ _ zs _ _ rfl (HR.out.below hBr) (by omega)).mono ?_
              rintro e w3 ⟨a3, cap3, rfl, hr3, hB3⟩
              go_wp2_with fail
              refine (zzbelow_any _ _ _ (zs.map (fun x => -x)) _ _ (by simp) (HRN.out.below hB3) (by omega)).mono ?_
              rintro e w4 ⟨a4, cap4, rfl, hr4, hB4⟩
              have HO3 : Hid _ := (hr3.below hB4).open
              have HO4 : Hid _ := hr4.open
              have hBc4 : Below wc.heap.size wc w4 := (hBr.trans (hB3.mono hBr.size)).trans (hB4.mono (Nat.le_trans hBr.size hB3.size))
              have HO0 : Hid _ := (HR.out.below hBc4).open
              have HB4 : Hid _ := hB1.trans (hBc4.mono hB1.size)
              have hu3 := bel_le f zs
              have hu4 := bel_le (1 - f) (zs.map (fun x => -x))
              rw [List.length_map] at hu4
              clear hr3 hB3 hr4 hB4 hBr HR HRN HO hBc4 hB1
              generalize hV : bel (1 - f) (zs.map (fun x => -x)) = V at *
              have HV : Hid _ := hV
              clear hV
              go_wp2_with fail
              go_loop [12] (fun i => ∃ k : Nat, k ≤ (bel f zs).length ∧ i = .int .i64 k) (fun i => (bel f zs).length - (intOf i).toNat)
              case atStart => exact ⟨0, Nat.zero_le _, rfl⟩
              case round =>
                obtain ⟨k, hk, rfl⟩ := hrel
                by_cases hlt : k < (bel f zs).length
                · rcases HO3.out with h0 | ⟨b, off, rfl, hb, hc⟩
                  · simp [h0] at hlt
                  · obtain ⟨x, hx⟩ : ∃ x, (bel f zs).getD k 0 = x := ⟨_, rfl⟩
                    have hcx : w4.cell? ⟨b, off + k, none⟩ = some (.int .i64 x) := by rw [← hx]; exact hc k hlt
                    have hxf : x < f := (bel_mem (hx ▸ getD_mem hlt)).2
                    clear hc hx HO0 HO4 HO3
                    go_wp2
                    go_round
                    case rel => exact ⟨k + 1, by omega, by go_num⟩
                    case measure => simp [intOf]; omega
                · obtain rfl : k = (bel f zs).length := by omega
                  clear hk hlt
                  go_wp2_with fail
                  go_loop [13] (fun i => ∃ k : Nat, k ≤ V.length ∧ i = .int .i64 k) (fun i => V.length - (intOf i).toNat)
                  case atStart => exact ⟨0, Nat.zero_le _, rfl⟩
                  case round =>
                    obtain ⟨k, hk, rfl⟩ := hrel
                    by_cases hlt : k < V.length
                    · rcases HO4.out with h0 | ⟨b, off, rfl, hb, hc⟩
                      · simp [h0] at hlt
                      · obtain ⟨x, hx⟩ : ∃ x, V.getD k 0 = x := ⟨_, rfl⟩
                        have hcx : w4.cell? ⟨b, off + k, none⟩ = some (.int .i64 x) := by rw [← hx]; exact hc k hlt
                        obtain ⟨hx1, hx2, hxf⟩ := neg_mem (f := f) HN.out HW.out (v := x) (by rw [HV.out, ← hx]; exact getD_mem hlt)
                        have hxb : (x == -9223372036854775808) = false := by simp; omega
                        clear hc hx HO0 HO4 HO3
                        go_wp2
                        go_round
                        case rel => exact ⟨k + 1, by omega, by go_num⟩
                        case measure => simp [intOf]; omega
                    · obtain rfl : k = V.length := by omega
                      clear hk hlt
                      go_wp2_with fail
                      go_loopw [14, 15, 16] (fun j k i wr => ∃ m J K : Nat, m ≤ zs.length ∧ J ≤ (bel f zs).length ∧ K ≤ V.length ∧ j = .int .i64 J ∧ k = .int .i64 K ∧ i = .int .i64 m ∧ Hid (cnt f zs m J K) ∧ Below w4.heap.size w4 wr) (fun _ _ i _ => zs.length - (intOf i).toNat)
                      case atStart => exact ⟨0, 0, 0, Nat.zero_le _, Nat.zero_le _, Nat.zero_le _, rfl, rfl, rfl, cnt_zero f zs, Below.refl _ _⟩
                      case round =>
                        obtain ⟨m, J, K, hm, hJ, hK, rfl, rfl, rfl, hcnt, hBr⟩ := hrel
                        by_cases hlt : m < zs.length
                        · rcases HO0.out with h0 | ⟨b, off, rfl, hb, hc⟩
                          · simp [h0] at hlt
                          · obtain ⟨x, hx⟩ : ∃ x, zs.getD m 0 = x := ⟨_, rfl⟩
                            have hcx : wr.cell? ⟨b, off + m, none⟩ = some (.int .i64 x) := by rw [← hx]; exact (hBr.cell hb).trans (hc m hlt)
                            by_cases hxf : x < f
                            · obtain ⟨hJ1, hgJ, hcnt1⟩ := cnt_under hlt hx hxf hcnt.out
                              rcases HO3.out with h0 | ⟨b3, off3, rfl, hb3, hc3⟩
                              · simp [h0] at hJ1
                              · have hcy : wr.cell? ⟨b3, off3 + J, none⟩ = some (.int .i64 x) := by rw [← hgJ]; exact (hBr.cell hb3).trans (hc3 J hJ1)
                                have HC1 : Hid _ := hcnt1
                                have hJi : (J : Int) < ((bel f zs).length : Int) := by omega
                                clear hc3 hgJ hcnt1 hcnt hc hx HO0 HO3 HO4 HN HW HB4
                                go_wp2_with fail
                                go_quiet (fail)
                                go_wp2
                                go_roundw
                                case rel => exact ⟨m + 1, J + 1, K, by omega, by omega, hK, by go_num, rfl, by go_num, HC1.out, below_drewN hBr _⟩
                                case measure => simp [intOf]; omega
                            · obtain ⟨hK1, hgK, hcnt1⟩ := cnt_over hlt hx (by omega) hcnt.out
                              rw [HV.out] at hK1 hgK
                              rcases HO4.out with h0 | ⟨b4, off4, rfl, hb4, hc4⟩
                              · simp [h0] at hK1
                              · obtain ⟨v, hv⟩ : ∃ v, V.getD K 0 = v := ⟨_, rfl⟩
                                have hcv : wr.cell? ⟨b4, off4 + K, none⟩ = some (.int .i64 v) := by rw [← hv]; exact (hBr.cell hb4).trans (hc4 K hK1)
                                obtain ⟨hv1, hv2, hvf⟩ := neg_mem (f := f) HN.out HW.out (v := v) (by rw [HV.out, ← hv]; exact getD_mem hK1)
                                have hvx : (-v == x) = true := by rw [← hv, hgK]; simp
                                have HC1 : Hid _ := hcnt1
                                have hKi : (K : Int) < (V.length : Int) := by omega
                                by_cases hJ1 : J < (bel f zs).length
                                · rcases HO3.out with h0 | ⟨b3, off3, rfl, hb3, hc3⟩
                                  · simp [h0] at hJ1
                                  · obtain ⟨y, hy⟩ : ∃ y, (bel f zs).getD J 0 = y := ⟨_, rfl⟩
                                    have hcy : wr.cell? ⟨b3, off3 + J, none⟩ = some (.int .i64 y) := by rw [← hy]; exact (hBr.cell hb3).trans (hc3 J hJ1)
                                    have hyf : y < f := (bel_mem (hy ▸ getD_mem hJ1)).2
                                    have hyx : (y == x) = false := by simp; omega
                                    have hJi : (J : Int) < ((bel f zs).length : Int) := by omega
                                    clear hy hc3 hv hc4 hgK hcnt1 hcnt hc hx HO0 HO3 HO4 HN HW HB4
                                    go_wp2_with fail
                                    go_quiet (fail)
                                    go_wp2_with fail
                                    go_quiet (fail)
                                    go_wp2
                                    go_roundw
                                    case rel => exact ⟨m + 1, J, K + 1, by omega, by omega, by omega, rfl, by go_num, by go_num, HC1.out, below_drewN hBr _⟩
                                    case measure => simp [intOf]; omega
                                · have hJd : decide ((J : Int) < ((bel f zs).length : Int)) = false := by simp; omega
                                  clear hv hc4 hgK hcnt1 hcnt hc hx HO0 HO3 HO4 HN HW HB4
                                  go_wp2_with fail
                                  go_quiet (fail)
                                  go_wp2_with fail
                                  go_quiet (fail)
                                  go_wp2
                                  go_roundw
                                  case rel => exact ⟨m + 1, J, K + 1, by omega, by omega, by omega, rfl, by go_num, by go_num, HC1.out, below_drewN hBr _⟩
                                  case measure => simp [intOf]; omega
                        · obtain rfl : m = zs.length := by omega
                          obtain ⟨rfl, hK2⟩ := cnt_all hcnt.out
                          rw [HV.out] at hK2
                          subst hK2
                          clear hcnt hJ hK hm hlt
                          go_wp2
                          go_ret
                          exact ⟨rfl, HB4.out.trans (hBr.mono HB4.out.size)⟩

end Go.Proofs.Qxb6617194a
