/-
  The walk of FnDistinctSplitsAtAnyCut (6).
-/
import Derived.Test.Qxb6617194aLaw5
import Derived.Test.Qxb6617194aOwn
namespace Go.Proofs.Qxb6617194a
open Go.RowKit

theorem idx_neg (xs : List Int) (y : Int) : decide (idx xs y < 0) = !decide (y ∈ xs) := by
  unfold idx
  by_cases h : y ∈ xs
  · simp [h]
  · simp [h]

/-- What 'expect' holds behind k rounds. -/
def expP (xs ys : List Int) (k : Nat) : List Int := dst xs ++ ((dst ys).take k).filter (fun y => decide (idx xs y < 0))
theorem expP_zero (xs ys : List Int) : expP xs ys 0 = dst xs ++ [] := by simp [expP]
theorem expP_hit {xs ys : List Int} {k : Nat} {y : Int} (hk : k < (dst ys).length) (hy : (dst ys).getD k 0 = y) (h : idx xs y < 0) : expP xs ys (k + 1) = expP xs ys k ++ [y] := by
  unfold expP
  rw [take_succ' (dst ys) 0 k hk, hy, List.filter_append, List.filter_cons_of_pos (by simpa using h)]; simp
theorem expP_miss {xs ys : List Int} {k : Nat} {y : Int} (hk : k < (dst ys).length) (hy : (dst ys).getD k 0 = y) (h : ¬ idx xs y < 0) : expP xs ys (k + 1) = expP xs ys k := by
  unfold expP
  rw [take_succ' (dst ys) 0 k hk, hy, List.filter_append, List.filter_cons_of_neg (by simpa using h)]; simp
theorem expP_le (xs ys : List Int) (k : Nat) : (expP xs ys k).length ≤ xs.length + ys.length := by
  unfold expP
  have h1 := dst_le xs
  have h2 := dst_le ys
  have h3 := List.length_filter_le (fun y => decide (idx xs y < 0)) ((dst ys).take k)
  have h4 := List.length_take_le k (dst ys)
  have h5 : ((dst ys).take k).length ≤ (dst ys).length := by simp; omega
  rw [List.length_append]
  omega

theorem fold_two (acc : List Int) : ∀ (zs t : List Int), zs.foldl addI (acc ++ t.filter (fun y => !decide (y ∈ acc))) = acc ++ (zs.foldl addI t).filter (fun y => !decide (y ∈ acc))
  | [], t => rfl
  | x :: r, t => by
    rw [List.foldl_cons, List.foldl_cons]
    have e : addI (acc ++ t.filter (fun y => !decide (y ∈ acc))) x = acc ++ (addI t x).filter (fun y => !decide (y ∈ acc)) := by
      by_cases h1 : x ∈ acc
      · rw [addI_in (by simp [h1])]
        by_cases h2 : x ∈ t
        · rw [addI_in h2]
        · rw [addI_out h2, List.filter_append, List.filter_cons_of_neg (by simp [h1])]; simp
      · by_cases h2 : x ∈ t
        · rw [addI_in h2, addI_in (by simp [h1, h2])]
        · rw [addI_out h2, addI_out (by simp [h1, h2]), List.filter_append, List.filter_cons_of_pos (by simp [h1])]; simp
    rw [e]
    exact fold_two acc r (addI t x)

theorem dst_split (xs ys : List Int) : expP xs ys (dst ys).length = dst (xs ++ ys) := by
  unfold expP
  rw [List.take_length]
  have h := fold_two (dst xs) ys []
  rw [List.filter_nil, List.append_nil] at h
  have e : dst (xs ++ ys) = ys.foldl addI (dst xs) := by unfold dst; rw [List.foldl_append]
  rw [e, h]
  congr 1
  unfold dst
  apply List.filter_congr
  intro y _
  rw [idx_neg]
  congr 1
  exact decide_eq_decide.2 (dst_mem y xs).symm

theorem not_before {zs : List Int} {k : Nat} {x : Int} (hk : k < (dst zs).length) (hx : (dst zs).getD k 0 = x) : idx ((dst zs).take k) x = -1 := by
  refine idx_miss _ _ fun h => ?_
  obtain ⟨j, hj, hjx⟩ := List.getElem_of_mem h
  have hj' : j < k := by simp at hj; omega
  rw [List.getElem_take] at hjx
  have hx' : (dst zs)[k] = x := by rw [List.getD, List.getElem?_eq_getElem hk] at hx; exact hx
  have hn := List.pairwise_iff_getElem.1 (dst_nodup zs) j k (by omega) hk hj'
  exact hn (hjx.trans hx'.symm)

set_option maxHeartbeats 3200000 in
set_option maxRecDepth 100000 in
theorem lawDSplit (a1 a2 : Option Addr) (cap1 cap2 : Nat) (xs ys : List Int) (w : World) (hr1 : RdI w a1 xs) (hr2 : RdI w a2 ys) (hm1 : xs.length ≤ maxLen) (hm2 : ys.length ≤ maxLen)
    (hwx : ∀ x ∈ xs, (Lit.int .i64 x).wf = true) (hwy : ∀ x ∈ ys, (Lit.int .i64 x).wf = true) :
    Calls Try.prog 6 #[.slice a1 xs.length cap1, .slice a2 ys.length cap2] w fun e w' => e = .returned (.bool true) ∧ Below w.heap.size w w' := by
  have HWX : Hid _ := hwx
  have HWY : Hid _ := hwy
  clear hwx hwy
  obtain ⟨i0, hi, hz0, hz1, hz2⟩ := info_parts Try.info3
  have hnn : ∀ (w : World) (a : Option Addr) (n c n' c' : Nat), (binOp .neq 22 (.slice a n c) (.slice none n' c')).run Try.prog w = .ok (.bool (!a.isNone)) w := fun w a n c n' c' => run_neq_slice_nil_any w _ _ a n c n' c' Try.underlying22
  go_enter Try.func6, Try.ntmps6
  go_wp2_with fail
  refine (bytes19 _ _ _ _ _ _ _ hm1 hm2).mono ?_
  rintro e w' ⟨rfl, rfl | ⟨rfl, hl1, hl2⟩⟩
  · go_wp2
    go_ret
    exact ⟨rfl, Below.refl _ _⟩
  · clear hm1 hm2
    by_cases hb1 : 4096 < xs.length
    · go_wp2
      go_ret
      exact ⟨rfl, Below.refl _ _⟩
    · by_cases hb2 : 4096 < ys.length
      · go_wp2
        go_ret
        exact ⟨rfl, Below.refl _ _⟩
      · clear hl1 hl2
        go_upto_if 26 with fail
        go_cut [0] (fun v wr => ∃ a' cap', v = .slice a' xs.length cap' ∧ RdI wr a' xs ∧ Below w.heap.size w wr)
        case first =>
          cases a1 with
          | none =>
            go_wp2
            go_meet
            case rel => exact ⟨none, cap1, rfl, hr1, Below.refl _ _⟩
          | some x =>
            go_wp2_with (first
              | (at_make; refine wpList_make_full _ rfl _ _ 22 rfl w.heap.size 3 i0 (.int .i64 0) 1 Try.underlying22 hi hz0 hz1 _ _ _ _ xs.length rfl rfl rfl rfl (by rw [hz2]; omega) (by unfold maxLen; omega) (Nat.le_refl _) ?_; intro w1 hown1 hgrow1)
              | (refine wpList_copy_all rfl (.tmp 30) (.tmp 31) 22 rfl 3 Try.underlying22 (by rw [hi]; simp [hz1]) w.heap.size _ _ _ _ _ rfl rfl _ (xs.map (Value.int .i64)) hown1 (Rd.below hr1 ((Below.refl _ _).grown hgrow1 (Nat.le_refl _) (fun k hk => by cases hk))) (by simp) (ints_oneCell _ _) ?_; intro w2 hown2 hgrow2))
            go_meet
            case rel =>
              obtain ⟨a', cap', hv, hrd, _⟩ := Rd.owned hown2
              exact ⟨_, _, rfl, by cases hv; exact hrd, ((Below.refl _ _).grown hgrow1 (Nat.le_refl _) (fun k hk => by cases hk)).grown hgrow2 hgrow1.size (fun k hk => by cases hk; exact Nat.le_refl _)⟩
        case rest =>
          obtain ⟨a3, cap3, rfl, hr3, hB3⟩ := hcut
          obtain ⟨w3, rfl⟩ : ∃ w3 : World, w3 = wc := ⟨_, rfl⟩
          have hr4 := hr2.below hB3
          clear hr1 hr2
          go_upto_if 35 with fail
          go_cut [1] (fun v wr => ∃ a' cap', v = .slice a' ys.length cap' ∧ RdI wr a' ys ∧ Below w3.heap.size w3 wr)
          case first =>
            cases a2 with
            | none =>
              go_wp2
              go_meet
              case rel => exact ⟨none, cap2, rfl, hr4, Below.refl _ _⟩
            | some x =>
              go_wp2_with (first
                | (at_make; refine wpList_make_full _ rfl _ _ 22 rfl w3.heap.size 3 i0 (.int .i64 0) 1 Try.underlying22 hi hz0 hz1 _ _ _ _ ys.length rfl rfl rfl rfl (by rw [hz2]; omega) (by unfold maxLen; omega) (Nat.le_refl _) ?_; intro w1 hown1 hgrow1)
                | (refine wpList_copy_all rfl (.tmp 39) (.tmp 40) 22 rfl 3 Try.underlying22 (by rw [hi]; simp [hz1]) w3.heap.size _ _ _ _ _ rfl rfl _ (ys.map (Value.int .i64)) hown1 (Rd.below hr4 ((Below.refl _ _).grown hgrow1 (Nat.le_refl _) (fun k hk => by cases hk))) (by simp) (ints_oneCell _ _) ?_; intro w2 hown2 hgrow2))
              go_meet
              case rel =>
                obtain ⟨a', cap', hv, hrd, _⟩ := Rd.owned hown2
                exact ⟨_, _, rfl, by cases hv; exact hrd, ((Below.refl _ _).grown hgrow1 (Nat.le_refl _) (fun k hk => by cases hk)).grown hgrow2 hgrow1.size (fun k hk => by cases hk; exact Nat.le_refl _)⟩
          case rest =>
            obtain ⟨a4, cap4, rfl, hr5, hB4⟩ := hcut
            have hr6 := hr3.below hB4
            have hBa : Below w.heap.size w wc := hB3.trans (hB4.mono hB3.size)
            have hdx := dst_le xs
            have hdy := dst_le ys
            obtain ⟨zs, hzs⟩ : ∃ zs, xs ++ ys = zs := ⟨_, rfl⟩
            have hzl : zs.length ≤ 8192 := by rw [← hzs, List.length_append]; omega
            have hdz := dst_le zs
            have HWZ : Hid (∀ x ∈ zs, (Lit.int .i64 x).wf = true) := fun x hx => by
              rw [← hzs] at hx
              rcases List.mem_append.1 hx with h | h
              · exact HWX.out x h
              · exact HWY.out x h
            have HZ : Hid (expP xs ys (dst ys).length = dst zs) := by rw [← hzs]; exact dst_split xs ys
            clear hr3 hr4 hB3 hB4
            go_wp2_with fail
            refine (join_any _ _ _ _ _ _ xs ys _ rfl rfl hr6 hr5 (by omega) (by omega)).mono ?_
            rintro e w5 ⟨a5, cap5, rfl, hr7, hB5⟩
            have hBb := hBa.trans (hB5.mono hBa.size)
            rw [hzs] at hr7 ⊢
            have hx5 := hr6.below hB5
            have hy5 := hr5.below hB5
            clear hzs hr5 hr6 hB5 hBa
            go_wp2_with fail
            refine (zzdistinct_cap _ _ _ zs _ rfl hr7 (by omega) HWZ.out).mono ?_
            rintro e w6 ⟨a6, cap6, rfl, hr8, hB6, hcap6⟩
            have hBc := hBb.trans (hB6.mono hBb.size)
            have hx6 := hx5.below hB6
            have hy6 := hy5.below hB6
            have hz6 := hr7.below hB6
            clear hx5 hy5 hr7 hB6 hBb
            go_wp2_with fail
            refine (zzdistinct_any _ _ _ xs _ rfl hx6 (by omega) HWX.out).mono ?_
            rintro e w7 ⟨a7, cap7, rfl, hr9, hB7⟩
            have hBd := hBc.trans (hB7.mono hBc.size)
            have hx7 := hx6.below hB7
            have hy7 := hy6.below hB7
            have hz7 := hz6.below hB7
            have hd7 := hr8.below hB7
            clear hx6 hy6 hz6 hr8 hB7 hBc
            go_wp2_with fail
            refine (zzdistinct_any _ _ _ ys _ rfl hy7 (by omega) HWY.out).mono ?_
            rintro e w8 ⟨a8, cap8, rfl, hr10, hB8⟩
            have hBe := hBd.trans (hB8.mono hBd.size)
            have hx8 := hx7.below hB8
            have hz8 := hz7.below hB8
            have hd8 := hd7.below hB8
            have hr98 := hr9.below hB8
            clear hx7 hy7 hz7 hd7 hr9 hB8 hBd
            go_wp2_with fail
            refine (join_own _ _ _ _ _ _ (dst xs) [] _ rfl rfl hr98 (RdI.nil _ _) (by omega) (by simp)).mono ?_
            rintro e w9 ⟨v9, rfl, hown9, hB9⟩
            rw [← expP_zero xs ys] at hown9
            have HRX : Hid (RdI w8 a3 xs) := hx8
            have HRZ : Hid (RdI w8 a5 zs) := hz8
            have HRD : Hid (RdI w8 a6 (dst zs)) := hd8
            have HOY : Hid _ := hr10.open
            have HBe : Hid (Below w.heap.size w w8) := hBe
            clear hx8 hz8 hd8 hr10 hr98 hBe
            go_wp2_with fail
            go_loopw [11, 12] (fun v i wr => ∃ k : Nat, k ≤ (dst ys).length ∧ i = .int .i64 k ∧ wr.ownsRow w8.heap.size 3 1 v (expP xs ys k).length ((expP xs ys k).map (Value.int .i64)) ∧ Below w8.heap.size w8 wr) (fun _ i _ => (dst ys).length - (intOf i).toNat)
            case atStart => exact ⟨0, Nat.zero_le _, rfl, hown9, hB9⟩
            case round =>
              clear hown9 hB9
              obtain ⟨k, hk, rfl, hown, hnx⟩ := hrel
              have hel := expP_le xs ys k
              by_cases hlt : k < (dst ys).length
              · rcases HOY.out with h0 | ⟨b, off, rfl, hb, hc⟩
                · simp [h0] at hlt
                · obtain ⟨y, hy⟩ : ∃ y, (dst ys).getD k 0 = y := ⟨_, rfl⟩
                  have hcy : wr.cell? ⟨b, off + k, none⟩ = some (.int .i64 y) := by rw [← hy]; exact (hnx.cell hb).trans (hc k hlt)
                  have HY : Hid _ := hy
                  have HRX2 : Hid (RdI wr a3 xs) := HRX.out.below hnx
                  clear hc hy HOY
                  by_cases hneg : idx xs y < 0
                  · go_wp2_with (first
                      | (go_at_call 18; refine (index_any _ _ _ xs _ _ rfl HRX2.out (by omega)).mono ?_; rintro e w' ⟨rfl, rfl⟩)
                      | (at_builtin; refine wpList_append_own _ rfl _ _ 22 rfl w8.heap.size 3 i0 (.int .i64 0) 1 8 Try.underlying22 hi hz0 hz1 hz2 rfl (by decide) _ _ _ rfl (hown.alloc _) ⟨wr.heap.size, 0, none⟩ 1 1 [.int .i64 y] rfl rfl (cell_one_new _ _ _) (ints_oneCell .i64 [y]) (by unfold maxLen; omega) (by omega) (by have := hnx.size; simp; omega) ?_; intro v' w2 hown' hgrow hnil))
                    go_roundw
                    case rel =>
                      refine ⟨k + 1, by omega, by go_num, ?_, ?_⟩
                      · rw [expP_hit hlt HY.out hneg]; simpa using hown'
                      · exact (hnx.alloc hnx.size _).grown hgrow (by have := hnx.size; simp; omega) (fun j hj => (hown.lt j hj).1)
                    case measure => simp [intOf]; omega
                  · go_wp2_with (go_at_call 18; refine (index_any _ _ _ xs _ _ rfl HRX2.out (by omega)).mono ?_; rintro e w' ⟨rfl, rfl⟩)
                    go_roundw
                    case rel => exact ⟨k + 1, by omega, by go_num, by rw [expP_miss hlt HY.out (by omega)]; exact hown, hnx⟩
                    case measure => simp [intOf]; omega
              · obtain rfl : k = (dst ys).length := by omega
                rw [HZ.out] at hown
                obtain ⟨ae, cape, rfl, hre, -⟩ := Rd.owned hown
                have hdr : RdI wr a6 (dst zs) := HRD.out.below hnx
                have hzr : RdI wr a5 zs := HRZ.out.below hnx
                have hBr : Below w.heap.size w wr := HBe.out.trans (hnx.mono HBe.out.size)
                clear hk hlt hown hel HZ HRD HRZ HRX HBe hnx HOY
                go_wp2_with fail
                refine (intsEqual_same _ _ _ _ _ _ (dst zs) _ rfl rfl hdr hre (by omega)).mono ?_
                rintro e w10 ⟨rfl, hB10⟩
                have hd10 := hdr.below hB10
                have hz10 := hzr.below hB10
                have HB : Hid (Below w.heap.size w w10) := hBr.trans (hB10.mono hBr.size)
                have HRD : Hid (RdI w10 a6 (dst zs)) := hd10
                have HRZ : Hid (RdI w10 a5 zs) := hz10
                have HOD : Hid _ := hd10.open
                have HOZ : Hid _ := hz10.open
                clear hdr hzr hre hB10 hBr hd10 hz10
                go_wp2_with fail
                go_loopw [13] (fun i wr => ∃ k : Nat, k ≤ (dst zs).length ∧ i = .int .i64 k ∧ Below w10.heap.size w10 wr) (fun i _ => (dst zs).length - (intOf i).toNat)
                case atStart => exact ⟨0, Nat.zero_le _, rfl, Below.refl _ _⟩
                case round =>
                  obtain ⟨k, hk, rfl, hnx⟩ := hrel
                  by_cases hlt : k < (dst zs).length
                  · rcases HOD.out with h0 | ⟨b, off, rfl, hb, hc⟩
                    · simp [h0] at hlt
                    · obtain ⟨x, hx⟩ : ∃ x, (dst zs).getD k 0 = x := ⟨_, rfl⟩
                      have hcx : wr.cell? ⟨b, off + k, none⟩ = some (.int .i64 x) := by rw [← hx]; exact (hnx.cell hb).trans (hc k hlt)
                      have hp1 : 0 ≤ idx zs x := idx_pos ((dst_mem x zs).1 (hx ▸ getD_mem' hlt))
                      have hnb : idx ((dst zs).take k) x < 0 := by rw [not_before hlt hx]; omega
                      have hlk : ((dst zs).take k).length = k := by simp; omega
                      have HLK : Hid _ := hlk
                      have HRD2 : Hid (RdI wr _ (dst zs)) := HRD.out.below hnx
                      have HRZ2 : Hid (RdI wr a5 zs) := HRZ.out.below hnx
                      have hlti : (k : Int) < ((dst zs).length : Int) := by omega
                      have hkc : (k : Int) ≤ (cap6 : Int) := by omega
                      clear hc hx HOD HOZ hlk
                      go_wp2_with (go_at_call 18; refine (index_any _ _ _ zs _ _ rfl HRZ2.out (by omega)).mono ?_; rintro e w' ⟨rfl, rfl⟩)
                      go_quiet ((go_at_call 18; exact Calls.quiet_of_same (index_q _ _ _ ((dst zs).take k) _ _ HLK.out ((HRD2.out.take k).drewN _) (by rw [HLK.out]; omega))))
                      go_wp2
                      go_roundw
                      case rel => exact ⟨k + 1, by omega, by go_num, below_drewN hnx _⟩
                      case measure => simp [intOf]; omega
                  · obtain rfl : k = (dst zs).length := by omega
                    have HRD2 : Hid (RdI wr a6 (dst zs)) := HRD.out.below hnx
                    have HOZ2 : Hid _ := (HRZ.out.below hnx).open
                    have HB2 : Hid (Below w.heap.size w wr) := HB.out.trans (hnx.mono HB.out.size)
                    clear hk hlt hnx HOD HOZ HRD HRZ HB
                    go_wp2_with fail
                    go_loop [14] (fun i => ∃ k : Nat, k ≤ zs.length ∧ i = .int .i64 k) (fun i => zs.length - (intOf i).toNat)
                    case atStart => exact ⟨0, Nat.zero_le _, rfl⟩
                    case round =>
                      obtain ⟨k, hk, rfl⟩ := hrel
                      by_cases hlt : k < zs.length
                      · rcases HOZ2.out with h0 | ⟨b, off, rfl, hb, hc⟩
                        · simp [h0] at hlt
                        · obtain ⟨x, hx⟩ : ∃ x, zs.getD k 0 = x := ⟨_, rfl⟩
                          have hcx : wr.cell? ⟨b, off + k, none⟩ = some (.int .i64 x) := by rw [← hx]; exact hc k hlt
                          have hL : 0 ≤ idx (dst zs) x := idx_pos ((dst_mem x zs).2 (hx ▸ getD_mem' hlt))
                          clear hc hx HOZ2
                          go_wp2_with (go_at_call 18; refine (index_any _ _ _ (dst zs) _ _ rfl HRD2.out (by omega)).mono ?_; rintro e w' ⟨rfl, rfl⟩)
                          go_round
                          case rel => exact ⟨k + 1, by omega, by go_num⟩
                          case measure => simp [intOf]; omega
                      · go_wp2
                        go_ret
                        exact ⟨rfl, HB2.out⟩

end Go.Proofs.Qxb6617194a
