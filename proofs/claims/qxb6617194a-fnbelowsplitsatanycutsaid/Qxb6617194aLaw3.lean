/-
  The walk of FnBelowSplitsAtAnyCut (3).
-/
import Derived.Test.Qxb6617194aBelow
import Derived.Test.Qxb6617194aInts
import Derived.Deep.DeepCutAuto
namespace Go.Proofs.Qxb6617194a
open Go.RowKit

/-- How a bound on two lengths ends: it says no; or it says yes, and both lengths are small. -/
def Told2 (n1 n2 : Nat) (w : World) (e : Ending) (w' : World) : Prop := w = w' ∧ (e = .returned (.bool false) ∨ e = .returned (.bool true) ∧ n1 ≤ 1048576 ∧ n2 ≤ 1048576)
theorem Told2.no {n1 n2 : Nat} {w w' : World} {e : Ending} (h : e = .returned (.bool false)) (hw : w = w') : Told2 n1 n2 w e w' := ⟨hw, .inl h⟩
theorem Told2.yes {n1 n2 : Nat} {w w' : World} {e : Ending} (h : e = .returned (.bool true)) (h1 : n1 ≤ 1048576) (h2 : n2 ≤ 1048576) (hw : w = w') : Told2 n1 n2 w e w' := ⟨hw, .inr ⟨h, h1, h2⟩⟩

set_option maxRecDepth 100000 in
theorem bytes9 (a1 a2 : Option Addr) (n1 n2 cap1 cap2 : Nat) (f : Int) (w : World) (hm1 : n1 ≤ maxLen) (hm2 : n2 ≤ maxLen) :
    Calls Try.prog 9 #[.slice a1 n1 cap1, .slice a2 n2 cap2, .int .i64 f] w fun e w' => Told2 n1 n2 w e w' := by
  unfold maxLen at hm1 hm2
  by_cases h1 : 1048576 < n1
  · go_enter Try.func9, Try.ntmps9
    go_wp2
    go_ret
    exact Told2.no rfl rfl
  · by_cases h2 : 1048576 < n2
    · go_enter Try.func9, Try.ntmps9
      go_wp2
      go_ret
      exact Told2.no rfl rfl
    · by_cases h3 : 1048576 < n1 + n2
      · go_enter Try.func9, Try.ntmps9
        go_wp2
        go_ret
        exact Told2.no rfl rfl
      · go_enter Try.func9, Try.ntmps9
        go_wp2
        go_ret
        exact Told2.yes rfl (by omega) (by omega) rfl

theorem maxInt_any (w : World) : Calls Try.prog 13 #[] w fun e w' => e = .returned (.int .i64 9223372036854775807) ∧ w = w' := by
  go_enter Try.func13, Try.ntmps13
  go_wp2
  go_ret
  exact ⟨rfl, rfl⟩

theorem bel_app (f : Int) (xs ys : List Int) : bel f xs ++ bel f ys = bel f (xs ++ ys) := by unfold bel; rw [List.filter_append]
theorem bel_none {f : Int} {xs : List Int} (h : ∀ x ∈ xs, f ≤ x) : bel f xs = [] := by
  unfold bel; rw [List.filter_eq_nil_iff]; intro x hx; have := h x hx; simp; omega
theorem bel_all {f : Int} {xs : List Int} (h : ∀ x ∈ xs, x < f) : bel f xs = xs := by
  unfold bel; rw [List.filter_eq_self]; intro x hx; have := h x hx; simp; omega

/-- The least and the greatest of the first k numbers lie within L and H. -/
def within (zs : List Int) (k : Nat) (L H : Int) : Prop := ∀ x ∈ zs.take k, L ≤ x ∧ x ≤ H
theorem within_one {zs : List Int} {x : Int} (hk : 0 < zs.length) (hx : zs.getD 0 0 = x) : within zs 1 x x := by
  intro y hy
  rw [take_succ' zs 0 0 hk, hx] at hy
  simp at hy
  omega
theorem within_succ {zs : List Int} {k : Nat} {L H L' H' x : Int} (hk : k < zs.length) (hx : zs.getD k 0 = x) (h : within zs k L H) (h1 : L' ≤ L) (h2 : L' ≤ x) (h3 : H ≤ H') (h4 : x ≤ H') : within zs (k + 1) L' H' := by
  intro y hy
  rw [take_succ' zs 0 k hk, hx] at hy
  rcases List.mem_append.1 hy with hy | hy
  · have := h y hy; omega
  · simp only [List.mem_singleton] at hy; omega

set_option maxHeartbeats 1600000 in
set_option maxRecDepth 100000 in
theorem lawSplit (a1 a2 : Option Addr) (cap1 cap2 : Nat) (xs ys : List Int) (f : Int) (w : World) (hr1 : RdI w a1 xs) (hr2 : RdI w a2 ys) (hm1 : xs.length ≤ maxLen) (hm2 : ys.length ≤ maxLen)
    (hwx : ∀ x ∈ xs, -9223372036854775808 ≤ x ∧ x ≤ 9223372036854775807) :
    Calls Try.prog 3 #[.slice a1 xs.length cap1, .slice a2 ys.length cap2, .int .i64 f] w fun e w' => e = .returned (.bool true) ∧ Below w.heap.size w w' := by
  have HW : Hid _ := hwx
  clear hwx
  obtain ⟨i0, hi, hz0, hz1, hz2⟩ := info_parts Try.info3
  have hnn : ∀ (w : World) (a : Option Addr) (n c n' c' : Nat), (binOp .neq 22 (.slice a n c) (.slice none n' c')).run Try.prog w = .ok (.bool (!a.isNone)) w := fun w a n c n' c' => run_neq_slice_nil_any w _ _ a n c n' c' Try.underlying22
  go_enter Try.func3, Try.ntmps3
  go_wp2_with fail
  refine (bytes9 _ _ _ _ _ _ _ _ hm1 hm2).mono ?_
  rintro e w' ⟨rfl, rfl | ⟨rfl, hl1, hl2⟩⟩
  · go_wp2
    go_ret
    exact ⟨rfl, Below.refl _ _⟩
  · clear hm1 hm2
    by_cases hb1 : 65536 < xs.length
    · go_wp2
      go_ret
      exact ⟨rfl, Below.refl _ _⟩
    · by_cases hb2 : 65536 < ys.length
      · go_wp2
        go_ret
        exact ⟨rfl, Below.refl _ _⟩
      · clear hl1 hl2
        go_upto_if 28 with fail
        go_cut [0] (fun v wr => ∃ a' cap', v = .slice a' xs.length cap' ∧ RdI wr a' xs ∧ Below w.heap.size w wr)
        case first =>
          cases a1 with
          | none =>
            go_wp2
            go_meet
            case rel => exact ⟨none, cap1, rfl, hr1, Below.refl _ _⟩
          | some x =>
            go_wp2_with (first
              | (at_make; refine wpList_make_full _ rfl _ _ 22 rfl w.heap.size 3 i0 (.int .i64 0) 1 Try.underlying22 hi hz0 hz1 _ _ _ _ xs.length rfl rfl rfl rfl (by rw [hz2]; omega) (by unfold maxLen; omega) (Nat.le_refl _) ?_; intro w1 hown1 hgrow1)
              | (refine wpList_copy_all rfl (.tmp 32) (.tmp 33) 22 rfl 3 Try.underlying22 (by rw [hi]; simp [hz1]) w.heap.size _ _ _ _ _ rfl rfl _ (xs.map (Value.int .i64)) hown1 (Rd.below hr1 ((Below.refl _ _).grown hgrow1 (Nat.le_refl _) (fun k hk => by cases hk))) (by simp) (ints_oneCell _ _) ?_; intro w2 hown2 hgrow2))
            go_meet
            case rel =>
              obtain ⟨a', cap', hv, hrd, _⟩ := Rd.owned hown2
              exact ⟨_, _, rfl, by cases hv; exact hrd, ((Below.refl _ _).grown hgrow1 (Nat.le_refl _) (fun k hk => by cases hk)).grown hgrow2 hgrow1.size (fun k hk => by cases hk; exact Nat.le_refl _)⟩
        case rest =>
          obtain ⟨a3, cap3, rfl, hr3, hB3⟩ := hcut
          obtain ⟨w3, rfl⟩ : ∃ w3 : World, w3 = wc := ⟨_, rfl⟩
          have hr4 := hr2.below hB3
          clear hr1 hr2
          go_upto_if 37 with fail
          go_cut [1] (fun v wr => ∃ a' cap', v = .slice a' ys.length cap' ∧ RdI wr a' ys ∧ Below w3.heap.size w3 wr)
          case first =>
            cases a2 with
            | none =>
              go_wp2
              go_meet
              case rel => exact ⟨none, cap2, rfl, hr4, Below.refl _ _⟩
            | some x =>
              go_wp2_with (first
                | (at_make; refine wpList_make_full _ rfl _ _ 22 rfl w3.heap.size 3 i0 (.int .i64 0) 1 Try.underlying22 hi hz0 hz1 _ _ _ _ ys.length rfl rfl rfl rfl (by rw [hz2]; omega) (by unfold maxLen; omega) (Nat.le_refl _) ?_; intro w1 hown1 hgrow1)
                | (refine wpList_copy_all rfl (.tmp 41) (.tmp 42) 22 rfl 3 Try.underlying22 (by rw [hi]; simp [hz1]) w3.heap.size _ _ _ _ _ rfl rfl _ (ys.map (Value.int .i64)) hown1 (Rd.below hr4 ((Below.refl _ _).grown hgrow1 (Nat.le_refl _) (fun k hk => by cases hk))) (by simp) (ints_oneCell _ _) ?_; intro w2 hown2 hgrow2))
              go_meet
              case rel =>
                obtain ⟨a', cap', hv, hrd, _⟩ := Rd.owned hown2
                exact ⟨_, _, rfl, by cases hv; exact hrd, ((Below.refl _ _).grown hgrow1 (Nat.le_refl _) (fun k hk => by cases hk)).grown hgrow2 hgrow1.size (fun k hk => by cases hk; exact Nat.le_refl _)⟩
          case rest =>
            obtain ⟨a4, cap4, rfl, hr5, hB4⟩ := hcut
            have hr6 := hr3.below hB4
            have hBa : Below w.heap.size w wc := hB3.trans (hB4.mono hB3.size)
            have hbx := bel_le f xs
            have hby := bel_le f ys
            obtain ⟨zs, hzs⟩ : ∃ zs, xs ++ ys = zs := ⟨_, rfl⟩
            have hzl : zs.length ≤ 131072 := by rw [← hzs, List.length_append]; omega
            have hbxy := bel_le f zs
            have HZ : Hid (bel f xs ++ bel f ys = bel f zs) := by rw [← hzs]; exact bel_app f xs ys
            clear hr3 hr4 hB3 hB4
            go_wp2_with fail
            refine (join_any _ _ _ _ _ _ xs ys _ rfl rfl hr6 hr5 (by omega) (by omega)).mono ?_
            rintro e w5 ⟨a5, cap5, rfl, hr7, hB5⟩
            have hBb := hBa.trans (hB5.mono hBa.size)
            rw [hzs] at hr7 ⊢
            clear hzs
            go_wp2_with fail
            refine (zzbelow_any _ _ _ zs _ _ rfl hr7 (by omega)).mono ?_
            rintro e w6 ⟨a6, cap6, rfl, hr8, hB6⟩
            have hBc := hBb.trans (hB6.mono hBb.size)
            have hx6 := (hr6.below hB5).below hB6
            have hy6 := (hr5.below hB5).below hB6
            clear hr5 hr6 hr7 hB5 hB6 hBa hBb
            go_wp2_with fail
            refine (zzbelow_any _ _ _ xs _ _ rfl hx6 (by omega)).mono ?_
            rintro e w7 ⟨a7, cap7, rfl, hr9, hB7⟩
            have hBd := hBc.trans (hB7.mono hBc.size)
            go_wp2_with fail
            refine (zzbelow_any _ _ _ ys _ _ rfl (hy6.below hB7) (by omega)).mono ?_
            rintro e w8 ⟨a8, cap8, rfl, hr10, hB8⟩
            have hBe := hBd.trans (hB8.mono hBd.size)
            go_wp2_with fail
            refine (join_any _ _ _ _ _ _ (bel f xs) (bel f ys) _ rfl rfl (hr9.below hB8) hr10 (by omega) (by omega)).mono ?_
            rintro e w9 ⟨a9, cap9, rfl, hr11, hB9⟩
            have hBf := hBe.trans (hB9.mono hBe.size)
            rw [HZ.out] at hr11 ⊢
            go_wp2_with fail
            refine (intsEqual_same _ _ _ _ _ _ (bel f zs) _ rfl rfl (((hr8.below hB7).below hB8).below hB9) hr11 (by omega)).mono ?_
            rintro e w10 ⟨rfl, hB10⟩
            have HB : Hid (Below w.heap.size w w10) := hBf.trans (hB10.mono hBf.size)
            have hx10 := (((hx6.below hB7).below hB8).below hB9).below hB10
            have hl10 := ((hr9.below hB8).below hB9).below hB10
            have HO1 : Hid _ := hx10.open
            have HO2 : Hid _ := hl10.open
            have HR : Hid (RdI w10 a3 xs) := hx10
            clear hr8 hr9 hr10 hr11 hB7 hB8 hB9 hB10 hBc hBd hBe hBf hx6 hy6 hx10 hl10 hbxy
            go_wp2_with fail
            go_loop [12] (fun i => ∃ k : Nat, k ≤ (bel f xs).length ∧ i = .int .i64 k) (fun i => (bel f xs).length - (intOf i).toNat)
            case atStart => exact ⟨0, Nat.zero_le _, rfl⟩
            case round =>
              obtain ⟨k, hk, rfl⟩ := hrel
              by_cases hlt : k < (bel f xs).length
              · rcases HO2.out with h0 | ⟨b, off, rfl, hb, hc⟩
                · simp [h0] at hlt
                · obtain ⟨x, hx⟩ : ∃ x, (bel f xs).getD k 0 = x := ⟨_, rfl⟩
                  have hcx : w10.cell? ⟨b, off + k, none⟩ = some (.int .i64 x) := by rw [← hx]; exact hc k hlt
                  have hxf : x < f := (bel_mem (hx ▸ getD_mem hlt)).2
                  clear hc hx HO1 HO2
                  go_wp2
                  go_round
                  case rel => exact ⟨k + 1, by omega, by go_num⟩
                  case measure => simp [intOf]; omega
              · obtain rfl : k = (bel f xs).length := by omega
                clear hk hlt
                by_cases hz : xs.length = 0
                · have hzb : ((xs.length : Int) == 0) = true := by simp [hz]
                  clear hz
                  go_wp2
                  go_ret
                  exact ⟨rfl, HB.out⟩
                · have hzb : ((xs.length : Int) == 0) = false := by simp; intro h; simp [h] at hz
                  rcases HO1.out with h0 | ⟨b, off, rfl, hb, hc⟩
                  · simp [h0] at hz
                  · have hpos : 0 < xs.length := by omega
                    obtain ⟨x0, hx0⟩ : ∃ x, xs.getD 0 0 = x := ⟨_, rfl⟩
                    have hc0 : w10.cell? ⟨b, off, none⟩ = some (.int .i64 x0) := by rw [← hx0]; exact hc 0 hpos
                    have HC : Hid _ := hc
                    have HX0 : Hid _ := hx0
                    have hw0 := HW.out x0 (hx0 ▸ getD_mem hpos)
                    have HW0 : Hid _ := hw0
                    clear hc hx0 HO1 HO2 hz hw0
                    go_wp2_with fail
                    go_loop [13, 14, 15] (fun l h i => ∃ (k : Nat) (L H : Int), 1 ≤ k ∧ k ≤ xs.length ∧ l = .int .i64 L ∧ h = .int .i64 H ∧ i = .int .i64 k ∧ -9223372036854775808 ≤ H ∧ H ≤ 9223372036854775807 ∧ Hid (within xs k L H)) (fun _ _ i => xs.length - (intOf i).toNat)
                    case atStart => exact ⟨1, x0, x0, Nat.le_refl _, hpos, rfl, rfl, rfl, HW0.out.1, HW0.out.2, within_one hpos HX0.out⟩
                    case round =>
                      obtain ⟨k, L, H, hk1, hk, rfl, rfl, rfl, hH1, hH2, hwi⟩ := hrel
                      clear hc0
                      by_cases hlt : k < xs.length
                      · obtain ⟨x, hx⟩ : ∃ x, xs.getD k 0 = x := ⟨_, rfl⟩
                        have hcx : w10.cell? ⟨b, off + k, none⟩ = some (.int .i64 x) := by rw [← hx]; exact HC.out k hlt
                        obtain ⟨hx1, hx2⟩ := HW.out x (hx ▸ getD_mem hlt)
                        have HX : Hid _ := hx
                        clear hx
                        by_cases hxL : x < L
                        · by_cases hxH : H < x
                          · go_wp2
                            go_round
                            case rel => exact ⟨k + 1, x, x, by omega, by omega, rfl, rfl, by go_num, hx1, hx2, within_succ hlt HX.out hwi.out (by omega) (by omega) (by omega) (by omega)⟩
                            case measure => simp [intOf]; omega
                          · go_wp2
                            go_round
                            case rel => exact ⟨k + 1, x, H, by omega, by omega, rfl, rfl, by go_num, hH1, hH2, within_succ hlt HX.out hwi.out (by omega) (by omega) (by omega) (by omega)⟩
                            case measure => simp [intOf]; omega
                        · by_cases hxH : H < x
                          · go_wp2
                            go_round
                            case rel => exact ⟨k + 1, L, x, by omega, by omega, rfl, rfl, by go_num, hx1, hx2, within_succ hlt HX.out hwi.out (by omega) (by omega) (by omega) (by omega)⟩
                            case measure => simp [intOf]; omega
                          · go_wp2
                            go_round
                            case rel => exact ⟨k + 1, L, H, by omega, by omega, rfl, rfl, by go_num, hH1, hH2, within_succ hlt HX.out hwi.out (by omega) (by omega) (by omega) (by omega)⟩
                            case measure => simp [intOf]; omega
                      · obtain rfl : k = xs.length := by omega
                        have hall : ∀ y ∈ xs, L ≤ y ∧ y ≤ H := by have h := hwi.out; unfold within at h; rwa [List.take_length] at h
                        have HE1 : Hid (bel L xs = []) := bel_none fun y hy => (hall y hy).1
                        have HE2 : Hid (bel (H + 1) xs = xs) := bel_all fun y hy => by have := (hall y hy).2; omega
                        clear hk hk1 hlt hwi hall HC HX0 HW0 HW
                        go_wp2_with fail
                        refine (zzbelow_any _ _ _ xs _ _ rfl HR.out (by omega)).mono ?_
                        rintro e w11 ⟨a11, cap11, rfl, -, hB11⟩
                        rw [HE1.out]
                        have HB2 : Hid (Below w.heap.size w w11) := HB.out.trans (hB11.mono HB.out.size)
                        have HR2 : Hid (RdI w11 _ xs) := HR.out.below hB11
                        clear hB11
                        by_cases hmx : H < 9223372036854775807
                        · go_wp2_with (go_at_call 13; refine (maxInt_any _).mono ?_; rintro e w' ⟨rfl, rfl⟩)
                          refine (zzbelow_any _ _ _ xs _ _ rfl HR2.out (by omega)).mono ?_
                          rintro e w12 ⟨a12, cap12, rfl, hr12, hB12⟩
                          rw [HE2.out] at hr12 ⊢
                          go_wp2_with fail
                          refine (intsEqual_same _ _ _ _ _ _ xs _ rfl rfl hr12 (HR2.out.below hB12) (by omega)).mono ?_
                          rintro e w13 ⟨rfl, hB13⟩
                          have hBz := HB2.out.trans (hB12.mono HB2.out.size)
                          go_wp2
                          go_ret
                          exact ⟨rfl, hBz.trans (hB13.mono hBz.size)⟩
                        · go_wp2_with (go_at_call 13; refine (maxInt_any _).mono ?_; rintro e w' ⟨rfl, rfl⟩)
                          go_ret
                          exact ⟨rfl, HB2.out⟩

end Go.Proofs.Qxb6617194a
