/-
  The walk of FnNextSkipsSpaceAndOneComma (4).
-/
import Derived.Test.Qxb6617306aJoined
import Derived.Deep.DeepCutAuto
import Derived.Deep.RegionWith
namespace Go.Proofs.Qxb6617306a
open Go.RowKit

/-- How a bound on two lengths ends: it says no; or it says yes, and both lengths are small. -/
def Told (n1 n2 : Nat) (w : World) (e : Ending) (w' : World) : Prop := w = w' ∧ (e = .returned (.bool false) ∨ e = .returned (.bool true) ∧ n1 ≤ 1048576 ∧ n2 ≤ 1048576)
theorem Told.no {n1 n2 : Nat} {w w' : World} {e : Ending} (h : e = .returned (.bool false)) (hw : w = w') : Told n1 n2 w e w' := ⟨hw, .inl h⟩
theorem Told.yes {n1 n2 : Nat} {w w' : World} {e : Ending} (h : e = .returned (.bool true)) (h1 : n1 ≤ 1048576) (h2 : n2 ≤ 1048576) (hw : w = w') : Told n1 n2 w e w' := ⟨hw, .inr ⟨h, h1, h2⟩⟩

set_option maxRecDepth 100000 in
theorem bytes12 (a1 a2 : Option Addr) (n1 n2 cap1 cap2 : Nat) (f : Int) (w : World) (hm1 : n1 ≤ maxLen) (hm2 : n2 ≤ maxLen) :
    Calls Try.prog 12 #[.slice a1 n1 cap1, .int .i64 f, .slice a2 n2 cap2] w fun e w' => Told n1 n2 w e w' := by
  unfold maxLen at hm1 hm2
  by_cases h1 : 1048576 < n1
  · go_enter Try.func12, Try.ntmps12
    go_wp2
    go_ret
    exact Told.no rfl rfl
  · by_cases h2 : 1048576 < n2
    · go_enter Try.func12, Try.ntmps12
      go_wp2
      go_ret
      exact Told.no rfl rfl
    · by_cases h3 : 1048576 < n1 + n2
      · go_enter Try.func12, Try.ntmps12
        go_wp2
        go_ret
        exact Told.no rfl rfl
      · go_enter Try.func12, Try.ntmps12
        go_wp2
        go_ret
        exact Told.yes rfl (by omega) (by omega) rfl

theorem lands_any (a : Option Addr) (n cap : Nat) (zs : List Int) (A P : Nat) (c : Int) (w : World) (hn : zs.length = n) (hr : RdB w a zs) (hlen : n ≤ 1048576) (hv : HasV zs A) (hP : nxt zs A = P) (hc : zs.getD P 0 = c) :
    Calls Try.prog 16 #[.slice a n cap, .int .i64 A, .int .u8 c, .int .i64 P] w fun e w' => e = .returned (.bool true) ∧ w = w' := by
  have hall := nxt_all hv
  rw [hP] at hall
  obtain ⟨h1, h2, h3, h4⟩ := hall
  rw [hc] at h3
  by_cases hcm : zs.getD (sp zs A) 0 = 44
  · rw [nxt_comma hcm] at hP
    have g := sp_ge zs (sp zs A + 1)
    refine lands_comma a n cap zs A P (sp zs A) c w hn hr hlen (sp_ge zs A) (by omega) (by omega) hc h3 hcm fun j hj1 hj2 hj3 => ?_
    by_cases hjq : j < sp zs A
    · exact sp_ws hj1 hjq
    · exact sp_ws (p := sp zs A + 1) (by omega) (by omega)
  · rw [nxt_plain hcm] at hP
    refine lands_plain a n cap zs A P c w hn hr hlen h1 (by omega) hc h3 (by rw [← hc, ← hP]; simpa using hcm) fun j hj1 hj2 => sp_ws hj1 (by omega)

theorem RdB.take {w : World} {a : Option Addr} {zs : List Int} (h : RdB w a zs) (k : Nat) : RdB w a (zs.take k) := by
  rcases h.open with rfl | ⟨b, off, rfl, hb, hc⟩
  · simpa using h
  · refine RdB.mk hb fun j hj => ?_
    have hj' : j < k ∧ j < zs.length := by simp at hj; omega
    rw [hc j hj'.2]
    simp [List.getD, hj'.1]
theorem RdB.drop {w : World} {b off : Nat} {zs : List Int} (hb : b < w.heap.size) (hc : ∀ j, j < zs.length → w.cell? ⟨b, off + j, none⟩ = some (.int .u8 (zs.getD j 0))) (k : Nat) : RdB w (some ⟨b, off + k, none⟩) (zs.drop k) := by
  refine RdB.mk hb fun j hj => ?_
  have hj' : k + j < zs.length := by simp at hj; omega
  rw [getD_drop, Nat.add_assoc]
  exact hc (k + j) hj'

set_option maxHeartbeats 3200000 in
set_option maxRecDepth 100000 in
theorem skips_in (a1 a2 : Option Addr) (cap1 cap2 : Nat) (zs pad : List Int) (A : Nat) (w : World) (hr1 : RdB w a1 zs) (hr2 : RdB w a2 pad) (hl1 : zs.length ≤ 524288) (hl2 : pad.length ≤ 524288) (hA : A ≤ zs.length) (hcap1 : zs.length ≤ cap1)
    (hby : ∀ W : World, Calls Try.prog 12 #[.slice a1 zs.length cap1, .int .i64 A, .slice a2 pad.length cap2] W fun e w' => e = .returned (.bool true) ∧ W = w') :
    Calls Try.prog 4 #[.slice a1 zs.length cap1, .int .i64 A, .slice a2 pad.length cap2] w fun e w' => e = .returned (.bool true) ∧ Below w.heap.size w w' := by
  obtain ⟨i0, hi, hz0, hz1, hz2⟩ := info_parts Try.info5
  have hnn : ∀ (w : World) (a : Option Addr) (n c n' c' : Nat), (binOp .neq 22 (.slice a n c) (.slice none n' c')).run Try.prog w = .ok (.bool (!a.isNone)) w := fun w a n c n' c' => run_neq_slice_nil_any w _ _ a n c n' c' Try.underlying22
  have hA0 : (0 : Int) ≤ (A : Int) := by omega
  have hA1 : (A : Int) ≤ (zs.length : Int) := by omega
  have HBY : Hid _ := hby
  clear hby
  go_enter Try.func4, Try.ntmps4
  go_upto_if 34 with (go_at_call 12; refine (HBY.out _).mono ?_; rintro e w' ⟨rfl, rfl⟩)
  go_cut [0] (fun v wr => ∃ a' cap', v = .slice a' zs.length cap' ∧ RdB wr a' zs ∧ Below w.heap.size w wr ∧ zs.length ≤ cap')
  case first =>
    cases a1 with
    | none =>
      go_wp2
      go_meet
      case rel => exact ⟨none, cap1, rfl, hr1, Below.refl _ _, hcap1⟩
    | some x =>
      go_wp2_with (first
        | (at_make; refine wpList_make_full _ rfl _ _ 22 rfl w.heap.size 5 i0 (.int .u8 0) 1 Try.underlying22 hi hz0 hz1 _ _ _ _ zs.length rfl rfl rfl rfl (by rw [hz2]; omega) (by unfold maxLen; omega) (Nat.le_refl _) ?_; intro w1 hown1 hgrow1)
        | (refine wpList_copy_all rfl (.tmp 38) (.tmp 39) 22 rfl 5 Try.underlying22 (by rw [hi]; simp [hz1]) w.heap.size _ _ _ _ _ rfl rfl _ (zs.map (Value.int .u8)) hown1 (Rd.below hr1 ((Below.refl _ _).grown hgrow1 (Nat.le_refl _) (fun k hk => by cases hk))) (by simp) (ints_oneCell _ _) ?_; intro w2 hown2 hgrow2))
      go_meet
      case rel =>
        obtain ⟨a', cap', hv, hrd, _⟩ := Rd.owned hown2
        exact ⟨_, _, rfl, by cases hv; exact hrd, ((Below.refl _ _).grown hgrow1 (Nat.le_refl _) (fun k hk => by cases hk)).grown hgrow2 hgrow1.size (fun k hk => by cases hk; exact Nat.le_refl _), Nat.le_refl _⟩
  case rest =>
    obtain ⟨a3, cap3, rfl, hr3, hB3, hcap3⟩ := hcut
    have HR3 : Hid (RdB wc a3 zs) := hr3
    have HRP : Hid (RdB wc a2 pad) := hr2.below hB3
    have HOP : Hid _ := (hr2.below hB3).open
    have HB3 : Hid (Below w.heap.size w wc) := hB3
    clear hr1 hr2 hr3 hB3 hcap1 HBY
    go_wp2_with fail
    go_loop [8] (fun i => ∃ k : Nat, k ≤ pad.length ∧ i = .int .i64 k ∧ Hid (∀ c ∈ pad.take k, isW c = true)) (fun i => pad.length - (intOf i).toNat)
    case atStart => exact ⟨0, Nat.zero_le _, rfl, by show ∀ c ∈ pad.take 0, isW c = true; simp⟩
    case round =>
      obtain ⟨k, hk, rfl, hno⟩ := hrel
      by_cases hlt : k < pad.length
      · rcases HOP.out with h0 | ⟨b, off, rfl, hb, hc⟩
        · simp [h0] at hlt
        · obtain ⟨x, hx⟩ : ∃ x, pad.getD k 0 = x := ⟨_, rfl⟩
          have hcx : wc.cell? ⟨b, off + k, none⟩ = some (.int .u8 x) := by rw [← hx]; exact hc k hlt
          have HX : Hid _ := hx
          clear hc hx HOP
          cases hw : isW x
          · go_wp2_with (go_at_call 13; refine (isWS_any _ _).mono ?_; rintro e w' ⟨rfl, rfl⟩)
            go_ret
            exact ⟨rfl, HB3.out⟩
          · go_wp2_with (go_at_call 13; refine (isWS_any _ _).mono ?_; rintro e w' ⟨rfl, rfl⟩)
            go_round
            case rel =>
              refine ⟨k + 1, by omega, by go_num, ?_⟩
              show ∀ c ∈ pad.take (k + 1), isW c = true
              intro c hc
              rw [take_succ' pad 0 k hlt, HX.out] at hc
              rcases List.mem_append.1 hc with hc | hc
              · exact hno.out c hc
              · simp only [List.mem_singleton] at hc; rw [hc]; exact hw
            case measure => simp [intOf]; omega
      · obtain rfl : k = pad.length := by omega
        have HPW : Hid (∀ c ∈ pad, isW c = true) := by have h := hno.out; rwa [List.take_length] at h
        clear hk hlt hno HOP
        cases hv : vA zs A
        · have HV : Hid _ := hv
          clear hv
          go_wp2_with fail
          refine (ahead_any _ _ _ zs A _ rfl HR3.out hA (by omega)).mono ?_
          rintro e w' ⟨rfl, rfl⟩
          rw [HV.out]
          go_wp2
          go_ret
          exact ⟨rfl, HB3.out⟩
        · have HV : Hid _ := hv
          have HH : Hid (HasV zs A) := vA_has hv
          have hAn := HH.out.lt
          have hN := nxt_all HH.out
          obtain ⟨P, hP⟩ : ∃ P, nxt zs A = P := ⟨_, rfl⟩
          rw [hP] at hN
          obtain ⟨hAP, hPn, -, -⟩ := hN
          obtain ⟨c, hc⟩ : ∃ c, zs.getD P 0 = c := ⟨_, rfl⟩
          have HP : Hid (nxt zs A = P) := hP
          have HCC : Hid (zs.getD P 0 = c) := hc
          clear hv hP hc
          go_wp2_with fail
          refine (ahead_any _ _ _ zs A _ rfl HR3.out hA (by omega)).mono ?_
          rintro e w' ⟨rfl, rfl⟩
          rw [HV.out]
          go_wp2_with fail
          refine (zznext_any _ _ _ zs A _ rfl HR3.out HH.out (by omega)).mono ?_
          rintro e w4 ⟨rfl, hB4⟩
          rw [HP.out, HCC.out]
          have HR4 : Hid (RdB w4 a3 zs) := HR3.out.below hB4
          have HRP4 : Hid (RdB w4 a2 pad) := HRP.out.below hB4
          have HB4 : Hid (Below w.heap.size w w4) := HB3.out.trans (hB4.mono HB3.out.size)
          clear hB4 HB3 HRP HR3 HV
          go_wp2_with fail
          refine (lands_any _ _ _ zs A P c _ rfl HR4.out (by omega) HH.out HP.out HCC.out).mono ?_
          rintro e w' ⟨rfl, rfl⟩
          rcases HR4.out.open with h0 | ⟨b, off, rfl, hb, hcell⟩
          · simp [h0] at hPn
          · have HRD : Hid (RdB w4 (some ⟨b, off + A, none⟩) (zs.drop A)) := RdB.drop hb hcell A
            clear hcell
            have hcA : ¬ cap3 = A := by omega
            have hAc : (A : Int) ≤ (cap3 : Int) := by omega
            obtain ⟨G, hG⟩ : ∃ G, grown zs pad A = G := ⟨_, rfl⟩
            have hGl : G.length = zs.length + pad.length := by rw [← hG]; exact grown_length hA
            have HJ : Hid (Calls Try.prog 9 #[.slice (some ⟨b, off, none⟩) A cap3, .slice a2 pad.length cap2, .slice (some ⟨b, off + A, none⟩) (zs.length - A) (cap3 - A)] w4.drew fun e w' => ∃ a' cap', e = .returned (.slice a' G.length cap') ∧ RdB w' a' G ∧ Below w4.heap.size w4 w') := by
              rw [← hG]
              have hd : Below w4.heap.size w4 w4.drew := (Below.refl _ _).drew
              refine (joined_any _ _ _ _ _ _ cap3 cap2 (cap3 - A) (zs.take A) pad (zs.drop A) w4.drew (by simp; omega) rfl (by simp) ((HR4.out.take A).below hd) (HRP4.out.below hd) (HRD.out.below hd) (by simp; omega) (by omega) (by simp; omega)).mono ?_
              rintro e w' ⟨a', cap', h1, h2, h3⟩
              exact ⟨a', cap', h1, h2, hd.trans h3⟩
            have HGV : Hid (HasV G A) := by rw [← hG]; exact HH.out.grown hA
            have hgn : nxt G A = P + pad.length := by rw [← hG, nxt_grown hA HPW.out, HP.out]
            have HGN : Hid (nxt G A = P + pad.length) := hgn
            have HGC : Hid (G.getD (P + pad.length) 0 = c) := by rw [← hG, grown_getD hA hAP]; exact HCC.out
            have hGb : G.length ≤ 1048576 := by omega
            clear hG hGl hgn HRD HRP4 HPW HH HP HCC HR4
            go_upto_region 23 with fail
            go_cut [11] (fun v wr => ∃ a' cap', v = .slice a' G.length cap' ∧ RdB wr a' G ∧ Below w4.heap.size w4 wr)
            case first =>
              go_region_with (go_at_call 9; refine HJ.out.mono ?_; rintro e w5 ⟨a5, cap5, rfl, hr5, hB5⟩)
              all_goals go_wp2_with fail
              all_goals go_meet
              all_goals exact ⟨_, _, rfl, by assumption, by assumption⟩
            case rest =>
              obtain ⟨a5, cap5, rfl, hr5, hB5⟩ := hcut
              go_wp2_with fail
              refine (zznext_any _ _ _ G A _ rfl hr5 HGV.out (by omega)).mono ?_
              rintro e w6 ⟨rfl, hB6⟩
              rw [HGN.out, HGC.out]
              have hBx := HB4.out.trans (hB5.mono HB4.out.size)
              go_wp2
              go_ret
              exact ⟨rfl, hBx.trans (hB6.mono hBx.size)⟩

end Go.Proofs.Qxb6617306a
