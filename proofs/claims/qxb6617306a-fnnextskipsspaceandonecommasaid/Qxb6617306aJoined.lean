/-
  'joined' (9): three slices, one behind the other, in new memory.
-/
import Derived.Test.Qxb6617306aGrown
namespace Go.Proofs.Qxb6617306a
open Go.RowKit

theorem get1 {xs ys zs : List Int} {k : Nat} (h : k < xs.length) : (xs ++ ys ++ zs).getD k 0 = xs.getD k 0 := by
  rw [List.append_assoc, List.getD, List.getD, List.getElem?_append_left h]
theorem get2 {xs ys zs : List Int} {k : Nat} (h : k < ys.length) : (xs ++ ys ++ zs).getD (xs.length + k) 0 = ys.getD k 0 := by
  rw [List.append_assoc, List.getD, List.getD, List.getElem?_append_right (by omega), show xs.length + k - xs.length = k by omega, List.getElem?_append_left h]
theorem get3 {xs ys zs : List Int} {k : Nat} : (xs ++ ys ++ zs).getD (xs.length + ys.length + k) 0 = zs.getD k 0 := by
  rw [List.getD, List.getD, List.getElem?_append_right (by simp), List.length_append, show xs.length + ys.length + k - (xs.length + ys.length) = k by omega]

set_option maxHeartbeats 3200000 in
set_option maxRecDepth 100000 in
theorem joined_any (a1 a2 a3 : Option Addr) (n1 n2 n3 cap1 cap2 cap3 : Nat) (xs ys zs : List Int) (w : World) (hn1 : xs.length = n1) (hn2 : ys.length = n2) (hn3 : zs.length = n3)
    (hr1 : RdB w a1 xs) (hr2 : RdB w a2 ys) (hr3 : RdB w a3 zs) (hl1 : xs.length ≤ 1048576) (hl2 : ys.length ≤ 1048576) (hl3 : zs.length ≤ 1048576) :
    Calls Try.prog 9 #[.slice a1 n1 cap1, .slice a2 n2 cap2, .slice a3 n3 cap3] w fun e w' => ∃ a' cap', e = .returned (.slice a' (xs ++ ys ++ zs).length cap') ∧ RdB w' a' (xs ++ ys ++ zs) ∧ Below w.heap.size w w' := by
  subst hn1; subst hn2; subst hn3
  obtain ⟨i0, hi, hz0, hz1, hz2⟩ := info_parts Try.info5
  have HX1 : Hid _ := hr1.open
  have HX2 : Hid _ := hr2.open
  have HX3 : Hid _ := hr3.open
  clear hr1 hr2 hr3
  obtain ⟨L, hL⟩ : ∃ L, xs ++ ys ++ zs = L := ⟨_, rfl⟩
  obtain ⟨T, hT⟩ : ∃ T, L.length = T := ⟨_, rfl⟩
  have hT2 : xs.length + ys.length + zs.length = T := by rw [← hT, ← hL]; simp; omega
  have hTu : T ≤ xs.length + ys.length + zs.length := by omega
  have hTl : xs.length + ys.length + zs.length ≤ T := by omega
  have hLT1 : L.length ≤ T := by omega
  have hLT2 : T ≤ L.length := by omega
  have HT : Hid (L.length = T) := hT
  have G1 : Hid (∀ k, k < xs.length → L.getD k 0 = xs.getD k 0) := fun k h => by rw [← hL]; exact get1 h
  have G2 : Hid (∀ k, k < ys.length → L.getD (xs.length + k) 0 = ys.getD k 0) := fun k h => by rw [← hL]; exact get2 h
  have G3 : Hid (∀ k, L.getD (xs.length + ys.length + k) 0 = zs.getD k 0) := fun k => by rw [← hL]; exact get3
  rw [hL]
  clear hT hT2 hL
  go_enter Try.func9, Try.ntmps9
  go_wp2_with (at_make; refine wpList_make_full _ rfl _ _ 22 rfl w.heap.size 5 i0 (.int .u8 0) 1 Try.underlying22 hi hz0 hz1 _ _ _ _ T rfl rfl (by omega) (by omega) (by rw [hz2]; omega) (by unfold maxLen; omega) (Nat.le_refl _) ?_; intro w1 hown1 hgrow1)
  rw [fil_zero L HT.out] at hown1
  have hB1 : Below w.heap.size w w1 := (Below.refl _ _).grown hgrow1 (Nat.le_refl _) (fun k hk => by cases hk)
  clear hgrow1
  go_loopw [8, 9] (fun m i wr => ∃ k N : Nat, k ≤ xs.length ∧ Hid (N = k) ∧ m = .int .i64 N ∧ i = .int .i64 k ∧ wr.ownsRow w.heap.size 5 1 (.slice (some ⟨w.heap.size, 0, none⟩) T T) T (fil L N) ∧ Below w.heap.size w wr) (fun _ i _ => xs.length - (intOf i).toNat)
  case atStart => exact ⟨0, 0, Nat.zero_le _, by show (0 : Nat) = 0; rfl, rfl, rfl, hown1, hB1⟩
  case round =>
    clear hown1 hB1
    obtain ⟨k, N, hk, hN, rfl, rfl, hown, hnx⟩ := hrel
    by_cases hlt : k < xs.length
    · rcases HX1.out with h0 | ⟨b, off, rfl, hb, hc⟩
      · simp [h0] at hlt
      · obtain ⟨x, hx⟩ : ∃ x, xs.getD k 0 = x := ⟨_, rfl⟩
        have hcx : wr.cell? ⟨b, off + k, none⟩ = some (.int .u8 x) := by rw [← hx]; exact (hnx.cell hb).trans (hc k hlt)
        have hNT : N < T := by have := hN.out; omega
        have HX : Hid (L.getD N 0 = x) := by rw [hN.out, ← hx]; exact G1.out k hlt
        obtain ⟨v, hv⟩ := fil_cell L N (by omega)
        have hcg : wr.cell? ⟨w.heap.size, N, none⟩ = some v := (hown.cellAt N (by omega)).trans hv
        have hfz := hown.frozenAt N
        have HST : Hid _ := hown.stored N (.int .u8 x)
        clear hc hx hv hown HX1 HX2 HX3
        go_wp2
        go_roundw
        case rel => exact ⟨k + 1, N + 1, by omega, by have h := hN.out; show N + 1 = _; omega, by go_num, by go_num, by rw [← fil_set L N (by omega) HX.out]; exact HST.out.1, hnx.setCell (Nat.le_refl _) _⟩
        case measure => simp [intOf]; omega
    · obtain rfl : k = xs.length := by omega
      have hNT : N ≤ T := by have := hN.out; omega
      go_wp2_with fail
      obtain ⟨wo, rfl⟩ : ∃ wo : World, wo = wr := ⟨_, rfl⟩
      go_loopw [8, 10] (fun m i wr => ∃ k N : Nat, k ≤ ys.length ∧ Hid (N = xs.length + k) ∧ m = .int .i64 N ∧ i = .int .i64 k ∧ wr.ownsRow w.heap.size 5 1 (.slice (some ⟨w.heap.size, 0, none⟩) T T) T (fil L N) ∧ Below w.heap.size w wr) (fun _ i _ => ys.length - (intOf i).toNat)
      case atStart => exact ⟨0, N, Nat.zero_le _, by have h := hN.out; show N = xs.length + 0; omega, rfl, rfl, hown, hnx⟩
      case round =>
        clear hown hnx hk hlt hN hNT
        obtain ⟨k, N, hk, hN, rfl, rfl, hown, hnx⟩ := hrel
        by_cases hlt : k < ys.length
        · rcases HX2.out with h0 | ⟨b, off, rfl, hb, hc⟩
          · simp [h0] at hlt
          · obtain ⟨x, hx⟩ : ∃ x, ys.getD k 0 = x := ⟨_, rfl⟩
            have hcx : wr.cell? ⟨b, off + k, none⟩ = some (.int .u8 x) := by rw [← hx]; exact (hnx.cell hb).trans (hc k hlt)
            have hNT : N < T := by have := hN.out; omega
            have HX : Hid (L.getD N 0 = x) := by rw [hN.out, ← hx]; exact G2.out k hlt
            obtain ⟨v, hv⟩ := fil_cell L N (by omega)
            have hcg : wr.cell? ⟨w.heap.size, N, none⟩ = some v := (hown.cellAt N (by omega)).trans hv
            have hfz := hown.frozenAt N
            have HST : Hid _ := hown.stored N (.int .u8 x)
            clear hc hx hv hown HX1 HX2 HX3
            go_wp2
            go_roundw
            case rel => exact ⟨k + 1, N + 1, by omega, by have h := hN.out; show N + 1 = _; omega, by go_num, by go_num, by rw [← fil_set L N (by omega) HX.out]; exact HST.out.1, hnx.setCell (Nat.le_refl _) _⟩
            case measure => simp [intOf]; omega
        · obtain rfl : k = ys.length := by omega
          have hNT : N ≤ T := by have := hN.out; omega
          go_wp2_with fail
          obtain ⟨wp, rfl⟩ : ∃ wp : World, wp = wr := ⟨_, rfl⟩
          go_loopw [8, 11] (fun m i wr => ∃ k N : Nat, k ≤ zs.length ∧ Hid (N = xs.length + ys.length + k) ∧ m = .int .i64 N ∧ i = .int .i64 k ∧ wr.ownsRow w.heap.size 5 1 (.slice (some ⟨w.heap.size, 0, none⟩) T T) T (fil L N) ∧ Below w.heap.size w wr) (fun _ i _ => zs.length - (intOf i).toNat)
          case atStart => exact ⟨0, N, Nat.zero_le _, by have h := hN.out; show N = xs.length + ys.length + 0; omega, rfl, rfl, hown, hnx⟩
          case round =>
            clear hown hnx hk hlt hN hNT
            obtain ⟨k, N, hk, hN, rfl, rfl, hown, hnx⟩ := hrel
            by_cases hlt : k < zs.length
            · rcases HX3.out with h0 | ⟨b, off, rfl, hb, hc⟩
              · simp [h0] at hlt
              · obtain ⟨x, hx⟩ : ∃ x, zs.getD k 0 = x := ⟨_, rfl⟩
                have hcx : wr.cell? ⟨b, off + k, none⟩ = some (.int .u8 x) := by rw [← hx]; exact (hnx.cell hb).trans (hc k hlt)
                have hNT : N < T := by have := hN.out; omega
                have HX : Hid (L.getD N 0 = x) := by rw [hN.out, ← hx]; exact G3.out k
                obtain ⟨v, hv⟩ := fil_cell L N (by omega)
                have hcg : wr.cell? ⟨w.heap.size, N, none⟩ = some v := (hown.cellAt N (by omega)).trans hv
                have hfz := hown.frozenAt N
                have HST : Hid _ := hown.stored N (.int .u8 x)
                clear hc hx hv hown HX1 HX2 HX3
                go_wp2
                go_roundw
                case rel => exact ⟨k + 1, N + 1, by omega, by have h := hN.out; show N + 1 = _; omega, by go_num, by go_num, by rw [← fil_set L N (by omega) HX.out]; exact HST.out.1, hnx.setCell (Nat.le_refl _) _⟩
                case measure => simp [intOf]; omega
            · obtain rfl : k = zs.length := by omega
              have hNT : N = L.length := by have := hN.out; have := HT.out; omega
              rw [hNT, fil_all] at hown
              obtain ⟨a', cap', hv, hrd, -⟩ := Rd.owned hown
              cases hv
              have hrd2 : RdB wr _ L := hrd
              have HRD : Hid (RdB wr _ L) := hrd2
              clear hrd hrd2 hown hNT hN
              go_wp2
              go_ret
              rw [HT.out]
              exact ⟨_, _, rfl, HRD.out, hnx⟩

end Go.Proofs.Qxb6617306a
