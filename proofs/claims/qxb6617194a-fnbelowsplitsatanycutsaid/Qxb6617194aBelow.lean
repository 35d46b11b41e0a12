/-
  'below' (26) and 'ZZbelow' (10): of the numbers those under 'f', in order.
-/
import Derived.Test.Qxb6617194aKit
namespace Go.Proofs.Qxb6617194a
open Go.RowKit

/-- What 'below' keeps. -/
def bel (f : Int) (zs : List Int) : List Int := zs.filter (fun x => decide (x < f))

theorem bel_le (f : Int) (zs : List Int) : (bel f zs).length ≤ zs.length := List.length_filter_le _ _
theorem bel_take_le (f : Int) (zs : List Int) (k : Nat) : (bel f (zs.take k)).length ≤ k := Nat.le_trans (bel_le _ _) (List.length_take_le _ _)
theorem bel_hit (f : Int) (zs : List Int) (k : Nat) (hk : k < zs.length) (h : zs.getD k 0 < f) : bel f (zs.take (k + 1)) = bel f (zs.take k) ++ [zs.getD k 0] := by
  rw [take_succ' zs 0 k hk]; unfold bel; rw [List.filter_append, List.filter_cons_of_pos (by simpa using h)]; rfl
theorem bel_miss (f : Int) (zs : List Int) (k : Nat) (hk : k < zs.length) (h : ¬ zs.getD k 0 < f) : bel f (zs.take (k + 1)) = bel f (zs.take k) := by
  rw [take_succ' zs 0 k hk]; unfold bel; rw [List.filter_append, List.filter_cons_of_neg (by simpa using h)]; simp

set_option maxHeartbeats 800000 in
set_option maxRecDepth 100000 in
theorem below_any (a : Option Addr) (cap : Nat) (zs : List Int) (f : Int) (w : World) (hr : RdI w a zs) (hlen : zs.length ≤ 1048576) :
    Calls Try.prog 26 #[.slice a zs.length cap, .int .i64 f] w fun e w' => ∃ a' cap', e = .returned (.slice a' (bel f zs).length cap') ∧ RdI w' a' (bel f zs) ∧ Below w.heap.size w w' := by
  obtain ⟨i0, hi, hz0, hz1, hz2⟩ := info_parts Try.info3
  have HO : Hid _ := hr.open
  clear hr
  go_enter Try.func26, Try.ntmps26
  go_wp2
  go_loopw [5, 10] (fun v i wr => ∃ k : Nat, k ≤ zs.length ∧ i = .int .i64 k ∧ wr.ownsRow w.heap.size 3 1 v (bel f (zs.take k)).length ((bel f (zs.take k)).map (Value.int .i64)) ∧ Below w.heap.size w wr)
    (fun _ i _ => zs.length - (intOf i).toNat)
  case atStart => exact ⟨0, Nat.zero_le _, rfl, World.ownsRow_nil _ _ _ _, Below.refl _ _⟩
  case round =>
    obtain ⟨k, hk, rfl, hown, hnx⟩ := hrel
    have hbl := bel_take_le f zs k
    by_cases hlt : k < zs.length
    · rcases HO.out with h0 | ⟨b, off, rfl, hb, hc⟩
      · simp [h0] at hlt
      · obtain ⟨x, hx⟩ : ∃ x, zs.getD k 0 = x := ⟨_, rfl⟩
        have hcx : wr.cell? ⟨b, off + k, none⟩ = some (.int .i64 x) := by rw [← hx]; exact (hnx.cell hb).trans (hc k hlt)
        have HX : Hid _ := hx
        clear HO hc hx
        go_wp2_with (first
          | (at_builtin; refine wpList_append_own _ rfl _ _ 22 rfl w.heap.size 3 i0 (.int .i64 0) 1 8 Try.underlying22 hi hz0 hz1 hz2 rfl (by decide) _ _ _ rfl (hown.alloc _) ⟨wr.heap.size, 0, none⟩ 1 1 [.int .i64 x] rfl rfl (cell_one_new _ _ _) (ints_oneCell .i64 [x]) (by unfold maxLen; omega) (by omega) (by have := hnx.size; simp; omega) ?_; intro v' w1 hown' hgrow hnil))
        · have hs : bel f (zs.take (k + 1)) = bel f (zs.take k) ++ [x] := by rw [← HX.out]; exact bel_hit f zs k hlt (by rw [HX.out]; assumption)
          go_roundw
          case rel =>
            refine ⟨k + 1, by omega, by go_num, ?_, ?_⟩
            · rw [hs]; simpa using hown'
            · exact (hnx.alloc hnx.size _).grown hgrow (by have := hnx.size; simp; omega) (fun j hj => (hown.lt j hj).1)
          case measure => simp [intOf]; omega
        · have hs : bel f (zs.take (k + 1)) = bel f (zs.take k) := bel_miss f zs k hlt (by rw [HX.out]; omega)
          go_roundw
          case rel => exact ⟨k + 1, by omega, by go_num, by rw [hs]; exact hown, hnx⟩
          case measure => simp [intOf]; omega
    · go_wp2
      obtain rfl : k = zs.length := by omega
      rw [List.take_length] at hown
      obtain ⟨a', cap', rfl, hrd, hl⟩ := Rd.owned hown
      go_ret
      exact ⟨a', cap', rfl, hrd, hnx⟩

theorem zzbelow_any (a : Option Addr) (n cap : Nat) (zs : List Int) (f : Int) (w : World) (hn : zs.length = n) (hr : RdI w a zs) (hlen : n ≤ 1048576) :
    Calls Try.prog 10 #[.slice a n cap, .int .i64 f] w fun e w' => ∃ a' cap', e = .returned (.slice a' (bel f zs).length cap') ∧ RdI w' a' (bel f zs) ∧ Below w.heap.size w w' := by
  subst hn
  go_enter Try.func10, Try.ntmps10
  go_wp2_with fail
  refine (below_any _ _ _ _ _ hr hlen).mono ?_
  rintro e w' ⟨a', cap', rfl, h1, h2⟩
  go_wp2
  go_ret
  exact ⟨a', cap', rfl, h1, h2⟩

theorem bel_mem {f : Int} {zs : List Int} {x : Int} (h : x ∈ bel f zs) : x ∈ zs ∧ x < f := by
  unfold bel at h; rw [List.mem_filter] at h; exact ⟨h.1, by simpa using h.2⟩

theorem getD_mem {zs : List Int} {k : Nat} (hk : k < zs.length) : zs.getD k 0 ∈ zs := by
  rw [List.getD, List.getElem?_eq_getElem hk]; exact List.getElem_mem hk

/-- The place that the m-th number has among those that are kept. -/
theorem filter_at (p : Int → Bool) (zs : List Int) (m : Nat) (hm : m < zs.length) (hp : p (zs.getD m 0) = true) :
    (zs.filter p).getD ((zs.take m).filter p).length 0 = zs.getD m 0 ∧ ((zs.take m).filter p).length < (zs.filter p).length := by
  have e : zs.filter p = (zs.take m).filter p ++ zs.getD m 0 :: (zs.drop (m + 1)).filter p := by
    conv => lhs; rw [← List.take_append_drop (m + 1) zs, take_succ' zs 0 m hm]
    rw [List.filter_append, List.filter_append, List.filter_cons_of_pos hp]; simp
  rw [e]
  constructor
  · simp [List.getD]
  · simp

end Go.Proofs.Qxb6617194a
