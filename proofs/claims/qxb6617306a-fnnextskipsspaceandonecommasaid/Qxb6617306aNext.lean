/-
  '(*jsonBody).next' (24), 'ZZNext' (15).
-/
import Derived.Test.Qxb6617306aSpace
namespace Go.Proofs.Qxb6617306a
open Go.RowKit

theorem RdAt.some {B : Nat} {w : World} {a : Option Addr} {zs : List Int} (h : RdAt B w a zs) (hp : 0 < zs.length) :
    ∃ b off, a = .some ⟨b, off, .none⟩ ∧ b < B ∧ ∀ j, j < zs.length → w.cell? ⟨b, off + j, .none⟩ = .some (.int .u8 (zs.getD j 0)) := by
  rcases h with rfl | h
  · simp at hp
  · exact h

set_option maxHeartbeats 1600000 in
set_option maxRecDepth 100000 in
theorem next_any (B : Nat) (a : Option Addr) (n cap : Nat) (zs : List Int) (p : Nat) (w : World) (hn : zs.length = n) (hr : RdAt B w a zs) (hbody : Body w B a n cap p) (hv : HasV zs p) (hlen : n ≤ 2097152) :
    Calls Try.prog 24 #[.pointer (some ⟨B, 0, none⟩)] w fun e w' => e = .returned (.int .u8 (zs.getD (nxt zs p) 0)) ∧ Body w' B a n cap (nxt zs p) ∧ Below B w w' := by
  subst hn
  have hp := hv.lt
  have HS := hv.sp
  obtain ⟨b, off, rfl, hbB, hc⟩ := hr.some (by omega)
  obtain ⟨q, hq⟩ : ∃ q, sp zs p = q := ⟨_, rfl⟩
  rw [hq] at HS
  obtain ⟨hq1, hv1⟩ := HS
  have HV1 : Hid (HasV zs q) := hv1
  have HQ : Hid (sp zs p = q) := hq
  have HC : Hid _ := hc
  have HR : Hid (RdAt B w (some ⟨b, off, none⟩) zs) := hr
  clear hv1 hq hc hr hv
  go_enter Try.func24, Try.ntmps24
  go_wp2_with fail
  refine (space_any B _ _ _ zs p _ rfl HR.out hbody (by omega) hlen).mono ?_
  rintro e w1 ⟨rfl, hb1, hB1⟩
  rw [HQ.out] at hb1
  obtain ⟨c, hx⟩ : ∃ c, zs.getD q 0 = c := ⟨_, rfl⟩
  have hcx : w1.cell? ⟨b, off + q, none⟩ = some (.int .u8 c) := by rw [← hx]; exact (hB1.cell hbB).trans (HC.out q hq1)
  have HX : Hid _ := hx
  have HB1 : Hid (Body w1 B (some ⟨b, off, none⟩) zs.length cap q) := hb1
  obtain ⟨h0, h1, hf⟩ := hb1
  have hqi : (q : Int) < (zs.length : Int) := by omega
  clear hx hbody
  cases h4 : (c == 44)
  · have E : Hid (nxt zs p = q) := by
      rw [nxt_plain (by rw [HQ.out, HX.out]; simpa using h4)]; exact HQ.out
    go_wp2_with fail
    go_quiet (fail)
    go_wp2_with fail
    go_quiet (fail)
    go_wp2
    go_ret
    rw [E.out, HX.out]
    exact ⟨rfl, Body.drewN (Body.drewN HB1.out _) _, below_drewN (below_drewN hB1 _) _⟩
  · have hc44 : c = 44 := by simpa using h4
    have HV2 : HasV zs (q + 1) := HV1.out.step (by rw [HX.out]; exact hc44)
    have hS2 := HV2.sp
    obtain ⟨r, hr2⟩ : ∃ r, sp zs (q + 1) = r := ⟨_, rfl⟩
    rw [hr2] at hS2
    have E : Hid (nxt zs p = r) := by
      rw [nxt_comma (by rw [HQ.out, HX.out]; exact hc44), HQ.out]; exact hr2
    obtain ⟨hr1, -⟩ := hS2
    have HR2 : Hid (sp zs (q + 1) = r) := hr2
    clear hr2 hc44 HV2
    go_wp2_with fail
    go_quiet (fail)
    go_wp2_with fail
    have HBX : Hid (Below B w ((w1.drewN nq).setCell ⟨B, 1, none⟩ (.int .i64 ((q : Int) + 1)))) := (below_drewN hB1 _).setCell (Nat.le_refl _) _
    have HBY : Hid (Body ((w1.drewN nq).setCell ⟨B, 1, none⟩ (.int .i64 ((q : Int) + 1))) B (some ⟨b, off, none⟩) zs.length cap (q + 1)) := Body.set (Body.drewN HB1.out _) (q + 1)
    refine (space_any B _ _ _ zs (q + 1) _ rfl (HR.out.below HBX.out) HBY.out (by omega) hlen).mono ?_
    rintro e w2 ⟨rfl, hb2, hB2⟩
    rw [HR2.out] at hb2
    have hBW : Below B w w2 := HBX.out.trans hB2
    clear hcx h0 h1 hf hB1 HB1 hB2 HBX HBY
    obtain ⟨d, hx2⟩ : ∃ d, zs.getD r 0 = d := ⟨_, rfl⟩
    have hcx : w2.cell? ⟨b, off + r, none⟩ = some (.int .u8 d) := by rw [← hx2]; exact (hBW.cell hbB).trans (HC.out r hr1)
    have HX2 : Hid _ := hx2
    have HB2 : Hid (Body w2 B (some ⟨b, off, none⟩) zs.length cap r) := hb2
    obtain ⟨h0, h1, hf⟩ := hb2
    have hri : (r : Int) < (zs.length : Int) := by omega
    clear hx2
    go_wp2_with fail
    go_quiet (fail)
    go_wp2
    go_ret
    rw [E.out, HX2.out]
    exact ⟨rfl, Body.drewN HB2.out _, below_drewN hBW _⟩

/-- A reader that the call has just made. -/
theorem Body.made (w : World) (a : Option Addr) (n cap p : Nat) (rest : List Value) (T : TypeId) : Body (w.alloc (.cells (Value.slice a n cap :: .int .i64 p :: rest).toArray T)) w.heap.size a n cap p := by
  refine ⟨?_, ?_, World.frozen?_alloc_at _ _ _ _ rfl⟩
  · rw [World.cell?_alloc_at _ _ _ _ rfl]; rfl
  · rw [World.cell?_alloc_at _ _ _ _ rfl]; rfl

set_option maxHeartbeats 1600000 in
set_option maxRecDepth 100000 in
theorem zznext_any (a : Option Addr) (n cap : Nat) (zs : List Int) (p : Nat) (w : World) (hn : zs.length = n) (hr : RdB w a zs) (hv : HasV zs p) (hlen : n ≤ 2097152) :
    Calls Try.prog 15 #[.slice a n cap, .int .i64 p] w fun e w' => e = .returned (.tuple #[.int .u8 (zs.getD (nxt zs p) 0), .int .i64 (nxt zs p)]) ∧ Below w.heap.size w w' := by
  subst hn
  have hrd : RdAt w.heap.size w a zs := hr.open
  have HV : Hid (HasV zs p) := hv
  have HR : Hid (RdAt w.heap.size w a zs) := hrd
  clear hr hrd hv
  go_enter Try.func15, Try.ntmps15
  go_wp2_with fail
  refine (next_any w.heap.size _ _ _ zs p _ rfl (HR.out.below ((Below.refl _ _).alloc (Nat.le_refl _) _)) (Body.made w a zs.length cap p _ 44) HV.out hlen).mono ?_
  rintro e w1 ⟨rfl, hb, hB⟩
  have HB : Hid (Below w.heap.size w w1) := ((Below.refl _ _).alloc (Nat.le_refl _) _).trans hB
  obtain ⟨h0, h1, hf⟩ := hb
  clear hB
  go_wp2_with fail
  go_quiet (fail)
  go_wp2
  go_ret2
  exact ⟨rfl, below_drewN HB.out _⟩

end Go.Proofs.Qxb6617306a
