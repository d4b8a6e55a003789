/- The walks of MsgLocationOrNil, MakeLineColumnTracker, rangeOf. -/
import Derived.Test.YtpnigcljndjmlaaDoorComp
import Derived.Deep.RegionHeld3
namespace Go.Proofs.YtpnigcljndjmlaaDoor.line
open Go.RowKit
open kit pt

def Msg (s : ByteArray) (B off len ct ft : Nat) (W : World) (e : Ending) (W' : World) : Prop :=
  ∃ ee M, Fin s.data.toList off ee ∧ e = .returned (.pointer (some ⟨M, 0, none⟩)) ∧ M ≠ B ∧ W.heap.size ≤ M ∧ M < W'.heap.size ∧ W'.cell? ⟨M, 5, none⟩ = some (.int .i64 ((ct : Int) + 1)) ∧ W'.cell? ⟨M, 6, none⟩ = some (.int .i64 ((off : Int) - ft)) ∧
    W'.cell? ⟨M, 7, none⟩ = some (.int .i64 len) ∧ W'.cell? ⟨M, 3, none⟩ = some (.string (s.extract ft ee)) ∧ Tk W' B s off ct ft ee true true ∧ W.grownBy W' (some B)

set_option maxRecDepth 100000 in
set_option maxHeartbeats 1600000 in
theorem msg_any (s : ByteArray) (B off len : Nat) (W : World) (k c ls le : Nat) (hs he : Bool) (jt ct ft : Nat) (hz : s.size ≤ 1048576) (hln : len ≤ 1048576) (hv : Vld s.data.toList) (hB : 2 ≤ B) (hT : Tabs W) (hk : Tk W B s k c ls le hs he) (hst : Stand s.data.toList k c ls le hs he)
    (ht : At s.data.toList jt off ct ft) :
    Calls Tryd.prog 14 #[.pointer (some ⟨B, 0, none⟩), .agg #[.int .i32 off, .int .i32 len]] W (Msg s B off len ct ft W) := by
  have hsz : s.data.toList.length = s.size := by rw [Array.length_toList]; rfl
  have hoff : off ≤ s.size := by have := ht.le; omega
  have hct : ct ≤ off := ht.le.2.1
  have hft : ft ≤ off := ht.le.2.2.1
  have hb0 : Below W.heap.size W (W.alloc (.cells #[.int .i32 off, .int .i32 len] 63)) := (Below.refl _ _).alloc (Nat.le_refl _) _
  have X := Lib.hid (comp_any s B off _ k c ls le hs he jt ct ft hz hv hB (hT.below hb0) (hk.below hb0) hst ht)
  have HZ := Lib.hid hsz
  obtain ⟨i0, _, _, _, _, _, _, _, _, _, i10, _⟩ := hk
  have hBs : B ≠ W.heap.size := by omega
  clear hT ht hst hsz hv hb0
  go_enter Tryd.func14, Tryd.ntmps14
  go_wp2_with fail
  refine X.out.mono ?_
  rintro e w1 ⟨ee, hfe, rfl, hTk, hgr⟩
  have hee := hfe.le (by rw [HZ.out]; exact hoff)
  rw [HZ.out] at hee
  have K1 := Lib.hid hTk
  have F1 := Lib.hid hfe
  have hsz1 : W.heap.size + 1 ≤ w1.heap.size := by have := hgr.size; simpa using this
  have cR : w1.cell? ⟨W.heap.size, 1, none⟩ = some (.int .i32 len) := by
    refine (hgr.cell_far ⟨W.heap.size, 1, none⟩ (by simp) (by intro q; injection q with q; exact hBs q.symm)).trans ?_
    go_simp
  have G1 := Lib.hid (Lib.grownBy_trans (World.grownBy_alloc W (.cells #[.int .i32 off, .int .i32 len] 63) (some B)) hgr)
  obtain ⟨j0, c0, c1, c2, _⟩ := hTk
  clear hgr hfe X
  obtain ⟨he1, he2⟩ := hee
  have q1 : (0 : Int) ≤ (ft : Int) := by omega
  have q2 : (ft : Int) ≤ (ee : Int) := by omega
  have q3 : (ee : Int) ≤ (s.size : Int) := by omega
  have q4 : (0 : Int) ≤ (ee : Int) := by omega
  have z1 : IntKind.i64.wrap ((ct : Int) + 1) = (ct : Int) + 1 := IntWalk.i64_in _ (by omega)
  have z2 : IntKind.i64.wrap (len : Int) = (len : Int) := IntWalk.i64_in _ (by omega)
  go_wp2_with fail
  go_region_held3 (fun w' => w'.cell? ⟨B, 0, none⟩ = some (.string s) ∧ w'.cell? ⟨B, 1, none⟩ = some (.string ⟨#[]⟩) ∧ w'.cell? ⟨B, 2, none⟩ = some (.string ⟨#[]⟩) ∧ w'.cell? ⟨W.heap.size, 1, none⟩ = some (.int .i32 len)) (first | go_keep) ((fail))
  all_goals
    clear z1 z2
    go_wp2_with fail
    go_ret
    have g := Lib.grownBy_allocR G1.out (.cells #[.string ⟨#[]⟩, .string ⟨#[]⟩, .string ⟨#[]⟩, .string (s.extract ft ee), .string ⟨#[]⟩, .int .i64 ((ct : Int) + 1), .int .i64 ((off : Int) - ft), .int .i64 len] 66)
    exact ⟨ee, w1.heap.size, F1.out, rfl, by omega, by omega, by simp, by go_simp, by go_simp, by go_simp, by go_simp, K1.out.below (((Below.refl _ _).alloc (Nat.le_refl _) _).drew), ⟨g.os, g.tape, g.output, g.size, g.block⟩⟩

theorem rangeOf_any (a b : Nat) (w : World) (ha : a ≤ 1048576) (hb : b ≤ 1048576) :
    Calls Tryd.prog 15 #[.agg #[.int .i64 a, .int .i64 b]] w fun e w' => e = .returned (.agg #[.int .i32 a, .int .i32 b]) ∧ Below w.heap.size w w' := by
  go_enter Tryd.func15, Tryd.ntmps15
  go_wp2_with fail
  refine bodyPost_ret (v := .agg #[.int .i32 a, .int .i32 b]) ?_ rfl ⟨rfl, ?_⟩
  · simp [results, Tryd.results15, go_sem]
  · refine balloc ?_ (balloc (Nat.le_refl _) (Below.refl _ _))
    simp

set_option maxRecDepth 100000 in
set_option maxHeartbeats 800000 in
theorem make_any (s : ByteArray) (S : Nat) (w : World) (h0 : w.cell? ⟨S, 0, none⟩ = some (.string ⟨#[]⟩)) (h1 : w.cell? ⟨S, 1, none⟩ = some (.string ⟨#[]⟩)) (h3 : w.cell? ⟨S, 3, none⟩ = some (.string s)) (hS : S < w.heap.size) :
    Calls Tryd.prog 13 #[.pointer (some ⟨S, 0, none⟩)] w fun e w' => e = .returned (.agg #[.string s, .string ⟨#[]⟩, .string ⟨#[]⟩, .int .i32 0, .int .i32 0, .int .i32 0, .int .i32 0, .bool true, .bool false, .bool true]) ∧ Below w.heap.size w w' := by
  have hne : S ≠ w.heap.size := by omega
  go_enter Tryd.func13, Tryd.ntmps13
  go_wp2_with fail
  go_region_held3 (fun w' => w'.cell? ⟨S, 0, none⟩ = some (.string ⟨#[]⟩) ∧ w'.cell? ⟨S, 1, none⟩ = some (.string ⟨#[]⟩) ∧ w'.cell? ⟨S, 3, none⟩ = some (.string s)) (first | go_keep) ((fail))
  all_goals
    go_wp2_with fail
    refine bodyPost_ret (v := .agg #[.string s, .string ⟨#[]⟩, .string ⟨#[]⟩, .int .i32 0, .int .i32 0, .int .i32 0, .int .i32 0, .bool true, .bool false, .bool true]) ?_ rfl ⟨rfl, ?_⟩
    · simp [results, Tryd.results13, go_sem]
    · refine Below.drew ?_
      exact (Below.refl _ _).alloc (Nat.le_refl _) _
end Go.Proofs.YtpnigcljndjmlaaDoor.line
