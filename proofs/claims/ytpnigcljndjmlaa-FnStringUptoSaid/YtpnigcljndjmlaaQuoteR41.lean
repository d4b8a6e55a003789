/- The two regions of internalQuote that write an escape of digits: laws over a frame of letters. -/
import Derived.Test.YtpnigcljndjmlaaQuoteDef
namespace Go.Proofs.Ytpnigcljndjmlaa.body
open Go.RowKit
open kit pt wtf

def regionOf (n : Nat) : Code → Option Code
  | .region k ops d => if k = n then some (.region k ops d) else none
  | .loop c => regionOf n c
  | .seq a b => match regionOf n a with
    | some c => some c
    | none => regionOf n b
  | .block _ c => regionOf n c
  | .scope c => regionOf n c
  | .cond _ a b => match regionOf n a with
    | some c => some c
    | none => regionOf n b
  | _ => none
noncomputable def reg41 : Code := ((Try.f13.body.bind (regionOf 41)).getD .skip)
set_option maxRecDepth 1000000 in
set_option maxHeartbeats 6400000 in
theorem esc41 {w wr : World} {out : List UInt8} {u0 u1 u2 u3 u4 u5 u6 u7 u8 u9 u10 u11 u12 u14 u15 u16 u17 u18 u19 u20 u21 u22 u23 u24 u25 u26 u27 u28 u29 u30 u31 u32 u33 u34 u35 u36 u37 u38 u39 u40 u41 u42 u43 u44 u45 u46 u47 u48 u49 u50 u51 u52 u53 u54 u55 u56 u57 u58 u59 u60 u61 u62 u63 u64 u65 u66 u67 u68 u69 u70 u71 u72 u73 u74 u75 u76 u77 u78 u79 u80 u81 u82 u83 u84 u85 u86 u87 u88 u89 u90 u91 u92 u93 u94 u95 u96 u97 u98 u99 u100 u101 u102 u103 u104 u105 u106 u107 u108 u109 u110 u111 u112 u113 u114 u115 u116 u117 u118 u119 u120 u121 u122 u123 u124 u125 u126 u127 u128 u129 u130 u131 u132 u133 u134 u135 u136 u137 u138 u139 u140 u141 u142 u143 u144 u145 u146 u147 u148 u149 u150 u151 u152 u153 u154 u155 u156 u157 u158 u159 u160 u161 u162 u163 u164 u165 u166 u167 u168 u169 u170 u171 u172 u173 u174 u175 u176 u177 u178 u179 u180 u181 u182 u183 u184 u185 u186 u187 u188 u189 u190 u191 u192 u193 u194 u195 u196 u197 u198 u199 u200 u201 u202 u203 u204 u205 u206 u207 u208 u209 u210 u211 u212 u213 u214 u215 u216 u217 u218 u219 u220 u221 u222 u223 u224 u225 u226 u227 u228 u229 u230 : Value} {Q0 : Exit → Act → World → Prop}
    {P : Nat} (h16 : P ≤ 65535) (hol : out.length ≤ 12 * 1048576) (hW : Below w.heap.size w wr) (hown : wr.ownsRow w.heap.size 5 1 u10 ([34] ++ out).length (Lib.byteCells ([34] ++ out)))
    (HQ : ∀ (c : _) (a : Act) (d : Option Nat) (v : Value) (w : World), Q0 (.panic c) (a.put d v) w → Q0 (.panic c) a w)
    (hk0 : ∀ (V z112 z113 z114 z115 z116 z117 z118 z119 z120 z121 z122 z123 z124 z125 z126 z127 z128 : Value) (w1 : World) (ys : List UInt8), Body ys → ys.length ≤ 12 → w1.ownsRow w.heap.size 5 1 V ([34] ++ (out ++ ys)).length (Lib.byteCells ([34] ++ (out ++ ys))) → Below w.heap.size w w1 → Q0 .normal ⟨#[u0, u1, u2, u3, u4, u5, u6, u7, u8, u9, V, u11, u12, .int .i32 (P : Int), u14, u15, u16, u17, u18, u19, u20, u21, u22, u23, u24, u25, u26, u27, u28, u29, u30, u31, u32, u33, u34, u35, u36, u37, u38, u39, u40, u41, u42, u43, u44, u45, u46, u47, u48, u49, u50, u51, u52, u53, u54, u55, u56, u57, u58, u59, u60, u61, u62, u63, u64, u65, u66, u67, u68, u69, u70, u71, u72, u73, u74, u75, u76, u77, u78, u79, u80, u81, u82, u83, u84, u85, u86, u87, u88, u89, u90, u91, u92, u93, u94, u95, u96, u97, u98, u99, u100, u101, u102, u103, u104, u105, u106, u107, u108, u109, u110, u111, z112, z113, z114, z115, z116, z117, z118, z119, z120, z121, z122, z123, z124, z125, z126, z127, z128, u129, u130, u131, u132, u133, u134, u135, u136, u137, u138, u139, u140, u141, u142, u143, u144, u145, u146, u147, u148, u149, u150, u151, u152, u153, u154, u155, u156, u157, u158, u159, u160, u161, u162, u163, u164, u165, u166, u167, u168, u169, u170, u171, u172, u173, u174, u175, u176, u177, u178, u179, u180, u181, u182, u183, u184, u185, u186, u187, u188, u189, u190, u191, u192, u193, u194, u195, u196, u197, u198, u199, u200, u201, u202, u203, u204, u205, u206, u207, u208, u209, u210, u211, u212, u213, u214, u215, u216, u217, u218, u219, u220, u221, u222, u223, u224, u225, u226, u227, u228, u229, u230], []⟩ w1) :
    Code.wp Try.prog reg41 Q0 ⟨#[u0, u1, u2, u3, u4, u5, u6, u7, u8, u9, u10, u11, u12, .int .i32 (P : Int), u14, u15, u16, u17, u18, u19, u20, u21, u22, u23, u24, u25, u26, u27, u28, u29, u30, u31, u32, u33, u34, u35, u36, u37, u38, u39, u40, u41, u42, u43, u44, u45, u46, u47, u48, u49, u50, u51, u52, u53, u54, u55, u56, u57, u58, u59, u60, u61, u62, u63, u64, u65, u66, u67, u68, u69, u70, u71, u72, u73, u74, u75, u76, u77, u78, u79, u80, u81, u82, u83, u84, u85, u86, u87, u88, u89, u90, u91, u92, u93, u94, u95, u96, u97, u98, u99, u100, u101, u102, u103, u104, u105, u106, u107, u108, u109, u110, u111, u112, u113, u114, u115, u116, u117, u118, u119, u120, u121, u122, u123, u124, u125, u126, u127, u128, u129, u130, u131, u132, u133, u134, u135, u136, u137, u138, u139, u140, u141, u142, u143, u144, u145, u146, u147, u148, u149, u150, u151, u152, u153, u154, u155, u156, u157, u158, u159, u160, u161, u162, u163, u164, u165, u166, u167, u168, u169, u170, u171, u172, u173, u174, u175, u176, u177, u178, u179, u180, u181, u182, u183, u184, u185, u186, u187, u188, u189, u190, u191, u192, u193, u194, u195, u196, u197, u198, u199, u200, u201, u202, u203, u204, u205, u206, u207, u208, u209, u210, u211, u212, u213, u214, u215, u216, u217, u218, u219, u220, u221, u222, u223, u224, u225, u226, u227, u228, u229, u230], []⟩ wr := by
  obtain ⟨i0, hi, hz0, hz1, hz2⟩ := info_parts info_u8
  have hWs := hW.size
  have HK := Lib.hid hk0
  clear hk0
  conv => arg 2; whnf
  obtain ⟨x1, hx1⟩ : ∃ x1 : Nat, x1 = P / 4096 := ⟨_, rfl⟩
  have x1l : x1 < 16 := by omega
  obtain ⟨x2, hx2⟩ : ∃ x2 : Nat, x2 = P / 256 % 16 := ⟨_, rfl⟩
  have x2l : x2 < 16 := by omega
  obtain ⟨x3, hx3⟩ : ∃ x3 : Nat, x3 = P / 16 % 16 := ⟨_, rfl⟩
  have x3l : x3 < 16 := by omega
  obtain ⟨x4, hx4⟩ : ∃ x4 : Nat, x4 = P % 16 := ⟨_, rfl⟩
  have x4l : x4 < 16 := by omega
  have xe1 : (P : Int) / 4096 = (x1 : Int) := by omega
  have xe2 : bits .and .i32 ((P : Int) / 256) 15 = (x2 : Int) := by rw [hx2]; exact Lib.and15_shift (P : Int) P rfl (by omega) 256
  have xe3 : bits .and .i32 ((P : Int) / 16) 15 = (x3 : Int) := by rw [hx3]; exact Lib.and15_shift (P : Int) P rfl (by omega) 16
  have xe4 : bits .and .i32 (P : Int) 15 = (x4 : Int) := by rw [hx4]; exact Lib.and15_i32 P (by omega)
  have xb1 : (x1 : Int) < 16 := by omega
  have xz1 : (0 : Int) ≤ (x1 : Int) := by omega
  have xb2 : (x2 : Int) < 16 := by omega
  have xz2 : (0 : Int) ≤ (x2 : Int) := by omega
  have xb3 : (x3 : Int) < 16 := by omega
  have xz3 : (0 : Int) ≤ (x3 : Int) := by omega
  have xb4 : (x4 : Int) < 16 := by omega
  have xz4 : (0 : Int) ≤ (x4 : Int) := by omega
  clear hx1 hx2 hx3 hx4
  have d1 : ([34] ++ out).length + 6 ≤ maxLen := by unfold maxLen; simp; omega
  have d2 : (([34] ++ out).length + 6) * 1 ≤ 140737488355328 := by simp; omega
  refine wp_region_held_drew (S := fun _ => True) (by kernel_rfl) trivial (fun hHeld => ?_)
  refine wpAnyH_take (i := 0) (v := u10) rfl (by kernel_rfl) (by kernel_rfl) (by kernel_rfl) (fun _ _ _ h => HQ _ _ _ _ _ h) (Or.inl ⟨by rfl, ?_⟩) (by assumption) ?_
  · (intro w0 hSw; go_simp)
  refine wpAnyH_take (i := 1) (v := .int .i32 (P : Int)) rfl (by kernel_rfl) (by kernel_rfl) (by kernel_rfl) (fun _ _ _ h => HQ _ _ _ _ _ h) (Or.inl ⟨by rfl, ?_⟩) (by assumption) ?_
  · (intro w0 hSw; go_simp)
  refine wpAnyH_take (i := 2) (v := .int .i32 (x1 : Int)) rfl (by kernel_rfl) (by kernel_rfl) (by kernel_rfl) (fun _ _ _ h => HQ _ _ _ _ _ h) (Or.inl ⟨by rfl, ?_⟩) (by assumption) ?_
  · (intro w0 hSw; go_simp)
  refine wpAnyH_take (i := 3) (v := .int .u8 (((⟨#[48, 49, 50, 51, 52, 53, 54, 55, 56, 57, 65, 66, 67, 68, 69, 70]⟩ : ByteArray)[x1]'x1l).toNat : Nat)) rfl (by kernel_rfl) (by kernel_rfl) (by kernel_rfl) (fun _ _ _ h => HQ _ _ _ _ _ h) (Or.inl ⟨by rfl, ?_⟩) (by assumption) ?_
  · (intro w0 hSw; go_simp)
  refine wpAnyH_take (i := 4) (v := .int .i32 (P : Int)) rfl (by kernel_rfl) (by kernel_rfl) (by kernel_rfl) (fun _ _ _ h => HQ _ _ _ _ _ h) (Or.inl ⟨by rfl, ?_⟩) (by assumption) ?_
  · (intro w0 hSw; go_simp)
  refine wpAnyH_take (i := 5) (v := .int .i32 ((P : Int) / 256)) rfl (by kernel_rfl) (by kernel_rfl) (by kernel_rfl) (fun _ _ _ h => HQ _ _ _ _ _ h) (Or.inl ⟨by rfl, ?_⟩) (by assumption) ?_
  · (intro w0 hSw; go_simp)
  refine wpAnyH_take (i := 6) (v := .int .i32 (x2 : Int)) rfl (by kernel_rfl) (by kernel_rfl) (by kernel_rfl) (fun _ _ _ h => HQ _ _ _ _ _ h) (Or.inl ⟨by rfl, ?_⟩) (by assumption) ?_
  · (intro w0 hSw; go_simp)
  refine wpAnyH_take (i := 7) (v := .int .u8 (((⟨#[48, 49, 50, 51, 52, 53, 54, 55, 56, 57, 65, 66, 67, 68, 69, 70]⟩ : ByteArray)[x2]'x2l).toNat : Nat)) rfl (by kernel_rfl) (by kernel_rfl) (by kernel_rfl) (fun _ _ _ h => HQ _ _ _ _ _ h) (Or.inl ⟨by rfl, ?_⟩) (by assumption) ?_
  · (intro w0 hSw; go_simp)
  refine wpAnyH_take (i := 8) (v := .int .i32 (P : Int)) rfl (by kernel_rfl) (by kernel_rfl) (by kernel_rfl) (fun _ _ _ h => HQ _ _ _ _ _ h) (Or.inl ⟨by rfl, ?_⟩) (by assumption) ?_
  · (intro w0 hSw; go_simp)
  refine wpAnyH_take (i := 9) (v := .int .i32 ((P : Int) / 16)) rfl (by kernel_rfl) (by kernel_rfl) (by kernel_rfl) (fun _ _ _ h => HQ _ _ _ _ _ h) (Or.inl ⟨by rfl, ?_⟩) (by assumption) ?_
  · (intro w0 hSw; go_simp)
  refine wpAnyH_take (i := 10) (v := .int .i32 (x3 : Int)) rfl (by kernel_rfl) (by kernel_rfl) (by kernel_rfl) (fun _ _ _ h => HQ _ _ _ _ _ h) (Or.inl ⟨by rfl, ?_⟩) (by assumption) ?_
  · (intro w0 hSw; go_simp)
  refine wpAnyH_take (i := 11) (v := .int .u8 (((⟨#[48, 49, 50, 51, 52, 53, 54, 55, 56, 57, 65, 66, 67, 68, 69, 70]⟩ : ByteArray)[x3]'x3l).toNat : Nat)) rfl (by kernel_rfl) (by kernel_rfl) (by kernel_rfl) (fun _ _ _ h => HQ _ _ _ _ _ h) (Or.inl ⟨by rfl, ?_⟩) (by assumption) ?_
  · (intro w0 hSw; go_simp)
  refine wpAnyH_take (i := 12) (v := .int .i32 (P : Int)) rfl (by kernel_rfl) (by kernel_rfl) (by kernel_rfl) (fun _ _ _ h => HQ _ _ _ _ _ h) (Or.inl ⟨by rfl, ?_⟩) (by assumption) ?_
  · (intro w0 hSw; go_simp)
  refine wpAnyH_take (i := 13) (v := .int .i32 (x4 : Int)) rfl (by kernel_rfl) (by kernel_rfl) (by kernel_rfl) (fun _ _ _ h => HQ _ _ _ _ _ h) (Or.inl ⟨by rfl, ?_⟩) (by assumption) ?_
  · (intro w0 hSw; go_simp)
  refine wpAnyH_take (i := 14) (v := .int .u8 (((⟨#[48, 49, 50, 51, 52, 53, 54, 55, 56, 57, 65, 66, 67, 68, 69, 70]⟩ : ByteArray)[x4]'x4l).toNat : Nat)) rfl (by kernel_rfl) (by kernel_rfl) (by kernel_rfl) (fun _ _ _ h => HQ _ _ _ _ _ h) (Or.inl ⟨by rfl, ?_⟩) (by assumption) ?_
  · (intro w0 hSw; go_simp)
  refine wpAnyH_ready (rs := [15]) (by kernel_rfl) (by simp) ?_
  refine AllReadyH.cons rfl (fun K hK => ?_) AllReadyH.nil
  go_simp
  refine hK.out _ _ trivial (fun hHeld => ?_)
  clear hK K
  refine wpAnyH_ready (rs := [16]) (by kernel_rfl) (by simp) ?_
  refine AllReadyH.cons rfl (fun K hK => ?_) AllReadyH.nil
  refine step_append_lies _ (by rfl) (.tmp 112) (.tmp 127) 31 (by rfl) w.heap.size 5 i0 (.int .u8 0) 1 1 Try.underlying31 hi hz0 hz1 hz2 rfl (by decide) u10 ([34] ++ out).length (Lib.byteCells ([34] ++ out)) (by rfl) ((hown.alloc _).drew) ⟨wr.heap.size, 0, none⟩ 6 6 [.int .u8 92, .int .u8 117, .int .u8 (((⟨#[48, 49, 50, 51, 52, 53, 54, 55, 56, 57, 65, 66, 67, 68, 69, 70]⟩ : ByteArray)[x1]'x1l).toNat : Nat), .int .u8 (((⟨#[48, 49, 50, 51, 52, 53, 54, 55, 56, 57, 65, 66, 67, 68, 69, 70]⟩ : ByteArray)[x2]'x2l).toNat : Nat), .int .u8 (((⟨#[48, 49, 50, 51, 52, 53, 54, 55, 56, 57, 65, 66, 67, 68, 69, 70]⟩ : ByteArray)[x3]'x3l).toNat : Nat), .int .u8 (((⟨#[48, 49, 50, 51, 52, 53, 54, 55, 56, 57, 65, 66, 67, 68, 69, 70]⟩ : ByteArray)[x4]'x4l).toNat : Nat)] (by rfl) (by rfl) (World.news_of_block (cs := #[.int .u8 92, .int .u8 117, .int .u8 (((⟨#[48, 49, 50, 51, 52, 53, 54, 55, 56, 57, 65, 66, 67, 68, 69, 70]⟩ : ByteArray)[x1]'x1l).toNat : Nat), .int .u8 (((⟨#[48, 49, 50, 51, 52, 53, 54, 55, 56, 57, 65, 66, 67, 68, 69, 70]⟩ : ByteArray)[x2]'x2l).toNat : Nat), .int .u8 (((⟨#[48, 49, 50, 51, 52, 53, 54, 55, 56, 57, 65, 66, 67, 68, 69, 70]⟩ : ByteArray)[x3]'x3l).toNat : Nat), .int .u8 (((⟨#[48, 49, 50, 51, 52, 53, 54, 55, 56, 57, 65, 66, 67, 68, 69, 70]⟩ : ByteArray)[x4]'x4l).toNat : Nat)]) (t := 5) (fr := (0, 0)) (heap_alloc_new wr _)) (c2_six _ _ _ _ _ _) (by omega) d1 d2 (by simp; omega) (wr.heap.size + 1) (by simp) ?_
  intro g cap w1 hown' hgrow _ _
  have R := Lib.hid (own_drew (ys := [92, 117, hex.getD x1 0, hex.getD x2 0, hex.getD x3 0, hex.getD x4 0]) hWs hown hW (by rw [← hx_at x1 x1l, ← hx_at x2 x2l, ← hx_at x3 x3l, ← hx_at x4 x4l]; exact hown') hgrow)
  clear hown' hgrow
  refine hK.out _ _ trivial (fun hHeld => ?_)
  clear hK K
  refine wpAnyH_take (i := 17) (v := .slice (some ⟨g, 0, none⟩) (([34] ++ out).length + 6) cap) rfl (by kernel_rfl) (by kernel_rfl) (by kernel_rfl) (fun _ _ _ h => HQ _ _ _ _ _ h) (Or.inl ⟨by rfl, ?_⟩) (by assumption) ?_
  · (intro w0 hSw; go_simp)
  refine wpAnyH_done (by kernel_rfl) ?_ _
  clear xe1 xe2 xe3 xe4
  go_simp
  exact HK.out _ _ _ _ _ _ _ _ _ _ _ _ _ _ _ _ _ _ _ _ (esc_six _ _ _ _ (hex_four _ _ _ _ x1l x2l x3l x4l)) (by simp) (by rw [← List.append_assoc]; exact R.out.1) R.out.2
end Go.Proofs.Ytpnigcljndjmlaa.body
