/- The great loop's body, and its rounds at the escapes of digits. -/
import Derived.Test.YtpnigcljndjmlaaQuoteS
namespace Go.Proofs.Ytpnigcljndjmlaa.body
open Go.RowKit
open kit pt wtf
set_option linter.unusedVariables false

set_option maxRecDepth 1000000 in
set_option maxHeartbeats 6400000 in
theorem round41 {s : ByteArray} {a : Bool} {w wr : World} {out : List UInt8} {i n : Nat} {u3 u4 u5 u6 u7 u8 u9 u10 u13 u14 u15 u16 u17 u18 u19 u20 u21 u22 u23 u24 u25 u26 u27 u28 u29 u30 u31 u32 u33 u34 u35 u36 u37 u38 u39 u40 u41 u42 u43 u44 u45 u46 u47 u48 u49 u50 u51 u52 u53 u54 u55 u56 u57 u58 u59 u60 u61 u62 u63 u64 u65 u66 u67 u68 u69 u70 u71 u72 u73 u74 u75 u76 u77 u78 u79 u80 u81 u82 u83 u84 u85 u86 u87 u88 u89 u90 u91 u92 u93 u94 u95 u96 u97 u98 u99 u100 u101 u102 u103 u104 u105 u106 u107 u108 u109 u110 u111 u112 u113 u114 u115 u116 u117 u118 u119 u120 u121 u122 u123 u124 u125 u126 u127 u128 u129 u130 u131 u132 u133 u134 u135 u136 u137 u138 u139 u140 u141 u142 u143 u144 u145 u146 u147 u148 u149 u150 u151 u152 u153 u154 u155 u156 u157 u158 u159 u160 u161 u162 u163 u164 u165 u166 u167 u168 u169 u170 u171 u172 u173 u174 u175 u176 u177 u178 u179 u180 u181 u182 u183 u184 u185 u186 u187 u188 u189 u190 u191 u192 u193 u194 u195 u196 u197 u198 u199 u200 u201 u202 u203 u204 u205 u206 u207 u208 u209 u210 u211 u212 u213 u214 u215 u216 u217 u218 u219 u220 u221 u222 u223 u224 u225 u226 u227 u228 u229 u230 : Value} {K0 : Act → World → Prop} {Q0 : Exit → Act → World → Prop}
    {P : Nat} (h7 : ¬ ((P : Int) = 8 ∨ (P : Int) = 12 ∨ (P : Int) = 10 ∨ (P : Int) = 13 ∨ (P : Int) = 9 ∨ (P : Int) = 92 ∨ (P : Int) = 34)) (hch : Ch (s.data.toList.drop i) (P : Int) n) (hcan : canP (P : Int) a = false) (h16 : P ≤ 65535) (hs : s.size ≤ 1048576) (hlt : i < s.size) (hvn : Vld ((s.data.toList.drop i).drop n)) (hlen : out.length ≤ 12 * i) (hW : Below w.heap.size w wr) (hbody : Body out) (hown : wr.ownsRow w.heap.size 5 1 u10 ([34] ++ out).length (Lib.byteCells ([34] ++ out)))
    (HQ : ∀ (c : _) (a : Act) (d : Option Nat) (v : Value) (w : World), Q0 (.panic c) (a.put d v) w → Q0 (.panic c) a w)
    (hk0 : ∀ (z10 z11 z13 z14 z15 z16 z17 z66 z67 z68 z69 z70 z71 z72 z73 z74 z75 z76 z77 z78 z79 z80 z81 z82 z83 z84 z85 z86 z87 z88 z89 z90 z91 z92 z93 z94 z95 z96 z97 z98 z99 z100 z101 z102 z103 z104 z105 z106 z107 z108 z109 z110 z111 z112 z113 z114 z115 z116 z117 z118 z119 z120 z121 z122 z123 z124 z125 z126 z127 z128 z129 z130 z131 z132 z133 z134 z135 z136 z137 z138 z139 z140 z141 z142 z143 z144 z145 z146 z147 z148 z149 z150 z151 z152 z153 z154 z155 z156 z157 z158 z159 z160 z161 z162 z163 z164 z165 z166 z167 z168 z169 z170 z171 z172 z173 z174 z175 z176 z177 z178 z179 z180 z181 z182 z183 z184 z185 z186 z187 z188 z189 z190 z191 z192 z193 z194 z195 z196 z197 z198 z199 z200 z201 z202 z203 z204 z205 z206 z207 z208 z209 z210 z211 z212 z213 z214 z215 z216 z217 z218 z219 z220 z221 z222 z223 z224 z225 z226 : Value) (w1 : World) (i' : Nat) (out' : List UInt8), z11 = .int .i64 (i' : Nat) → i < i' → i' ≤ s.size → w1.ownsRow w.heap.size 5 1 z10 ([34] ++ out').length (Lib.byteCells ([34] ++ out')) → Body out' → out'.length ≤ 12 * i' → Vld (s.data.toList.drop i') → Below w.heap.size w w1 → K0 ⟨#[.string s, .bool a, .int .u8 34, u3, u4, u5, u6, u7, u8, u9, z10, z11, .int .i64 (s.size : Nat), z13, z14, z15, z16, z17, u18, u19, u20, u21, u22, u23, u24, u25, u26, u27, u28, u29, u30, u31, u32, u33, u34, u35, u36, u37, u38, u39, u40, u41, u42, u43, u44, u45, u46, u47, u48, u49, u50, u51, u52, u53, u54, u55, u56, u57, u58, u59, u60, u61, u62, u63, u64, u65, z66, z67, z68, z69, z70, z71, z72, z73, z74, z75, z76, z77, z78, z79, z80, z81, z82, z83, z84, z85, z86, z87, z88, z89, z90, z91, z92, z93, z94, z95, z96, z97, z98, z99, z100, z101, z102, z103, z104, z105, z106, z107, z108, z109, z110, z111, z112, z113, z114, z115, z116, z117, z118, z119, z120, z121, z122, z123, z124, z125, z126, z127, z128, z129, z130, z131, z132, z133, z134, z135, z136, z137, z138, z139, z140, z141, z142, z143, z144, z145, z146, z147, z148, z149, z150, z151, z152, z153, z154, z155, z156, z157, z158, z159, z160, z161, z162, z163, z164, z165, z166, z167, z168, z169, z170, z171, z172, z173, z174, z175, z176, z177, z178, z179, z180, z181, z182, z183, z184, z185, z186, z187, z188, z189, z190, z191, z192, z193, z194, z195, z196, z197, z198, z199, z200, z201, z202, z203, z204, z205, z206, z207, z208, z209, z210, z211, z212, z213, z214, z215, z216, z217, z218, z219, z220, z221, z222, z223, z224, z225, z226, u227, u228, u229, u230], []⟩ w1) :
    Code.wp Try.prog bodyG (Exit.then K0 Q0) ⟨#[.string s, .bool a, .int .u8 34, u3, u4, u5, u6, u7, u8, u9, u10, .int .i64 (i : Nat), .int .i64 (s.size : Nat), u13, u14, u15, u16, u17, u18, u19, u20, u21, u22, u23, u24, u25, u26, u27, u28, u29, u30, u31, u32, u33, u34, u35, u36, u37, u38, u39, u40, u41, u42, u43, u44, u45, u46, u47, u48, u49, u50, u51, u52, u53, u54, u55, u56, u57, u58, u59, u60, u61, u62, u63, u64, u65, u66, u67, u68, u69, u70, u71, u72, u73, u74, u75, u76, u77, u78, u79, u80, u81, u82, u83, u84, u85, u86, u87, u88, u89, u90, u91, u92, u93, u94, u95, u96, u97, u98, u99, u100, u101, u102, u103, u104, u105, u106, u107, u108, u109, u110, u111, u112, u113, u114, u115, u116, u117, u118, u119, u120, u121, u122, u123, u124, u125, u126, u127, u128, u129, u130, u131, u132, u133, u134, u135, u136, u137, u138, u139, u140, u141, u142, u143, u144, u145, u146, u147, u148, u149, u150, u151, u152, u153, u154, u155, u156, u157, u158, u159, u160, u161, u162, u163, u164, u165, u166, u167, u168, u169, u170, u171, u172, u173, u174, u175, u176, u177, u178, u179, u180, u181, u182, u183, u184, u185, u186, u187, u188, u189, u190, u191, u192, u193, u194, u195, u196, u197, u198, u199, u200, u201, u202, u203, u204, u205, u206, u207, u208, u209, u210, u211, u212, u213, u214, u215, u216, u217, u218, u219, u220, u221, u222, u223, u224, u225, u226, u227, u228, u229, u230], []⟩ wr := by
  obtain ⟨i0, hi, hz0, hz1, hz2⟩ := info_parts info_u8
  have HK := Lib.hid hk0
  clear hk0
  have hi1 : i ≤ s.size := by omega
  have HB := Lib.hid hbody
  have HO := Lib.hid hown
  have hWs := hW.size
  clear hbody hown
  let Qd : Exit → Act → World → Prop := bodyPost Try.prog Try.f13 (fun _ _ => True)
  conv => arg 2; whnf
  have hl := hch.len
  have hp := hch.bd
  have hdl : (s.data.toList.drop i).length = s.size - i := by rw [List.length_drop, Array.length_toList]; rfl
  have X := Lib.hid (fun W : World => wtf_any (s.extract i s.size) (P : Int) n W (by rw [ByteArray.size_extract]; omega) (by rw [ext_drop]; exact hch))
  have HCH := Lib.hid hch
  rw [List.drop_drop] at hvn
  have HVN := Lib.hid hvn
  have hn1 : 1 ≤ n := hl.1
  have hn2 : i + n ≤ s.size := by omega
  obtain ⟨p0, p1, p2⟩ := hp
  clear hl hdl hch hvn
  go_wp2_with fail
  refine (X.out _).mono ?_
  rintro e w' ⟨rfl, rfl⟩
  have Y := Lib.hid (fun W : World => can_no (P : Int) a W hcan)
  have h39 : (P : Int) ≠ 39 := fun q => by rw [q] at hcan; cases hcan
  clear hcan
  go_wp2_with fail
  refine (Y.out _).mono ?_
  rintro e w' ⟨rfl, rfl⟩
  clear X Y
  have hown := HO.out
  have e1 : ((P : Int) == 8) = false := by rw [beq_eq_false_iff_ne]; omega
  have e2 : ((P : Int) == 12) = false := by rw [beq_eq_false_iff_ne]; omega
  have e3 : ((P : Int) == 10) = false := by rw [beq_eq_false_iff_ne]; omega
  have e4 : ((P : Int) == 13) = false := by rw [beq_eq_false_iff_ne]; omega
  have e5 : ((P : Int) == 9) = false := by rw [beq_eq_false_iff_ne]; omega
  have e6 : ((P : Int) == 92) = false := by rw [beq_eq_false_iff_ne]; omega
  have e7 : ((P : Int) == 34) = false := by rw [beq_eq_false_iff_ne]; omega
  have e8 : ((P : Int) == 39) = false := by rw [beq_eq_false_iff_ne]; omega
  clear h7 h39 p2
  have h16' : (P : Int) ≤ 65535 := by omega
  go_upto_region 41 with (fail)
  show Code.wp _ reg41 _ _ _
  refine esc41 h16 (by omega) hW hown (by intro c a1 d v w0 h; exact HQ c a1 d v w0 h) ?_
  intro V y112 y113 y114 y115 y116 y117 y118 y119 y120 y121 y122 y123 y124 y125 y126 y127 y128 w1 ys hys hyl hown' hb'
  have R := Lib.hid hown'
  have RB := Lib.hid hb'
  clear hown' hb' hown
  go_wp2_with fail
  exact HK.out _ _ _ _ _ _ _ _ _ _ _ _ _ _ _ _ _ _ _ _ _ _ _ _ _ _ _ _ _ _ _ _ _ _ _ _ _ _ _ _ _ _ _ _ _ _ _ _ _ _ _ _ _ _ _ _ _ _ _ _ _ _ _ _ _ _ _ _ _ _ _ _ _ _ _ _ _ _ _ _ _ _ _ _ _ _ _ _ _ _ _ _ _ _ _ _ _ _ _ _ _ _ _ _ _ _ _ _ _ _ _ _ _ _ _ _ _ _ _ _ _ _ _ _ _ _ _ _ _ _ _ _ _ _ _ _ _ _ _ _ _ _ _ _ _ _ _ _ _ _ _ _ _ _ _ _ _ _ _ _ _ _ _ _ _ _ _ _ _ (i + n) (out ++ ys) (by go_num) (by omega) (by omega) (R.out) (HB.out.append hys) (by rw [List.length_append]; omega) HVN.out (RB.out)
set_option maxRecDepth 1000000 in
set_option maxHeartbeats 6400000 in
theorem round45 {s : ByteArray} {a : Bool} {w wr : World} {out : List UInt8} {i n : Nat} {u3 u4 u5 u6 u7 u8 u9 u10 u13 u14 u15 u16 u17 u18 u19 u20 u21 u22 u23 u24 u25 u26 u27 u28 u29 u30 u31 u32 u33 u34 u35 u36 u37 u38 u39 u40 u41 u42 u43 u44 u45 u46 u47 u48 u49 u50 u51 u52 u53 u54 u55 u56 u57 u58 u59 u60 u61 u62 u63 u64 u65 u66 u67 u68 u69 u70 u71 u72 u73 u74 u75 u76 u77 u78 u79 u80 u81 u82 u83 u84 u85 u86 u87 u88 u89 u90 u91 u92 u93 u94 u95 u96 u97 u98 u99 u100 u101 u102 u103 u104 u105 u106 u107 u108 u109 u110 u111 u112 u113 u114 u115 u116 u117 u118 u119 u120 u121 u122 u123 u124 u125 u126 u127 u128 u129 u130 u131 u132 u133 u134 u135 u136 u137 u138 u139 u140 u141 u142 u143 u144 u145 u146 u147 u148 u149 u150 u151 u152 u153 u154 u155 u156 u157 u158 u159 u160 u161 u162 u163 u164 u165 u166 u167 u168 u169 u170 u171 u172 u173 u174 u175 u176 u177 u178 u179 u180 u181 u182 u183 u184 u185 u186 u187 u188 u189 u190 u191 u192 u193 u194 u195 u196 u197 u198 u199 u200 u201 u202 u203 u204 u205 u206 u207 u208 u209 u210 u211 u212 u213 u214 u215 u216 u217 u218 u219 u220 u221 u222 u223 u224 u225 u226 u227 u228 u229 u230 : Value} {K0 : Act → World → Prop} {Q0 : Exit → Act → World → Prop}
    {P : Nat} (h7 : ¬ ((P : Int) = 8 ∨ (P : Int) = 12 ∨ (P : Int) = 10 ∨ (P : Int) = 13 ∨ (P : Int) = 9 ∨ (P : Int) = 92 ∨ (P : Int) = 34)) (hch : Ch (s.data.toList.drop i) (P : Int) n) (hcan : canP (P : Int) a = false) (h16 : ¬ P ≤ 65535) (hs : s.size ≤ 1048576) (hlt : i < s.size) (hvn : Vld ((s.data.toList.drop i).drop n)) (hlen : out.length ≤ 12 * i) (hW : Below w.heap.size w wr) (hbody : Body out) (hown : wr.ownsRow w.heap.size 5 1 u10 ([34] ++ out).length (Lib.byteCells ([34] ++ out)))
    (HQ : ∀ (c : _) (a : Act) (d : Option Nat) (v : Value) (w : World), Q0 (.panic c) (a.put d v) w → Q0 (.panic c) a w)
    (hk0 : ∀ (z10 z11 z13 z14 z15 z16 z17 z66 z67 z68 z69 z70 z71 z72 z73 z74 z75 z76 z77 z78 z79 z80 z81 z82 z83 z84 z85 z86 z87 z88 z89 z90 z91 z92 z93 z94 z95 z96 z97 z98 z99 z100 z101 z102 z103 z104 z105 z106 z107 z108 z109 z110 z111 z112 z113 z114 z115 z116 z117 z118 z119 z120 z121 z122 z123 z124 z125 z126 z127 z128 z129 z130 z131 z132 z133 z134 z135 z136 z137 z138 z139 z140 z141 z142 z143 z144 z145 z146 z147 z148 z149 z150 z151 z152 z153 z154 z155 z156 z157 z158 z159 z160 z161 z162 z163 z164 z165 z166 z167 z168 z169 z170 z171 z172 z173 z174 z175 z176 z177 z178 z179 z180 z181 z182 z183 z184 z185 z186 z187 z188 z189 z190 z191 z192 z193 z194 z195 z196 z197 z198 z199 z200 z201 z202 z203 z204 z205 z206 z207 z208 z209 z210 z211 z212 z213 z214 z215 z216 z217 z218 z219 z220 z221 z222 z223 z224 z225 z226 : Value) (w1 : World) (i' : Nat) (out' : List UInt8), z11 = .int .i64 (i' : Nat) → i < i' → i' ≤ s.size → w1.ownsRow w.heap.size 5 1 z10 ([34] ++ out').length (Lib.byteCells ([34] ++ out')) → Body out' → out'.length ≤ 12 * i' → Vld (s.data.toList.drop i') → Below w.heap.size w w1 → K0 ⟨#[.string s, .bool a, .int .u8 34, u3, u4, u5, u6, u7, u8, u9, z10, z11, .int .i64 (s.size : Nat), z13, z14, z15, z16, z17, u18, u19, u20, u21, u22, u23, u24, u25, u26, u27, u28, u29, u30, u31, u32, u33, u34, u35, u36, u37, u38, u39, u40, u41, u42, u43, u44, u45, u46, u47, u48, u49, u50, u51, u52, u53, u54, u55, u56, u57, u58, u59, u60, u61, u62, u63, u64, u65, z66, z67, z68, z69, z70, z71, z72, z73, z74, z75, z76, z77, z78, z79, z80, z81, z82, z83, z84, z85, z86, z87, z88, z89, z90, z91, z92, z93, z94, z95, z96, z97, z98, z99, z100, z101, z102, z103, z104, z105, z106, z107, z108, z109, z110, z111, z112, z113, z114, z115, z116, z117, z118, z119, z120, z121, z122, z123, z124, z125, z126, z127, z128, z129, z130, z131, z132, z133, z134, z135, z136, z137, z138, z139, z140, z141, z142, z143, z144, z145, z146, z147, z148, z149, z150, z151, z152, z153, z154, z155, z156, z157, z158, z159, z160, z161, z162, z163, z164, z165, z166, z167, z168, z169, z170, z171, z172, z173, z174, z175, z176, z177, z178, z179, z180, z181, z182, z183, z184, z185, z186, z187, z188, z189, z190, z191, z192, z193, z194, z195, z196, z197, z198, z199, z200, z201, z202, z203, z204, z205, z206, z207, z208, z209, z210, z211, z212, z213, z214, z215, z216, z217, z218, z219, z220, z221, z222, z223, z224, z225, z226, u227, u228, u229, u230], []⟩ w1) :
    Code.wp Try.prog bodyG (Exit.then K0 Q0) ⟨#[.string s, .bool a, .int .u8 34, u3, u4, u5, u6, u7, u8, u9, u10, .int .i64 (i : Nat), .int .i64 (s.size : Nat), u13, u14, u15, u16, u17, u18, u19, u20, u21, u22, u23, u24, u25, u26, u27, u28, u29, u30, u31, u32, u33, u34, u35, u36, u37, u38, u39, u40, u41, u42, u43, u44, u45, u46, u47, u48, u49, u50, u51, u52, u53, u54, u55, u56, u57, u58, u59, u60, u61, u62, u63, u64, u65, u66, u67, u68, u69, u70, u71, u72, u73, u74, u75, u76, u77, u78, u79, u80, u81, u82, u83, u84, u85, u86, u87, u88, u89, u90, u91, u92, u93, u94, u95, u96, u97, u98, u99, u100, u101, u102, u103, u104, u105, u106, u107, u108, u109, u110, u111, u112, u113, u114, u115, u116, u117, u118, u119, u120, u121, u122, u123, u124, u125, u126, u127, u128, u129, u130, u131, u132, u133, u134, u135, u136, u137, u138, u139, u140, u141, u142, u143, u144, u145, u146, u147, u148, u149, u150, u151, u152, u153, u154, u155, u156, u157, u158, u159, u160, u161, u162, u163, u164, u165, u166, u167, u168, u169, u170, u171, u172, u173, u174, u175, u176, u177, u178, u179, u180, u181, u182, u183, u184, u185, u186, u187, u188, u189, u190, u191, u192, u193, u194, u195, u196, u197, u198, u199, u200, u201, u202, u203, u204, u205, u206, u207, u208, u209, u210, u211, u212, u213, u214, u215, u216, u217, u218, u219, u220, u221, u222, u223, u224, u225, u226, u227, u228, u229, u230], []⟩ wr := by
  obtain ⟨i0, hi, hz0, hz1, hz2⟩ := info_parts info_u8
  have HK := Lib.hid hk0
  clear hk0
  have hi1 : i ≤ s.size := by omega
  have HB := Lib.hid hbody
  have HO := Lib.hid hown
  have hWs := hW.size
  clear hbody hown
  let Qd : Exit → Act → World → Prop := bodyPost Try.prog Try.f13 (fun _ _ => True)
  conv => arg 2; whnf
  have hl := hch.len
  have hp := hch.bd
  have hdl : (s.data.toList.drop i).length = s.size - i := by rw [List.length_drop, Array.length_toList]; rfl
  have X := Lib.hid (fun W : World => wtf_any (s.extract i s.size) (P : Int) n W (by rw [ByteArray.size_extract]; omega) (by rw [ext_drop]; exact hch))
  have HCH := Lib.hid hch
  rw [List.drop_drop] at hvn
  have HVN := Lib.hid hvn
  have hn1 : 1 ≤ n := hl.1
  have hn2 : i + n ≤ s.size := by omega
  obtain ⟨p0, p1, p2⟩ := hp
  clear hl hdl hch hvn
  go_wp2_with fail
  refine (X.out _).mono ?_
  rintro e w' ⟨rfl, rfl⟩
  have Y := Lib.hid (fun W : World => can_no (P : Int) a W hcan)
  have h39 : (P : Int) ≠ 39 := fun q => by rw [q] at hcan; cases hcan
  clear hcan
  go_wp2_with fail
  refine (Y.out _).mono ?_
  rintro e w' ⟨rfl, rfl⟩
  clear X Y
  have hown := HO.out
  have e1 : ((P : Int) == 8) = false := by rw [beq_eq_false_iff_ne]; omega
  have e2 : ((P : Int) == 12) = false := by rw [beq_eq_false_iff_ne]; omega
  have e3 : ((P : Int) == 10) = false := by rw [beq_eq_false_iff_ne]; omega
  have e4 : ((P : Int) == 13) = false := by rw [beq_eq_false_iff_ne]; omega
  have e5 : ((P : Int) == 9) = false := by rw [beq_eq_false_iff_ne]; omega
  have e6 : ((P : Int) == 92) = false := by rw [beq_eq_false_iff_ne]; omega
  have e7 : ((P : Int) == 34) = false := by rw [beq_eq_false_iff_ne]; omega
  have e8 : ((P : Int) == 39) = false := by rw [beq_eq_false_iff_ne]; omega
  clear h7 h39 p2
  have h16' : 65535 < (P : Int) := by omega
  obtain ⟨A1, a1, a2⟩ := and1023 (P - 65536) 1024 (by omega)
  obtain ⟨B1, b1, b2⟩ := and1023 (P - 65536) 1 (by omega)
  rw [show ((P - 65536 : Nat) : Int) = (P : Int) - 65536 from by omega] at a2 b2
  rw [show ((P : Int) - 65536) / ((1 : Nat) : Int) = (P : Int) - 65536 from Int.ediv_one _] at b2
  obtain ⟨L, hL⟩ : ∃ L : Nat, L = 55296 + A1 := ⟨_, rfl⟩
  obtain ⟨M, hM⟩ : ∃ M : Nat, M = 56320 + B1 := ⟨_, rfl⟩
  have hL' : (55296 : Int) + (A1 : Int) = (L : Int) := by omega
  have hM' : (56320 : Int) + (B1 : Int) = (M : Int) := by omega
  have hLb : L ≤ 65535 := by omega
  have hMb : M ≤ 65535 := by omega
  have A2 : bits .and .i32 (((P : Int) - 65536) / 1024) 1023 = (A1 : Int) := a2
  clear h16 a2 hL hM
  go_upto_region 45 with (fail)
  show Code.wp _ reg45 _ _ _
  refine esc45 hLb hMb (by omega) hW hown (by intro c a1 d v w0 h; exact HQ c a1 d v w0 h) ?_
  intro V y138 y139 y140 y141 y142 y143 y144 y145 y146 y147 y148 y149 y150 y151 y152 y153 y154 y155 y156 y157 y158 y159 y160 y161 y162 y163 y164 y165 y166 y167 y168 w1 ys hys hyl hown' hb'
  have R := Lib.hid hown'
  have RB := Lib.hid hb'
  clear hown' hb' hown
  go_wp2_with fail
  exact HK.out _ _ _ _ _ _ _ _ _ _ _ _ _ _ _ _ _ _ _ _ _ _ _ _ _ _ _ _ _ _ _ _ _ _ _ _ _ _ _ _ _ _ _ _ _ _ _ _ _ _ _ _ _ _ _ _ _ _ _ _ _ _ _ _ _ _ _ _ _ _ _ _ _ _ _ _ _ _ _ _ _ _ _ _ _ _ _ _ _ _ _ _ _ _ _ _ _ _ _ _ _ _ _ _ _ _ _ _ _ _ _ _ _ _ _ _ _ _ _ _ _ _ _ _ _ _ _ _ _ _ _ _ _ _ _ _ _ _ _ _ _ _ _ _ _ _ _ _ _ _ _ _ _ _ _ _ _ _ _ _ _ _ _ _ _ _ _ _ _ (i + n) (out ++ ys) (by go_num) (by omega) (by omega) (R.out) (HB.out.append hys) (by rw [List.length_append]; omega) HVN.out (RB.out)
end Go.Proofs.Ytpnigcljndjmlaa.body
