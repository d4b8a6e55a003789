/- The great loop's body, and its round at a sign that is printed. -/
import Derived.Test.YtpnigcljndjmlaaQuoteR45
namespace Go.Proofs.Ytpnigcljndjmlaa.body
open Go.RowKit
open kit pt wtf
set_option linter.unusedVariables false

def loopOf (n : Nat) : Code → Option Code
  | .loop c => if (regionOf n c).isSome then some c else none
  | .seq a b => match loopOf n a with
    | some c => some c
    | none => loopOf n b
  | .block _ c => loopOf n c
  | .scope c => loopOf n c
  | .cond _ a b => match loopOf n a with
    | some c => some c
    | none => loopOf n b
  | _ => none
noncomputable def bodyG : Code := ((Try.f13.body.bind (loopOf 41)).getD .skip)
set_option maxRecDepth 1000000 in
set_option maxHeartbeats 6400000 in
theorem roundT {s : ByteArray} {a : Bool} {w wr : World} {out : List UInt8} {i n : Nat} {u3 u4 u5 u6 u7 u8 u9 u10 u13 u14 u15 u16 u17 u18 u19 u20 u21 u22 u23 u24 u25 u26 u27 u28 u29 u30 u31 u32 u33 u34 u35 u36 u37 u38 u39 u40 u41 u42 u43 u44 u45 u46 u47 u48 u49 u50 u51 u52 u53 u54 u55 u56 u57 u58 u59 u60 u61 u62 u63 u64 u65 u66 u67 u68 u69 u70 u71 u72 u73 u74 u75 u76 u77 u78 u79 u80 u81 u82 u83 u84 u85 u86 u87 u88 u89 u90 u91 u92 u93 u94 u95 u96 u97 u98 u99 u100 u101 u102 u103 u104 u105 u106 u107 u108 u109 u110 u111 u112 u113 u114 u115 u116 u117 u118 u119 u120 u121 u122 u123 u124 u125 u126 u127 u128 u129 u130 u131 u132 u133 u134 u135 u136 u137 u138 u139 u140 u141 u142 u143 u144 u145 u146 u147 u148 u149 u150 u151 u152 u153 u154 u155 u156 u157 u158 u159 u160 u161 u162 u163 u164 u165 u166 u167 u168 u169 u170 u171 u172 u173 u174 u175 u176 u177 u178 u179 u180 u181 u182 u183 u184 u185 u186 u187 u188 u189 u190 u191 u192 u193 u194 u195 u196 u197 u198 u199 u200 u201 u202 u203 u204 u205 u206 u207 u208 u209 u210 u211 u212 u213 u214 u215 u216 u217 u218 u219 u220 u221 u222 u223 u224 u225 u226 u227 u228 u229 u230 : Value} {K0 : Act → World → Prop} {Q0 : Exit → Act → World → Prop}
    {p : Int} (hch : Ch (s.data.toList.drop i) p n) (hcan : canP p a = true) (hs : s.size ≤ 1048576) (hlt : i < s.size) (hvn : Vld ((s.data.toList.drop i).drop n)) (hlen : out.length ≤ 12 * i) (hW : Below w.heap.size w wr) (hbody : Body out) (hown : wr.ownsRow w.heap.size 5 1 u10 ([34] ++ out).length (Lib.byteCells ([34] ++ out)))
    (HQ : ∀ (c : _) (a : Act) (d : Option Nat) (v : Value) (w : World), Q0 (.panic c) (a.put d v) w → Q0 (.panic c) a w)
    (hk0 : ∀ (z10 z11 z13 z14 z15 z16 z17 z66 z67 z68 z69 z70 z71 z72 z73 z74 z75 z76 z77 z78 z79 z80 z81 z82 z83 z84 z85 z86 z87 z88 z89 z90 z91 z92 z93 z94 z95 z96 z97 z98 z99 z100 z101 z102 z103 z104 z105 z106 z107 z108 z109 z110 z111 z112 z113 z114 z115 z116 z117 z118 z119 z120 z121 z122 z123 z124 z125 z126 z127 z128 z129 z130 z131 z132 z133 z134 z135 z136 z137 z138 z139 z140 z141 z142 z143 z144 z145 z146 z147 z148 z149 z150 z151 z152 z153 z154 z155 z156 z157 z158 z159 z160 z161 z162 z163 z164 z165 z166 z167 z168 z169 z170 z171 z172 z173 z174 z175 z176 z177 z178 z179 z180 z181 z182 z183 z184 z185 z186 z187 z188 z189 z190 z191 z192 z193 z194 z195 z196 z197 z198 z199 z200 z201 z202 z203 z204 z205 z206 z207 z208 z209 z210 z211 z212 z213 z214 z215 z216 z217 z218 z219 z220 z221 z222 z223 z224 z225 z226 : Value) (w1 : World) (i' : Nat) (out' : List UInt8), z11 = .int .i64 (i' : Nat) → i < i' → i' ≤ s.size → w1.ownsRow w.heap.size 5 1 z10 ([34] ++ out').length (Lib.byteCells ([34] ++ out')) → Body out' → out'.length ≤ 12 * i' → Vld (s.data.toList.drop i') → Below w.heap.size w w1 → K0 ⟨#[.string s, .bool a, .int .u8 34, u3, u4, u5, u6, u7, u8, u9, z10, z11, .int .i64 (s.size : Nat), z13, z14, z15, z16, z17, u18, u19, u20, u21, u22, u23, u24, u25, u26, u27, u28, u29, u30, u31, u32, u33, u34, u35, u36, u37, u38, u39, u40, u41, u42, u43, u44, u45, u46, u47, u48, u49, u50, u51, u52, u53, u54, u55, u56, u57, u58, u59, u60, u61, u62, u63, u64, u65, z66, z67, z68, z69, z70, z71, z72, z73, z74, z75, z76, z77, z78, z79, z80, z81, z82, z83, z84, z85, z86, z87, z88, z89, z90, z91, z92, z93, z94, z95, z96, z97, z98, z99, z100, z101, z102, z103, z104, z105, z106, z107, z108, z109, z110, z111, z112, z113, z114, z115, z116, z117, z118, z119, z120, z121, z122, z123, z124, z125, z126, z127, z128, z129, z130, z131, z132, z133, z134, z135, z136, z137, z138, z139, z140, z141, z142, z143, z144, z145, z146, z147, z148, z149, z150, z151, z152, z153, z154, z155, z156, z157, z158, z159, z160, z161, z162, z163, z164, z165, z166, z167, z168, z169, z170, z171, z172, z173, z174, z175, z176, z177, z178, z179, z180, z181, z182, z183, z184, z185, z186, z187, z188, z189, z190, z191, z192, z193, z194, z195, z196, z197, z198, z199, z200, z201, z202, z203, z204, z205, z206, z207, z208, z209, z210, z211, z212, z213, z214, z215, z216, z217, z218, z219, z220, z221, z222, z223, z224, z225, z226, u227, u228, u229, u230], []⟩ w1) :
    Code.wp Try.prog bodyG (Exit.then K0 Q0) ⟨#[.string s, .bool a, .int .u8 34, u3, u4, u5, u6, u7, u8, u9, u10, .int .i64 (i : Nat), .int .i64 (s.size : Nat), u13, u14, u15, u16, u17, u18, u19, u20, u21, u22, u23, u24, u25, u26, u27, u28, u29, u30, u31, u32, u33, u34, u35, u36, u37, u38, u39, u40, u41, u42, u43, u44, u45, u46, u47, u48, u49, u50, u51, u52, u53, u54, u55, u56, u57, u58, u59, u60, u61, u62, u63, u64, u65, u66, u67, u68, u69, u70, u71, u72, u73, u74, u75, u76, u77, u78, u79, u80, u81, u82, u83, u84, u85, u86, u87, u88, u89, u90, u91, u92, u93, u94, u95, u96, u97, u98, u99, u100, u101, u102, u103, u104, u105, u106, u107, u108, u109, u110, u111, u112, u113, u114, u115, u116, u117, u118, u119, u120, u121, u122, u123, u124, u125, u126, u127, u128, u129, u130, u131, u132, u133, u134, u135, u136, u137, u138, u139, u140, u141, u142, u143, u144, u145, u146, u147, u148, u149, u150, u151, u152, u153, u154, u155, u156, u157, u158, u159, u160, u161, u162, u163, u164, u165, u166, u167, u168, u169, u170, u171, u172, u173, u174, u175, u176, u177, u178, u179, u180, u181, u182, u183, u184, u185, u186, u187, u188, u189, u190, u191, u192, u193, u194, u195, u196, u197, u198, u199, u200, u201, u202, u203, u204, u205, u206, u207, u208, u209, u210, u211, u212, u213, u214, u215, u216, u217, u218, u219, u220, u221, u222, u223, u224, u225, u226, u227, u228, u229, u230], []⟩ wr := by
  obtain ⟨i0, hi, hz0, hz1, hz2⟩ := info_parts info_u8
  have HK := Lib.hid hk0
  clear hk0
  have hi1 : i ≤ s.size := by omega
  have HB := Lib.hid hbody
  have HO := Lib.hid hown
  have hWs := hW.size
  clear hbody hown
  let Qd : Exit → Act → World → Prop := bodyPost Try.prog Try.f13 (fun _ _ => True)
  conv => arg 2; whnf
  have hl := hch.len
  have hp := hch.bd
  have hdl : (s.data.toList.drop i).length = s.size - i := by rw [List.length_drop, Array.length_toList]; rfl
  have X := Lib.hid (fun W : World => wtf_any (s.extract i s.size) p n W (by rw [ByteArray.size_extract]; omega) (by rw [ext_drop]; exact hch))
  have HCH := Lib.hid hch
  rw [List.drop_drop] at hvn
  have HVN := Lib.hid hvn
  have hn1 : 1 ≤ n := hl.1
  have hn2 : i + n ≤ s.size := by omega
  obtain ⟨p0, p1, p2⟩ := hp
  clear hl hdl hch hvn
  go_wp2_with fail
  refine (X.out _).mono ?_
  rintro e w' ⟨rfl, rfl⟩
  have Y := Lib.hid (fun W : World => can_yes p a W hcan)
  go_wp2_with fail
  refine (Y.out _).mono ?_
  rintro e w' ⟨rfl, rfl⟩
  have HBR := Lib.hid (ch_bare HCH.out hcan)
  clear X Y hcan
  go_upto_block 5 with (fail)
  go_cut [11] (fun s11 wx => ∃ j : Nat, s11 = .int .i64 (j : Nat) ∧ i < j ∧ j ≤ s.size ∧ Hid (Vld (s.data.toList.drop j)) ∧ Hid (Bare ((s.data.toList.take j).drop i)) ∧ wx = wr)
  case first =>
    go_wp2_with fail
    go_loopg [11] s.size (fun g s11 wq => ∃ j : Nat, j + g = s.size + (i + n) ∧ s11 = .int .i64 (j : Nat) ∧ i < j ∧ j ≤ s.size ∧ Hid (Vld (s.data.toList.drop j)) ∧ Hid (Bare ((s.data.toList.take j).drop i)) ∧ wq = wr)
    case atStart => exact ⟨i + n, by omega, by go_num, by omega, by omega, HVN, by rw [take_drop_add]; exact HBR, rfl⟩
    case round =>
      obtain ⟨j, hjg, rfl, hj1, hj2, HVj, HBj, rfl⟩ := hrel
      have HJ := Lib.hid hjg
      clear hjg
      by_cases hjl : j < s.size
      · obtain ⟨q, m, hch, hvn⟩ := HVj.out.next (by rw [drop_at s j hjl]; simp)
        have hl := hch.len
        have hdl : (s.data.toList.drop j).length = s.size - j := by rw [List.length_drop, Array.length_toList]; rfl
        have X := Lib.hid (fun W : World => wtf_any (s.extract j s.size) q m W (by rw [ByteArray.size_extract]; omega) (by rw [ext_drop]; exact hch))
        have HCQ := Lib.hid hch
        rw [List.drop_drop] at hvn
        have HVM := Lib.hid hvn
        have hm1 : 1 ≤ m := hl.1
        have hm2 : j + m ≤ s.size := by omega
        clear hl hdl hch hvn
        go_wp2_with fail
        refine (X.out _).mono ?_
        rintro e w' ⟨rfl, rfl⟩
        cases hcq : canP q a with
        | true =>
          have Y := Lib.hid (fun W : World => can_yes q a W hcq)
          have HBQ := Lib.hid (ch_bare HCQ.out hcq)
          clear hcq X
          go_wp2_with fail
          refine (Y.out _).mono ?_
          rintro e w' ⟨rfl, rfl⟩
          clear Y
          go_wp2_with fail
          have hg := HJ.out
          go_roundg (gk - m)
          case measure => omega
          case rel =>
            refine ⟨j + m, by omega, by go_num, by omega, hm2, HVM, ?_, rfl⟩
            rw [take_drop_split s.data.toList i j m (by omega)]
            exact HBj.out.append HBQ.out
        | false =>
          have Y := Lib.hid (fun W : World => can_no q a W hcq)
          clear hcq X
          go_wp2_with fail
          refine (Y.out _).mono ?_
          rintro e w' ⟨rfl, rfl⟩
          clear Y
          go_wp2_with fail
          go_meet
          exact ⟨j, rfl, hj1, hj2, HVj, HBj, rfl⟩
      · obtain rfl : j = s.size := by omega
        go_wp2_with fail
        go_meet
        exact ⟨s.size, rfl, hj1, hj2, HVj, HBj, rfl⟩
  case rest =>
    obtain ⟨j, rfl, hj1, hj2, HVj, HBj, rfl⟩ := hcut
    have hown := HO.out
    have hz : (s.extract i j).size = j - i := by rw [ByteArray.size_extract]; omega
    have d1 : ([34] ++ out).length + (s.extract i j).size ≤ maxLen := by rw [hz]; unfold maxLen; simp; omega
    have d2 : ([34] ++ out).length + (s.extract i j).size ≤ 140737488355328 := by rw [hz]; simp; omega
    have HZ := Lib.hid hz
    clear hz
    go_wp2_with (first
      | (at_builtin; refine Lib.wpList_append_own_string _ rfl _ _ 31 9 rfl w.heap.size 5 i0 Try.underlying31 Try.underlying9 hi hz0 hz1 hz2 _ _ _ rfl hown (s.extract i j) rfl d1 d2 hWs ?_; intro v' w1 hown' hgrow _))
    have R := Lib.hid (own_str (ys := (s.data.toList.take j).drop i) hWs hown hW (by rw [← str_cells, seg_len s i j (by omega) hj2, ← HZ.out]; exact hown') hgrow)
    clear hown' hgrow hown
    go_wp2_with fail
    exact HK.out _ _ _ _ _ _ _ _ _ _ _ _ _ _ _ _ _ _ _ _ _ _ _ _ _ _ _ _ _ _ _ _ _ _ _ _ _ _ _ _ _ _ _ _ _ _ _ _ _ _ _ _ _ _ _ _ _ _ _ _ _ _ _ _ _ _ _ _ _ _ _ _ _ _ _ _ _ _ _ _ _ _ _ _ _ _ _ _ _ _ _ _ _ _ _ _ _ _ _ _ _ _ _ _ _ _ _ _ _ _ _ _ _ _ _ _ _ _ _ _ _ _ _ _ _ _ _ _ _ _ _ _ _ _ _ _ _ _ _ _ _ _ _ _ _ _ _ _ _ _ _ _ _ _ _ _ _ _ _ _ _ _ _ _ _ _ _ _ _ (j) (out ++ (s.data.toList.take j).drop i) (rfl) (by omega) (by omega) (by rw [← List.append_assoc]; exact R.out.1) (HB.out.append HBj.out.body) (by rw [List.length_append, seg_len s i j (by omega) hj2]; omega) HVj.out (R.out.2)
end Go.Proofs.Ytpnigcljndjmlaa.body
