/- The walk of internalQuote at a text in UTF-8. -/
import Derived.Test.YtpnigcljndjmlaaQuoteE
namespace Go.Proofs.Ytpnigcljndjmlaa.body
open Go.RowKit
open kit pt wtf

set_option maxRecDepth 100000 in
set_option maxHeartbeats 12800000 in
theorem quote_any (s : ByteArray) (a : Bool) (w : World) (hs : s.size ≤ 1048576) (hv : Vld s.data.toList) :
    Calls Try.prog 13 #[.string s, .bool a, .int .u8 34] w (Quoted s w) := by
  have HV := Lib.hid hv
  clear hv
  go_enter Try.func13, Try.ntmps13
  go_upto_block 0 with (fail)
  go_cut [7] (fun s7 wx => ∃ E : Nat, s7 = .int .i64 (E : Nat) ∧ 2 ≤ E ∧ E ≤ 2 + 12 * s.size ∧ Below w.heap.size w wx)
  case first =>
    go_wp2_with fail
    go_loopg [7] s.size (fun g s7 wr => ∃ pos E : Nat, pos + g = s.size ∧ wr = w.iter s pos ∧ s7 = .int .i64 (E : Nat) ∧ 2 ≤ E ∧ E ≤ 2 + 12 * pos)
    case atStart => exact ⟨0, 2, by omega, rfl, rfl, by omega, by omega⟩
    case round =>
      obtain ⟨pos, E, hpg, rfl, rfl, hE1, hE2⟩ := hrel
      have HG := Lib.hid hpg
      have hle : pos ≤ s.size := by omega
      clear hpg
      by_cases hp : pos < s.size
      · have hnx : ∀ ty, (Instr.next (.pointer (some ⟨w.heap.size, 0, none⟩)) true ty).run Try.prog (w.iter s pos) = _ := fun ty => run_next_any w s pos ty hp
        obtain ⟨k1, k2⟩ := decode_bd s pos
        have k3 := decode_pos s pos hp
        have k4 := decode_end s pos hp
        obtain ⟨c, hc⟩ : ∃ c, c = (Utf8.decode s pos).1 := ⟨_, rfl⟩
        obtain ⟨d, hd⟩ : ∃ d, d = (Utf8.decode s pos).2 := ⟨_, rfl⟩
        rw [← hc, ← hd] at hnx
        rw [← hc] at k1 k2
        rw [← hd] at k3 k4
        clear hc hd
        cases hcan : canP (c : Int) a with
        | true =>
          have X := Lib.hid (fun W : World => can_yes (c : Int) a W hcan)
          have Y := Lib.hid (fun W : World => rune_len (c : Int) W (by omega) (by omega) (by omega))
          clear hcan k2
          go_wp2_with fail
          refine (X.out _).mono ?_
          rintro e w' ⟨rfl, rfl⟩
          go_wp2_with fail
          refine (Y.out _).mono ?_
          rintro e w' ⟨n, n1, n2, rfl, rfl⟩
          clear X Y
          obtain ⟨m, rfl⟩ : ∃ m : Nat, n = (m : Int) := ⟨n.toNat, by omega⟩
          go_wp2_with fail
          have hg := HG.out
          go_roundg (gk - d)
          case measure => omega
          case rel => exact ⟨pos + d, E + m, by omega, rfl, by go_num, by omega, by omega⟩
        | false =>
          have X := Lib.hid (fun W : World => can_no (c : Int) a W hcan)
          clear hcan k2
          go_wp2_with fail
          refine (X.out _).mono ?_
          rintro e w' ⟨rfl, rfl⟩
          clear X
          go_wp2_with fail
          all_goals
            have hg := HG.out
            go_roundg (gk - d)
            case measure => omega
            case rel =>
              first
                | exact ⟨pos + d, E, by omega, rfl, rfl, by omega, by omega⟩
                | exact ⟨pos + d, E + 2, by omega, rfl, by go_num, by omega, by omega⟩
                | exact ⟨pos + d, E + 6, by omega, rfl, by go_num, by omega, by omega⟩
                | exact ⟨pos + d, E + 12, by omega, rfl, by go_num, by omega, by omega⟩
      · obtain rfl : pos = s.size := by omega
        clear hle
        have hnx : ∀ ty, (Instr.next (.pointer (some ⟨w.heap.size, 0, none⟩)) true ty).run Try.prog (w.iter s s.size) = _ := fun ty => run_next_end w s s.size ty hp
        clear hp
        go_wp2_with fail
        go_meet
        exact ⟨E, rfl, hE1, hE2, below_iter w s _⟩
  case rest =>
    obtain ⟨E, rfl, hE1, hE2, hW⟩ := hcut
    obtain ⟨i0, hi, hz0, hz1, hz2⟩ := info_parts info_u8
    have hWs := hW.size
    go_upto_region 24 with (fail)
    go_cut [10] (fun s10 wx => wx.ownsRow w.heap.size 5 1 s10 0 [] ∧ Below w.heap.size w wx)
    case first =>
      go_wp2_with (first | (at_make; refine wpList_make_own _ rfl _ _ 31 rfl w.heap.size 5 i0 (.int .u8 0) 1 Try.underlying31 hi hz0 hz1 .i64 .i64 _ E rfl rfl rfl (by rw [hz2]; omega) (by unfold maxLen; omega) hWs ?_; intro w0 hown0 hgrow0))
      have R := Lib.hid (hW.grown hgrow0 hWs (fun j hj => by cases hj))
      clear hgrow0
      go_wp2_with fail
      go_meet
      exact ⟨hown0, R.out⟩
    case rest =>
      obtain ⟨hown, hW1⟩ := hcut
      have hWs1 := hW1.size
      clear hW hWs
      go_upto_region 27 with (fail)
      go_cut [10] (fun s10 wx => wx.ownsRow w.heap.size 5 1 s10 ([34] ++ ([] : List UInt8)).length (Lib.byteCells ([34] ++ ([] : List UInt8))) ∧ Below w.heap.size w wx)
      case first =>
        go_wp2_with (first
          | (at_builtin; refine wpList_append_own _ rfl _ _ 31 rfl w.heap.size 5 i0 (.int .u8 0) 1 1 Try.underlying31 hi hz0 hz1 hz2 rfl (by decide) _ _ _ rfl (hown.alloc _) ⟨wc.heap.size, 0, none⟩ 1 1 [.int .u8 34] rfl rfl (c1_one _ _ _) (c2_byte _) (by unfold maxLen; omega) (by omega) (by simp; omega) ?_; intro v' w1 hown' hgrow _))
        have R := Lib.hid (own_bytes (xs := []) (ys := [34]) hWs1 hown hW1 hown' hgrow)
        clear hown' hgrow hown
        go_wp2_with fail
        go_meet
        exact ⟨R.out.1, R.out.2⟩
      case rest =>
        obtain ⟨hown, hW2⟩ := hcut
        clear hW1 hWs1
        go_wp2_with fail
        go_loopg [10, 11] s.size (fun g s10 s11 wr => ∃ (i : Nat) (out : List UInt8), i + g = s.size ∧ s11 = .int .i64 (i : Nat) ∧ wr.ownsRow w.heap.size 5 1 s10 ([34] ++ out).length (Lib.byteCells ([34] ++ out)) ∧ Body out ∧ out.length ≤ 12 * i ∧ Hid (Vld (s.data.toList.drop i)) ∧ Below w.heap.size w wr)
        case atStart => exact ⟨0, [], by omega, rfl, hown, .nil, by simp, HV, hW2⟩
        case round =>
          clear hown hW2
          obtain ⟨i, out, hig, rfl, hown, hbody, hlen, HVi, hW⟩ := hrel
          have HG := Lib.hid hig
          have hi1 : i ≤ s.size := by omega
          have HB := Lib.hid hbody
          have HO := Lib.hid hown
          have hWs := hW.size
          clear hig hbody hown
          by_cases hlt : i < s.size
          · obtain ⟨p, n, hch, hvn⟩ := HVi.out.next (by rw [drop_at s i hlt]; simp)
            cases hcan : canP p a with
            | true =>
              refine roundT hch hcan hs hlt hvn hlen hW HB.out HO.out (by intro _ _ d _ _ h; first | exact h | (cases d <;> exact h)) ?_
              intro z10 z11 z13 z14 z15 z16 z17 z66 z67 z68 z69 z70 z71 z72 z73 z74 z75 z76 z77 z78 z79 z80 z81 z82 z83 z84 z85 z86 z87 z88 z89 z90 z91 z92 z93 z94 z95 z96 z97 z98 z99 z100 z101 z102 z103 z104 z105 z106 z107 z108 z109 z110 z111 z112 z113 z114 z115 z116 z117 z118 z119 z120 z121 z122 z123 z124 z125 z126 z127 z128 z129 z130 z131 z132 z133 z134 z135 z136 z137 z138 z139 z140 z141 z142 z143 z144 z145 z146 z147 z148 z149 z150 z151 z152 z153 z154 z155 z156 z157 z158 z159 z160 z161 z162 z163 z164 z165 z166 z167 z168 z169 z170 z171 z172 z173 z174 z175 z176 z177 z178 z179 z180 z181 z182 z183 z184 z185 z186 z187 z188 z189 z190 z191 z192 z193 z194 z195 z196 z197 z198 z199 z200 z201 z202 z203 z204 z205 z206 z207 z208 z209 z210 z211 z212 z213 z214 z215 z216 z217 z218 z219 z220 z221 z222 z223 z224 z225 z226 w1 i' out' hx h1 h2 h3 h4 h5 h6 h7'
              go_wp2_with fail
              have hg := HG.out
              go_roundg (gk - (i' - i))
              case measure => omega
              case rel => exact ⟨i', out', by omega, (by first | rfl | exact hx), h3, h4, h5, Lib.hid h6, h7'⟩
            | false =>
              by_cases h7 : p = 8 ∨ p = 12 ∨ p = 10 ∨ p = 13 ∨ p = 9 ∨ p = 92 ∨ p = 34
              · rcases h7 with rfl | rfl | rfl | rfl | rfl | rfl | rfl
                · refine roundS8 hch hcan hs hlt hvn hlen hW HB.out HO.out (by intro _ _ d _ _ h; first | exact h | (cases d <;> exact h)) ?_
                  intro z10 z11 z13 z14 z15 z16 z17 z66 z67 z68 z69 z70 z71 z72 z73 z74 z75 z76 z77 z78 z79 z80 z81 z82 z83 z84 z85 z86 z87 z88 z89 z90 z91 z92 z93 z94 z95 z96 z97 z98 z99 z100 z101 z102 z103 z104 z105 z106 z107 z108 z109 z110 z111 z112 z113 z114 z115 z116 z117 z118 z119 z120 z121 z122 z123 z124 z125 z126 z127 z128 z129 z130 z131 z132 z133 z134 z135 z136 z137 z138 z139 z140 z141 z142 z143 z144 z145 z146 z147 z148 z149 z150 z151 z152 z153 z154 z155 z156 z157 z158 z159 z160 z161 z162 z163 z164 z165 z166 z167 z168 z169 z170 z171 z172 z173 z174 z175 z176 z177 z178 z179 z180 z181 z182 z183 z184 z185 z186 z187 z188 z189 z190 z191 z192 z193 z194 z195 z196 z197 z198 z199 z200 z201 z202 z203 z204 z205 z206 z207 z208 z209 z210 z211 z212 z213 z214 z215 z216 z217 z218 z219 z220 z221 z222 z223 z224 z225 z226 w1 i' out' hx h1 h2 h3 h4 h5 h6 h7'
                  go_wp2_with fail
                  have hg := HG.out
                  go_roundg (gk - (i' - i))
                  case measure => omega
                  case rel => exact ⟨i', out', by omega, (by first | rfl | exact hx), h3, h4, h5, Lib.hid h6, h7'⟩
                · refine roundS12 hch hcan hs hlt hvn hlen hW HB.out HO.out (by intro _ _ d _ _ h; first | exact h | (cases d <;> exact h)) ?_
                  intro z10 z11 z13 z14 z15 z16 z17 z66 z67 z68 z69 z70 z71 z72 z73 z74 z75 z76 z77 z78 z79 z80 z81 z82 z83 z84 z85 z86 z87 z88 z89 z90 z91 z92 z93 z94 z95 z96 z97 z98 z99 z100 z101 z102 z103 z104 z105 z106 z107 z108 z109 z110 z111 z112 z113 z114 z115 z116 z117 z118 z119 z120 z121 z122 z123 z124 z125 z126 z127 z128 z129 z130 z131 z132 z133 z134 z135 z136 z137 z138 z139 z140 z141 z142 z143 z144 z145 z146 z147 z148 z149 z150 z151 z152 z153 z154 z155 z156 z157 z158 z159 z160 z161 z162 z163 z164 z165 z166 z167 z168 z169 z170 z171 z172 z173 z174 z175 z176 z177 z178 z179 z180 z181 z182 z183 z184 z185 z186 z187 z188 z189 z190 z191 z192 z193 z194 z195 z196 z197 z198 z199 z200 z201 z202 z203 z204 z205 z206 z207 z208 z209 z210 z211 z212 z213 z214 z215 z216 z217 z218 z219 z220 z221 z222 z223 z224 z225 z226 w1 i' out' hx h1 h2 h3 h4 h5 h6 h7'
                  go_wp2_with fail
                  have hg := HG.out
                  go_roundg (gk - (i' - i))
                  case measure => omega
                  case rel => exact ⟨i', out', by omega, (by first | rfl | exact hx), h3, h4, h5, Lib.hid h6, h7'⟩
                · refine roundS10 hch hcan hs hlt hvn hlen hW HB.out HO.out (by intro _ _ d _ _ h; first | exact h | (cases d <;> exact h)) ?_
                  intro z10 z11 z13 z14 z15 z16 z17 z66 z67 z68 z69 z70 z71 z72 z73 z74 z75 z76 z77 z78 z79 z80 z81 z82 z83 z84 z85 z86 z87 z88 z89 z90 z91 z92 z93 z94 z95 z96 z97 z98 z99 z100 z101 z102 z103 z104 z105 z106 z107 z108 z109 z110 z111 z112 z113 z114 z115 z116 z117 z118 z119 z120 z121 z122 z123 z124 z125 z126 z127 z128 z129 z130 z131 z132 z133 z134 z135 z136 z137 z138 z139 z140 z141 z142 z143 z144 z145 z146 z147 z148 z149 z150 z151 z152 z153 z154 z155 z156 z157 z158 z159 z160 z161 z162 z163 z164 z165 z166 z167 z168 z169 z170 z171 z172 z173 z174 z175 z176 z177 z178 z179 z180 z181 z182 z183 z184 z185 z186 z187 z188 z189 z190 z191 z192 z193 z194 z195 z196 z197 z198 z199 z200 z201 z202 z203 z204 z205 z206 z207 z208 z209 z210 z211 z212 z213 z214 z215 z216 z217 z218 z219 z220 z221 z222 z223 z224 z225 z226 w1 i' out' hx h1 h2 h3 h4 h5 h6 h7'
                  go_wp2_with fail
                  have hg := HG.out
                  go_roundg (gk - (i' - i))
                  case measure => omega
                  case rel => exact ⟨i', out', by omega, (by first | rfl | exact hx), h3, h4, h5, Lib.hid h6, h7'⟩
                · refine roundS13 hch hcan hs hlt hvn hlen hW HB.out HO.out (by intro _ _ d _ _ h; first | exact h | (cases d <;> exact h)) ?_
                  intro z10 z11 z13 z14 z15 z16 z17 z66 z67 z68 z69 z70 z71 z72 z73 z74 z75 z76 z77 z78 z79 z80 z81 z82 z83 z84 z85 z86 z87 z88 z89 z90 z91 z92 z93 z94 z95 z96 z97 z98 z99 z100 z101 z102 z103 z104 z105 z106 z107 z108 z109 z110 z111 z112 z113 z114 z115 z116 z117 z118 z119 z120 z121 z122 z123 z124 z125 z126 z127 z128 z129 z130 z131 z132 z133 z134 z135 z136 z137 z138 z139 z140 z141 z142 z143 z144 z145 z146 z147 z148 z149 z150 z151 z152 z153 z154 z155 z156 z157 z158 z159 z160 z161 z162 z163 z164 z165 z166 z167 z168 z169 z170 z171 z172 z173 z174 z175 z176 z177 z178 z179 z180 z181 z182 z183 z184 z185 z186 z187 z188 z189 z190 z191 z192 z193 z194 z195 z196 z197 z198 z199 z200 z201 z202 z203 z204 z205 z206 z207 z208 z209 z210 z211 z212 z213 z214 z215 z216 z217 z218 z219 z220 z221 z222 z223 z224 z225 z226 w1 i' out' hx h1 h2 h3 h4 h5 h6 h7'
                  go_wp2_with fail
                  have hg := HG.out
                  go_roundg (gk - (i' - i))
                  case measure => omega
                  case rel => exact ⟨i', out', by omega, (by first | rfl | exact hx), h3, h4, h5, Lib.hid h6, h7'⟩
                · refine roundS9 hch hcan hs hlt hvn hlen hW HB.out HO.out (by intro _ _ d _ _ h; first | exact h | (cases d <;> exact h)) ?_
                  intro z10 z11 z13 z14 z15 z16 z17 z66 z67 z68 z69 z70 z71 z72 z73 z74 z75 z76 z77 z78 z79 z80 z81 z82 z83 z84 z85 z86 z87 z88 z89 z90 z91 z92 z93 z94 z95 z96 z97 z98 z99 z100 z101 z102 z103 z104 z105 z106 z107 z108 z109 z110 z111 z112 z113 z114 z115 z116 z117 z118 z119 z120 z121 z122 z123 z124 z125 z126 z127 z128 z129 z130 z131 z132 z133 z134 z135 z136 z137 z138 z139 z140 z141 z142 z143 z144 z145 z146 z147 z148 z149 z150 z151 z152 z153 z154 z155 z156 z157 z158 z159 z160 z161 z162 z163 z164 z165 z166 z167 z168 z169 z170 z171 z172 z173 z174 z175 z176 z177 z178 z179 z180 z181 z182 z183 z184 z185 z186 z187 z188 z189 z190 z191 z192 z193 z194 z195 z196 z197 z198 z199 z200 z201 z202 z203 z204 z205 z206 z207 z208 z209 z210 z211 z212 z213 z214 z215 z216 z217 z218 z219 z220 z221 z222 z223 z224 z225 z226 w1 i' out' hx h1 h2 h3 h4 h5 h6 h7'
                  go_wp2_with fail
                  have hg := HG.out
                  go_roundg (gk - (i' - i))
                  case measure => omega
                  case rel => exact ⟨i', out', by omega, (by first | rfl | exact hx), h3, h4, h5, Lib.hid h6, h7'⟩
                · refine roundS92 hch hcan hs hlt hvn hlen hW HB.out HO.out (by intro _ _ d _ _ h; first | exact h | (cases d <;> exact h)) ?_
                  intro z10 z11 z13 z14 z15 z16 z17 z66 z67 z68 z69 z70 z71 z72 z73 z74 z75 z76 z77 z78 z79 z80 z81 z82 z83 z84 z85 z86 z87 z88 z89 z90 z91 z92 z93 z94 z95 z96 z97 z98 z99 z100 z101 z102 z103 z104 z105 z106 z107 z108 z109 z110 z111 z112 z113 z114 z115 z116 z117 z118 z119 z120 z121 z122 z123 z124 z125 z126 z127 z128 z129 z130 z131 z132 z133 z134 z135 z136 z137 z138 z139 z140 z141 z142 z143 z144 z145 z146 z147 z148 z149 z150 z151 z152 z153 z154 z155 z156 z157 z158 z159 z160 z161 z162 z163 z164 z165 z166 z167 z168 z169 z170 z171 z172 z173 z174 z175 z176 z177 z178 z179 z180 z181 z182 z183 z184 z185 z186 z187 z188 z189 z190 z191 z192 z193 z194 z195 z196 z197 z198 z199 z200 z201 z202 z203 z204 z205 z206 z207 z208 z209 z210 z211 z212 z213 z214 z215 z216 z217 z218 z219 z220 z221 z222 z223 z224 z225 z226 w1 i' out' hx h1 h2 h3 h4 h5 h6 h7'
                  go_wp2_with fail
                  have hg := HG.out
                  go_roundg (gk - (i' - i))
                  case measure => omega
                  case rel => exact ⟨i', out', by omega, (by first | rfl | exact hx), h3, h4, h5, Lib.hid h6, h7'⟩
                · refine roundS34 hch hcan hs hlt hvn hlen hW HB.out HO.out (by intro _ _ d _ _ h; first | exact h | (cases d <;> exact h)) ?_
                  intro z10 z11 z13 z14 z15 z16 z17 z66 z67 z68 z69 z70 z71 z72 z73 z74 z75 z76 z77 z78 z79 z80 z81 z82 z83 z84 z85 z86 z87 z88 z89 z90 z91 z92 z93 z94 z95 z96 z97 z98 z99 z100 z101 z102 z103 z104 z105 z106 z107 z108 z109 z110 z111 z112 z113 z114 z115 z116 z117 z118 z119 z120 z121 z122 z123 z124 z125 z126 z127 z128 z129 z130 z131 z132 z133 z134 z135 z136 z137 z138 z139 z140 z141 z142 z143 z144 z145 z146 z147 z148 z149 z150 z151 z152 z153 z154 z155 z156 z157 z158 z159 z160 z161 z162 z163 z164 z165 z166 z167 z168 z169 z170 z171 z172 z173 z174 z175 z176 z177 z178 z179 z180 z181 z182 z183 z184 z185 z186 z187 z188 z189 z190 z191 z192 z193 z194 z195 z196 z197 z198 z199 z200 z201 z202 z203 z204 z205 z206 z207 z208 z209 z210 z211 z212 z213 z214 z215 z216 z217 z218 z219 z220 z221 z222 z223 z224 z225 z226 w1 i' out' hx h1 h2 h3 h4 h5 h6 h7'
                  go_wp2_with fail
                  have hg := HG.out
                  go_roundg (gk - (i' - i))
                  case measure => omega
                  case rel => exact ⟨i', out', by omega, (by first | rfl | exact hx), h3, h4, h5, Lib.hid h6, h7'⟩
              · obtain ⟨P, rfl⟩ : ∃ P : Nat, p = (P : Int) := ⟨p.toNat, by have := hch.bd; omega⟩
                by_cases h16 : P ≤ 65535
                · refine round41 h7 hch hcan h16 hs hlt hvn hlen hW HB.out HO.out (by intro _ _ d _ _ h; first | exact h | (cases d <;> exact h)) ?_
                  intro z10 z11 z13 z14 z15 z16 z17 z66 z67 z68 z69 z70 z71 z72 z73 z74 z75 z76 z77 z78 z79 z80 z81 z82 z83 z84 z85 z86 z87 z88 z89 z90 z91 z92 z93 z94 z95 z96 z97 z98 z99 z100 z101 z102 z103 z104 z105 z106 z107 z108 z109 z110 z111 z112 z113 z114 z115 z116 z117 z118 z119 z120 z121 z122 z123 z124 z125 z126 z127 z128 z129 z130 z131 z132 z133 z134 z135 z136 z137 z138 z139 z140 z141 z142 z143 z144 z145 z146 z147 z148 z149 z150 z151 z152 z153 z154 z155 z156 z157 z158 z159 z160 z161 z162 z163 z164 z165 z166 z167 z168 z169 z170 z171 z172 z173 z174 z175 z176 z177 z178 z179 z180 z181 z182 z183 z184 z185 z186 z187 z188 z189 z190 z191 z192 z193 z194 z195 z196 z197 z198 z199 z200 z201 z202 z203 z204 z205 z206 z207 z208 z209 z210 z211 z212 z213 z214 z215 z216 z217 z218 z219 z220 z221 z222 z223 z224 z225 z226 w1 i' out' hx h1 h2 h3 h4 h5 h6 h7'
                  go_wp2_with fail
                  have hg := HG.out
                  go_roundg (gk - (i' - i))
                  case measure => omega
                  case rel => exact ⟨i', out', by omega, (by first | rfl | exact hx), h3, h4, h5, Lib.hid h6, h7'⟩
                · refine round45 h7 hch hcan h16 hs hlt hvn hlen hW HB.out HO.out (by intro _ _ d _ _ h; first | exact h | (cases d <;> exact h)) ?_
                  intro z10 z11 z13 z14 z15 z16 z17 z66 z67 z68 z69 z70 z71 z72 z73 z74 z75 z76 z77 z78 z79 z80 z81 z82 z83 z84 z85 z86 z87 z88 z89 z90 z91 z92 z93 z94 z95 z96 z97 z98 z99 z100 z101 z102 z103 z104 z105 z106 z107 z108 z109 z110 z111 z112 z113 z114 z115 z116 z117 z118 z119 z120 z121 z122 z123 z124 z125 z126 z127 z128 z129 z130 z131 z132 z133 z134 z135 z136 z137 z138 z139 z140 z141 z142 z143 z144 z145 z146 z147 z148 z149 z150 z151 z152 z153 z154 z155 z156 z157 z158 z159 z160 z161 z162 z163 z164 z165 z166 z167 z168 z169 z170 z171 z172 z173 z174 z175 z176 z177 z178 z179 z180 z181 z182 z183 z184 z185 z186 z187 z188 z189 z190 z191 z192 z193 z194 z195 z196 z197 z198 z199 z200 z201 z202 z203 z204 z205 z206 z207 z208 z209 z210 z211 z212 z213 z214 z215 z216 z217 z218 z219 z220 z221 z222 z223 z224 z225 z226 w1 i' out' hx h1 h2 h3 h4 h5 h6 h7'
                  go_wp2_with fail
                  have hg := HG.out
                  go_roundg (gk - (i' - i))
                  case measure => omega
                  case rel => exact ⟨i', out', by omega, (by first | rfl | exact hx), h3, h4, h5, Lib.hid h6, h7'⟩
          · obtain rfl : i = s.size := by omega
            have hown := HO.out
            have d1 : ([34] ++ out).length + 1 ≤ maxLen := by unfold maxLen; simp; omega
            have d2 : (([34] ++ out).length + 1) * 1 ≤ 140737488355328 := by simp; omega
            go_wp2_with (first
              | (at_builtin; refine wpList_append_own _ rfl _ _ 31 rfl w.heap.size 5 i0 (.int .u8 0) 1 1 Try.underlying31 hi hz0 hz1 hz2 rfl (by decide) _ _ _ rfl (hown.alloc _) ⟨wr.heap.size, 0, none⟩ 1 1 [.int .u8 34] rfl rfl (c1_one _ _ _) (c2_byte _) d1 d2 (by simp; omega) ?_; intro v' w1 hown' hgrow _))
            have R := Lib.hid (own_bytes (ys := [34]) hWs hown hW hown' hgrow)
            clear hown' hgrow hown
            go_wp2_with fail
            go_ret
            exact ⟨v', out, rfl, R.out.1, HB.out, hlen, R.out.2⟩
end Go.Proofs.Ytpnigcljndjmlaa.body
