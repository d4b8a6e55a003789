/- FnWhereMany's walk: places that are asked together are told as each by itself. -/
import Derived.Test.YtpnigcljndjmlaaDoorPlaces
import Derived.Laws.AppendOwn
import Derived.OwnWalk
namespace Go.Proofs.YtpnigcljndjmlaaDoor.fnWhereMany
open Go.RowKit
open kit pt line

theorem vld_a : Vld (⟨#[97]⟩ : ByteArray).data.toList := by
  exact .step (.one 97 [] (by decide)) .nil
/-- the cells of ranges -/
def rcs (rs : List (Nat × Nat)) : List Value := (rs.map fun r => [Value.int .i64 (r.1 : Nat), Value.int .i64 (r.2 : Nat)]).flatten
theorem rcs_snoc (rs : List (Nat × Nat)) (r : Nat × Nat) : rcs (rs ++ [r]) = rcs rs ++ [.int .i64 (r.1 : Nat), .int .i64 (r.2 : Nat)] := by simp [rcs]
theorem rcs_at : ∀ (rs : List (Nat × Nat)) (i : Nat) (r : Nat × Nat), rs[i]? = some r → (rcs rs)[i * 2]? = some (.int .i64 (r.1 : Nat)) ∧ (rcs rs)[i * 2 + 1]? = some (.int .i64 (r.2 : Nat))
  | [], i, r, h => by simp at h
  | a :: rs, 0, r, h => by simp at h; subst h; exact ⟨rfl, rfl⟩
  | a :: rs, i + 1, r, h => by
    have := rcs_at rs i r (by simpa using h)
    have e : rcs (a :: rs) = .int .i64 (a.1 : Nat) :: .int .i64 (a.2 : Nat) :: rcs rs := by simp [rcs]
    rw [e, show (i + 1) * 2 = i * 2 + 1 + 1 from by omega]
    simpa using this
theorem rgs_of {w : World} {base : Nat} {e : TypeId} {v : Value} {rs : List (Nat × Nat)} (h : w.ownsRow base e 2 v rs.length (rcs rs)) : ∃ A c, v = .slice A rs.length c ∧ Rgs w A rs := by
  rcases h.2 with ⟨rfl, q⟩ | ⟨g, cap, cur, rfl, hg, _⟩
  · exact ⟨none, 0, by rw [q], fun hn => by omega⟩
  · refine ⟨_, cap, rfl, fun _ => ⟨g, 0, rfl, (h.lt g rfl).2, fun i r hr => ?_⟩⟩
    have := rcs_at rs i r hr
    rw [Nat.zero_add]
    exact ⟨own_cell h _ _ this.1, own_cell h _ _ this.2⟩
theorem info_range : (Tryd.prog.info? 31).map (fun i => (i.zero, i.size, i.bytes)) = some (some (.agg #[.int .i64 0, .int .i64 0]), 2, 16) := by kernel_rfl
theorem c2_range (a b : Int) : ∀ u ∈ ([.int .i64 a, .int .i64 b] : List Value), u.oneCell' = true := by
  intro u hu
  simp at hu
  rcases hu with rfl | rfl <;> rfl

theorem flat_at : ∀ (cs : List (List Value)) (i k : Nat) (c : List Value), (∀ c ∈ cs, c.length = 4) → cs[i]? = some c → k < 4 → cs.flatten[i * 4 + k]? = c[k]?
  | [], i, k, c, _, h, _ => by simp at h
  | a :: cs, 0, k, c, h4, h, hk => by
    simp at h; subst h
    rw [List.flatten_cons, List.getElem?_append_left (by rw [h4 a (by simp)]; omega)]
    simp
  | a :: cs, i + 1, k, c, h4, h, hk => by
    rw [List.flatten_cons, List.getElem?_append_right (by rw [h4 a (by simp)]; omega), h4 a (by simp), show (i + 1) * 4 + k - 4 = i * 4 + k from by omega]
    exact flat_at cs i k c (fun c hc => h4 c (by simp [hc])) (by simpa using h) hk
theorem told_len {s : ByteArray} {rs : List (Nat × Nat)} {cs : List (List Value)} (h : ToldAll s rs cs) : ∀ c ∈ cs, c.length = 4 := by
  induction h with
  | nil => intro c hc; cases hc
  | snoc h hr ih =>
    intro c hc
    rcases List.mem_append.1 hc with q | q
    · exact ih c q
    · simp at q; subst q; obtain ⟨_, _, _, _, _, _, rfl⟩ := hr; rfl
theorem pls_of {w : World} {base : Nat} {e : TypeId} {v : Value} {s : ByteArray} {rs : List (Nat × Nat)} {cs : List (List Value)} (h : w.ownsRow base e 4 v cs.length cs.flatten) (hall : ToldAll s rs cs) :
    ∃ A c, v = .slice A rs.length c ∧ ∀ (i : Nat) (r : Nat × Nat), rs[i]? = some r → ∃ g j c f z, A = some ⟨g, 0, none⟩ ∧ g < w.heap.size ∧ At s.data.toList j r.1 c f ∧ Fin s.data.toList r.1 z ∧
      w.cell? ⟨g, i * 4, none⟩ = some (.int .i64 ((c : Int) + 1)) ∧ w.cell? ⟨g, i * 4 + 1, none⟩ = some (.int .i64 ((r.1 : Int) - f)) ∧ w.cell? ⟨g, i * 4 + 2, none⟩ = some (.int .i64 r.2) ∧ w.cell? ⟨g, i * 4 + 3, none⟩ = some (.string (s.extract f z)) := by
  have hcl := hall.len
  rcases h.2 with ⟨rfl, q⟩ | ⟨g, cap, cur, rfl, hg, _⟩
  · refine ⟨none, 0, by rw [← hcl, q], fun i r hr => ?_⟩
    have := (List.getElem?_eq_some_iff.1 hr).1
    omega
  · refine ⟨_, cap, by rw [hcl], fun i r hr => ?_⟩
    obtain ⟨c, hc, j, ct, f, z, h1, h2, rfl⟩ := told_at hall i r hr
    have h4 := told_len hall
    exact ⟨g, j, ct, f, z, rfl, (h.lt g rfl).2, h1, h2, own_cell h (i * 4 + 0) _ ((flat_at cs i 0 _ h4 hc (by omega)).trans rfl), own_cell h (i * 4 + 1) _ ((flat_at cs i 1 _ h4 hc (by omega)).trans rfl), own_cell h (i * 4 + 2) _ ((flat_at cs i 2 _ h4 hc (by omega)).trans rfl), own_cell h (i * 4 + 3) _ ((flat_at cs i 3 _ h4 hc (by omega)).trans rfl)⟩

set_option maxRecDepth 100000 in
set_option maxHeartbeats 3200000 in
theorem walk (t : ByteArray) (A : Option Addr) (cp : Nat) (xs : List Int) (w : World) (hR : Rd w w.heap.size A xs.length (xs.map fun x => Value.int .i64 x)) (hz : t.size + xs.length ≤ 1048576) (hL : Tabs w ∧ 2 ≤ w.heap.size) :
    Calls Tryd.prog 5 #[.string t, .slice A xs.length cp] w fun e w' => e = .returned (.bool true) ∧ Below w.heap.size w w' := by
  obtain ⟨i0, hi, hz0, hz1, hz2⟩ := info_parts info_range
  have HL := Lib.hid hL
  have HR := Lib.hid hR
  clear hL hR
  go_enter Tryd.func5, Tryd.ntmps5
  go_wp2_with fail
  refine (valid_any t _ (by omega)).mono ?_
  rintro e w1 ⟨vb, rfl, hvb, hb1⟩
  have HB1 := Lib.hid hb1
  have hs1 : w.heap.size ≤ w1.heap.size := hb1.size
  have HV := Lib.hid hvb
  clear hb1 hvb
  cases vb with
  | false =>
    go_wp2_with fail
    go_ret
    exact ⟨rfl, HB1.out⟩
  | true =>
    have hV : Vld t.data.toList := HV.out (by first | rfl | trivial)
    have HVV := Lib.hid hV
    clear hV HV
    go_upto_block 0 with (fail)
    go_cut [5] (fun s5 wx => ∃ (rs : List (Nat × Nat)), rs.length ≤ xs.length ∧ wx.ownsRow w.heap.size 31 2 s5 rs.length (rcs rs) ∧ (∀ r ∈ rs, r.2 ≤ 1048576 ∧ ∃ j c f, At t.data.toList j r.1 c f) ∧ Below w.heap.size w wx)
    case first =>
      go_wp2_with fail
      go_loopg [5, 19] xs.length (fun g s5 s19 wr => ∃ (i : Nat) (rs : List (Nat × Nat)), i + g = xs.length ∧ s19 = .int .i64 (i : Nat) ∧ rs.length ≤ i ∧ wr.ownsRow w.heap.size 31 2 s5 rs.length (rcs rs) ∧ Hid (∀ r ∈ rs, r.2 ≤ 1048576 ∧ ∃ j c f, At t.data.toList j r.1 c f) ∧ Below w.heap.size w wr)
      case atStart => exact ⟨0, [], by omega, rfl, by simp, World.ownsRow_nil _ _ _ _, Lib.hid (fun r hr => absurd hr (by simp)), HB1.out⟩
      case round =>
        clear HB1 hs1
        obtain ⟨i, rs, hig, rfl, hrl, hown, HA, hb⟩ := hrel
        have HG := Lib.hid hig
        have OW := Lib.hid hown
        have BW := Lib.hid hb
        have hsw : w.heap.size ≤ wr.heap.size := hb.size
        clear hig hown hb
        by_cases hlt : i < xs.length
        · obtain ⟨b, o, u, rfl, hbl, hu, hcell⟩ := HR.out.at_ hlt
          have hc2 := (BW.out.cell (p := ⟨b, o + i, none⟩) hbl).trans hcell
          obtain ⟨n, hn⟩ : ∃ n, xs[i]? = some n := ⟨xs[i], List.getElem?_eq_getElem hlt⟩
          have hun : u = .int .i64 n := by simp [hn] at hu; exact hu.symm
          subst hun
          have hkl := plc_le t.size n
          have A0 := Lib.hid (fun W : World => at_any t n W (by omega))
          obtain ⟨k, hk⟩ : ∃ k, k = plc t.size n := ⟨_, rfl⟩
          rw [← hk] at A0 hkl
          clear hk hcell hu hn
          go_wp2_with fail
          refine (A0.out _).mono ?_
          rintro e w' ⟨rfl, rfl⟩
          go_wp2_with fail
          refine (lineAt_any t k _ (by omega) hkl).mono ?_
          rintro e w2 ⟨num, fr, txt, ok, rfl, hok, hb2⟩
          have O2' := Lib.hid (OW.out.kept (Lib.grownBy_below (World.grownBy.refl wr none) hb2) (by cases OW.out.2 <;> (rename_i q; first | (obtain ⟨rfl, _⟩ := q; left; rfl) | (right; obtain ⟨g, cap, cur, rfl, _⟩ := q; simp [Value.ownBlock]))))
          have B2' := Lib.hid (BW.out.trans (hb2.mono BW.out.size))
          have O2 := Lib.hid (O2'.out.alloc (.cells #[.int .i64 num, .int .i64 fr, .string txt] 24))
          have B2 := Lib.hid (B2'.out.alloc B2'.out.size (.cells #[.int .i64 num, .int .i64 fr, .string txt] 24))
          have HO := Lib.hid hok
          clear hb2 hok OW BW O2' B2'
          cases ok with
          | false =>
            go_wp2_with fail
            have hg := HG.out
            go_roundg (gk - 1)
            case measure => omega
            case rel => exact ⟨i + 1, rs, by omega, by go_num, by omega, O2.out, HA, B2.out⟩
          | true =>
            go_wp2_with fail
            refine (A0.out _).mono ?_
            rintro e w' ⟨rfl, rfl⟩
            obtain ⟨W2, hW2⟩ : ∃ W2, W2 = w2.alloc (.cells #[.int .i64 num, .int .i64 fr, .string txt] 24) := ⟨_, rfl⟩
            rw [← hW2] at O2 B2 ⊢
            clear hW2
            have hown := O2.out
            have hs2 : w.heap.size ≤ W2.heap.size := B2.out.size
            have BA := Lib.hid (B2.out.alloc B2.out.size (.cells #[.int .i64 k, .int .i64 0] 31))
            have d1 : rs.length + 1 ≤ maxLen := by unfold maxLen; omega
            go_wp2_with (at_builtin; refine wpList_append_own _ rfl _ _ 32 rfl w.heap.size 31 i0 (.agg #[.int .i64 0, .int .i64 0]) 2 16 Tryd.underlying32 hi hz0 hz1 hz2 rfl (by decide) u5 rs.length (rcs rs) rfl (hown.alloc _) ⟨W2.heap.size, 0, none⟩ 1 1 [.int .i64 k, .int .i64 0] rfl rfl (World.news_of_block (cs := #[.int .i64 k, .int .i64 0]) (t := 31) (fr := (0, 0)) (heap_alloc_new W2 _)) (c2_range _ _) d1 (by omega) (by simp; omega) ?_; intro v5 w5 hown5 hgrow5 _; have O5 := Lib.hid hown5; have B5 := Lib.hid (BA.out.grown hgrow5 BA.out.size (fun q hq => (O2.out.lt q hq).1)); clear hown5 hgrow5)
            have hg := HG.out
            go_roundg (gk - 1)
            case measure => omega
            case rel =>
              refine ⟨i + 1, rs ++ [(k, 0)], by omega, by go_num, by simp; omega, ?_, ?_, B5.out⟩
              · rw [rcs_snoc, List.length_append]; exact O5.out
              · refine Lib.hid (fun r hr => ?_)
                rcases List.mem_append.1 hr with h | h
                · exact HA.out r h
                · simp at h
                  subst h
                  obtain ⟨j, c, e, h1, _⟩ := HO.out (by first | rfl | trivial) HVV.out
                  exact ⟨by simp, j, c, fr, h1⟩
        · have hie : i = xs.length := by have := HG.out; omega
          subst hie
          go_wp2_with fail
          go_meet
          exact ⟨rs, hrl, OW.out, HA.out, BW.out⟩
    case rest =>
      obtain ⟨rs, hrl, hown, hall, hb⟩ := hcut
      obtain ⟨R, rc, rfl, hRg⟩ := rgs_of hown
      have HRg := Lib.hid hRg
      have HA := Lib.hid hall
      have BW := Lib.hid hb
      have hsx : w.heap.size ≤ wc.heap.size := hb.size
      have HT := Lib.hid (HL.out.1.below hb)
      have h2x : 2 ≤ wc.heap.size := Nat.le_trans HL.out.2 hsx
      clear hRg hown hall hb HB1 hs1
      go_wp2_with fail
      refine (where_any t R rc rs _ (by omega) HVV.out h2x HT.out HRg.out (by omega) HA.out).mono ?_
      rintro e w2 ⟨v, cs, rfl, hown, hall, hb⟩
      obtain ⟨G, gc, rfl, hG⟩ := pls_of hown hall
      have HGt := Lib.hid hG
      have B2 := Lib.hid (BW.out.trans (hb.mono BW.out.size))
      have hs2 : w.heap.size ≤ w2.heap.size := B2.out.size
      have h22 : 2 ≤ w2.heap.size := Nat.le_trans HL.out.2 hs2
      have HT2 := Lib.hid (HL.out.1.below B2.out)
      have HR2 := Lib.hid (HRg.out.below hb)
      clear hown hall hb hG HT HRg BW h2x hsx
      go_wp2_with fail
      go_loopg [50] rs.length (fun g s50 wr => ∃ (i : Nat), i + g = rs.length ∧ s50 = .int .i64 (i : Nat) ∧ Below w2.heap.size w2 wr)
      case atStart => exact ⟨0, by omega, rfl, Below.refl _ _⟩
      case round =>
        obtain ⟨i, hig, rfl, hbr⟩ := hrel
        have HG := Lib.hid hig
        have BR := Lib.hid hbr
        have hsr : w2.heap.size ≤ wr.heap.size := hbr.size
        clear hig hbr
        by_cases hlt : i < rs.length
        · obtain ⟨r, hri⟩ : ∃ r, rs[i]? = some r := ⟨rs[i], List.getElem?_eq_getElem hlt⟩
          have HAr := Lib.hid (HA.out r (List.mem_of_getElem? hri))
          obtain ⟨b, o, rfl, hbl, hcell⟩ := HR2.out (by omega)
          obtain ⟨hc1, hc2⟩ := hcell i r hri
          obtain ⟨g, j, c, f, z, rfl, hgl, h1, h2, p0, p1, p2, p3⟩ := HGt.out i r hri
          have H1 := Lib.hid h1
          have H2 := Lib.hid h2
          have d0 := (BR.out.cell (p := ⟨g, i * 4, none⟩) hgl).trans p0
          have d1 := (BR.out.cell (p := ⟨g, i * 4 + 1, none⟩) hgl).trans p1
          have d2 := (BR.out.cell (p := ⟨g, i * 4 + 2, none⟩) hgl).trans p2
          have d3 := (BR.out.cell (p := ⟨g, i * 4 + 3, none⟩) hgl).trans p3
          have e1 := (BR.out.cell (p := ⟨b, o + i * 2, none⟩) hbl).trans hc1
          have e2 := (BR.out.cell (p := ⟨b, o + i * 2 + 1, none⟩) hbl).trans hc2
          obtain ⟨r1, r2⟩ := r
          have e1' : wr.cell? ⟨b, o + i * 2, none⟩ = some (.int .i64 (r1 : Nat)) := e1
          have e2' : wr.cell? ⟨b, o + i * 2 + 1, none⟩ = some (.int .i64 (r2 : Nat)) := e2
          have HT3 := Lib.hid (HT2.out.below BR.out)
          have h2r : 2 ≤ wr.heap.size := by omega
          clear hcell hri h1 h2 p0 p1 p2 p3 hc1 hc2 e1 e2
          go_wp2_with fail
          have bx : Below wr.heap.size wr ((wr.alloc (.cells #[.int .i64 r1, .int .i64 r2] 31)).alloc (.cells #[.int .i64 r1, .int .i64 r2] 31)) := balloc (by simp) (balloc (Nat.le_refl _) (Below.refl _ _))
          refine (where_any t _ 1 [(r1, r2)] _ (by omega) HVV.out (by first | (simp; done) | (simp; omega)) (HT3.out.below bx) ?_ (by simp) ?_).mono ?_
          · intro _
            refine ⟨_, _, rfl, by simp, fun i r hr => ?_⟩
            have hi : i = 0 := by have := (List.getElem?_eq_some_iff.1 hr).1; simp at this; exact this
            subst hi
            simp at hr
            subst hr
            exact ⟨by go_simp, by go_simp⟩
          · intro r hr
            simp at hr
            subst hr
            exact HAr.out
          · intro e3 w3 h3
            obtain ⟨g', cap, j', c', f', z', rfl, hg', hgl', h4, h5, p0, p1, p2, p3, hb3⟩ := places_one h3
            obtain ⟨_, rfl, rfl⟩ := H1.out.same h4
            obtain rfl := H2.out.det h5
            have hx3 : Below wr.heap.size wr w3 := bx.trans (hb3.mono (by first | (simp; done) | (simp; omega)))
            have HB3 := Lib.hid (BR.out.trans (hx3.mono BR.out.size))
            have g0 := (hx3.cell (p := ⟨g, i * 4, none⟩) (by simp; omega)).trans d0
            have g1 := (hx3.cell (p := ⟨g, i * 4 + 1, none⟩) (by simp; omega)).trans d1
            have g2 := (hx3.cell (p := ⟨g, i * 4 + 2, none⟩) (by simp; omega)).trans d2
            have g3 := (hx3.cell (p := ⟨g, i * 4 + 3, none⟩) (by simp; omega)).trans d3
            clear h3 h4 h5 hb3 hx3 bx d0 d1 d2 d3 e1' e2' HT3
            go_wp2_with fail
            go_quiet (fail)
            go_wp2_with fail
            have hg := HG.out
            go_roundg (gk - 1)
            case measure => omega
            case rel => exact ⟨i + 1, by omega, by go_num, bdrew HB3.out⟩
        · have hie : i = rs.length := by have := HG.out; omega
          subst hie
          have HT3 := Lib.hid (HT2.out.below BR.out)
          have h2r : 2 ≤ wr.heap.size := by omega
          go_wp2_with fail
          have bx : Below wr.heap.size wr (wr.alloc (.cells #[.int .i64 0, .int .i64 0] 31)) := balloc (Nat.le_refl _) (Below.refl _ _)
          refine (where_any ⟨#[97]⟩ _ 1 [(0, 0)] _ (by decide) vld_a (by first | (simp; done) | (simp; omega)) (HT3.out.below bx) ?_ (by simp) ?_).mono ?_
          · intro _
            refine ⟨_, _, rfl, by simp, fun i r hr => ?_⟩
            have hi : i = 0 := by have := (List.getElem?_eq_some_iff.1 hr).1; simp at this; exact this
            subst hi
            simp at hr
            subst hr
            exact ⟨by go_simp, by go_simp⟩
          · intro r hr
            simp at hr
            subst hr
            exact ⟨by simp, 0, 0, 0, .start⟩
          · intro e3 w3 h3
            obtain ⟨g', cap, j', c', f', z', rfl, hg', hgl', h4, h5, p0, p1, p2, p3, hb3⟩ := places_one h3
            have hx3 : Below wr.heap.size wr w3 := bx.trans (hb3.mono (by first | (simp; done) | (simp; omega)))
            have HB3 := Lib.hid (B2.out.trans ((BR.out.trans (hx3.mono BR.out.size)).mono B2.out.size))
            clear h3 h4 h5 hb3 hx3 bx p0 p1 p2 p3
            go_wp2_with fail
            go_ret
            exact ⟨rfl, HB3.out⟩
end Go.Proofs.YtpnigcljndjmlaaDoor.fnWhereMany
