/- The walk of Where. -/
import Derived.Test.YtpnigcljndjmlaaDoorMsg
import Derived.Deep.AppendLies
import Derived.Deep.RegionLaw
namespace Go.Proofs.YtpnigcljndjmlaaDoor.line
open Go.RowKit
open kit pt

/-- what is told of a place -/
def Told (s : ByteArray) (r : Nat × Nat) (cs : List Value) : Prop :=
  ∃ j c f e, At s.data.toList j r.1 c f ∧ Fin s.data.toList r.1 e ∧ cs = [.int .i64 ((c : Int) + 1), .int .i64 ((r.1 : Int) - f), .int .i64 r.2, .string (s.extract f e)]
theorem Told.det {s : ByteArray} {r : Nat × Nat} {a b : List Value} (h : Told s r a) (h' : Told s r b) : a = b := by
  obtain ⟨j, c, f, e, h1, h2, rfl⟩ := h
  obtain ⟨j', c', f', e', h1', h2', rfl⟩ := h'
  obtain ⟨_, rfl, rfl⟩ := h1.same h1'
  obtain rfl := h2.det h2'
  rfl
inductive ToldAll (s : ByteArray) : List (Nat × Nat) → List (List Value) → Prop
  | nil : ToldAll s [] []
  | snoc {rs : List (Nat × Nat)} {cs : List (List Value)} {r : Nat × Nat} {c : List Value} (h : ToldAll s rs cs) (hr : Told s r c) : ToldAll s (rs ++ [r]) (cs ++ [c])
theorem ToldAll.len {s : ByteArray} {rs : List (Nat × Nat)} {cs : List (List Value)} (h : ToldAll s rs cs) : cs.length = rs.length := by
  induction h with
  | nil => rfl
  | snoc _ _ ih => simp [ih]
/-- ranges in memory -/
def Rgs (w : World) (A : Option Addr) (rs : List (Nat × Nat)) : Prop :=
  0 < rs.length → ∃ b o, A = some ⟨b, o, none⟩ ∧ b < w.heap.size ∧ ∀ (i : Nat) (r : Nat × Nat), rs[i]? = some r → w.cell? ⟨b, o + i * 2, none⟩ = some (.int .i64 (r.1 : Nat)) ∧ w.cell? ⟨b, o + i * 2 + 1, none⟩ = some (.int .i64 (r.2 : Nat))
theorem Rgs.below {w w' : World} {A : Option Addr} {rs : List (Nat × Nat)} (h : Rgs w A rs) (hb : Below w.heap.size w w') : Rgs w' A rs := fun hn => by
  obtain ⟨b, o, e, hl, hc⟩ := h hn
  exact ⟨b, o, e, Nat.lt_of_lt_of_le hl hb.size, fun i r hr => ⟨(hb.cell (p := ⟨b, _, none⟩) hl).trans (hc i r hr).1, (hb.cell (p := ⟨b, _, none⟩) hl).trans (hc i r hr).2⟩⟩

def Places (s : ByteArray) (rs : List (Nat × Nat)) (w : World) (e : Ending) (w' : World) : Prop :=
  ∃ v cs, e = .returned v ∧ w'.ownsRow w.heap.size 34 4 v cs.length cs.flatten ∧ ToldAll s rs cs ∧ Below w.heap.size w w'
theorem info_place : (Tryd.prog.info? 34).map (fun i => (i.zero, i.size, i.bytes)) = some (some (.agg #[.int .i64 0, .int .i64 0, .int .i64 0, .string ⟨#[]⟩]), 4, 40) := by kernel_rfl

theorem own_mono {w : World} {base base' : Nat} {e : TypeId} {size n : Nat} {v : Value} {xs : List Value} (h : w.ownsRow base e size v n xs) (hb : base' ≤ base) : w.ownsRow base' e size v n xs := by
  refine ⟨h.1, ?_⟩
  rcases h.2 with q | ⟨g, cap, cur, e1, e2, e3⟩
  · exact .inl q
  · exact .inr ⟨g, cap, cur, e1, Nat.le_trans hb e2, e3⟩
theorem own_apart {w : World} {B : Nat} {e : TypeId} {size n : Nat} {v : Value} {xs : List Value} (h : w.ownsRow (B + 1) e size v n xs) : v.ownBlock ≠ some B := by
  intro q
  have := (h.lt B q).1
  omega
theorem c2_place (a b c : Int) (t : ByteArray) : ∀ u ∈ ([.int .i64 a, .int .i64 b, .int .i64 c, .string t] : List Value), u.oneCell' = true := by
  intro u hu
  simp at hu
  rcases hu with rfl | rfl | rfl | rfl <;> rfl
theorem take_succ_of {rs : List (Nat × Nat)} {i : Nat} {r : Nat × Nat} (h : rs[i]? = some r) : rs.take (i + 1) = rs.take i ++ [r] := by
  rw [List.take_add_one, h]; rfl

set_option maxRecDepth 100000 in
set_option maxHeartbeats 3200000 in
theorem where_any (s : ByteArray) (A : Option Addr) (cp : Nat) (rs : List (Nat × Nat)) (w : World) (hz : s.size ≤ 1048576) (hv : Vld s.data.toList) (h2 : 2 ≤ w.heap.size) (hT : Tabs w) (hR : Rgs w A rs) (hn : rs.length ≤ 1048576)
    (hr : ∀ r ∈ rs, r.2 ≤ 1048576 ∧ ∃ j c f, At s.data.toList j r.1 c f) :
    Calls Tryd.prog 9 #[.string s, .slice A rs.length cp] w (Places s rs w) := by
  obtain ⟨i0, hi, hz0, hz1, hz2⟩ := info_parts info_place
  have HT := Lib.hid hT
  have HR := Lib.hid hR
  have HP := Lib.hid hr
  have HV := Lib.hid hv
  clear hT hR hr hv
  go_enter Tryd.func9, Tryd.ntmps9
  go_wp2_with fail
  refine (make_any s w.heap.size _ (by go_simp) (by go_simp) (by go_simp) (by simp)).mono ?_
  rintro e w1 ⟨rfl, hb1⟩
  have hW1 : Below w.heap.size w w1 := ((Below.refl _ _).alloc (Nat.le_refl _) _).trans (hb1.mono (by simp))
  have hs1 : w.heap.size + 1 ≤ w1.heap.size := by have := hb1.size; simpa using this
  clear hb1
  go_wp2_with fail
  obtain ⟨B, hB⟩ : ∃ B, B = w1.heap.size := ⟨_, rfl⟩
  have hB2 : w.heap.size + 1 ≤ B := by omega
  obtain ⟨W0, hW0⟩ : ∃ W0, W0 = w1.alloc (Obj.cells #[.string s, .string ⟨#[]⟩, .string ⟨#[]⟩, .int .i32 0, .int .i32 0, .int .i32 0, .int .i32 0, .bool true, .bool false, .bool true] 55) := ⟨_, rfl⟩
  have T0 : Tk W0 B s 0 0 0 0 true false := by
    rw [hW0, hB]
    exact ⟨by simp, by go_simp, by go_simp, by go_simp, by go_simp, by go_simp, by go_simp, by go_simp, by go_simp, by go_simp, by go_simp, by go_simp, by go_simp, by go_simp, by go_simp, by go_simp, by go_simp⟩
  have B0 : Below w.heap.size w W0 := by rw [hW0]; exact hW1.alloc hW1.size _
  rw [← hW0, ← hB]
  have TT0 := Lib.hid T0
  have BB0 := Lib.hid B0
  clear hW0 hB T0 B0 hW1 hs1
  go_loopg [7, 16] rs.length (fun g s7 s16 wr => ∃ (i k c ls le : Nat) (hs he : Bool) (cs : List (List Value)), i + g = rs.length ∧ s16 = .int .i64 (i : Nat) ∧ Tk wr B s k c ls le hs he ∧ Stand s.data.toList k c ls le hs he ∧ wr.ownsRow (B + 1) 34 4 s7 cs.length cs.flatten ∧ ToldAll s (rs.take i) cs ∧ Below w.heap.size w wr)
  case atStart => exact ⟨0, 0, 0, 0, 0, true, false, [], by omega, rfl, TT0.out, ⟨0, 0, .start, fun _ => rfl, fun q => (by cases q)⟩, World.ownsRow_nil _ _ _ _, .nil, BB0.out⟩
  case round =>
    clear TT0 BB0
    obtain ⟨i, k, c, ls, le, hs, he, cs, hig, rfl, hTk, hSt, hown, hall, hb⟩ := hrel
    have HG := Lib.hid hig
    have KK := Lib.hid hTk
    have ST := Lib.hid hSt
    have OW := Lib.hid hown
    have AL := Lib.hid hall
    have BW := Lib.hid hb
    have hBr : B < wr.heap.size := hTk.1
    have hcl : cs.length ≤ i := by have := hall.len; rw [this, List.length_take]; omega
    clear hig hTk hSt hown hall hb
    by_cases hlt : i < rs.length
    · obtain ⟨r, hri⟩ : ∃ r, rs[i]? = some r := ⟨rs[i], List.getElem?_eq_getElem hlt⟩
      obtain ⟨hr2, j, ct, ft, hAt⟩ := HP.out r (List.mem_of_getElem? hri)
      obtain ⟨b, o, rfl, hbl, hcell⟩ := (show Rgs wr A rs from fun hn => by
        obtain ⟨b, o, e, hl, hc⟩ := HR.out hn
        exact ⟨b, o, e, Nat.lt_of_lt_of_le hl BW.out.size, fun i r hr => ⟨(BW.out.cell (p := ⟨b, _, none⟩) hl).trans (hc i r hr).1, (BW.out.cell (p := ⟨b, _, none⟩) hl).trans (hc i r hr).2⟩⟩) (by omega)
      obtain ⟨hc1, hc2⟩ := hcell i r hri
      have HTK := Lib.hid (take_succ_of hri)
      have HAt := Lib.hid hAt
      obtain ⟨r1, r2⟩ := r
      have hsz : s.data.toList.length = s.size := by rw [Array.length_toList]; rfl
      have hr1 : r1 ≤ 1048576 := by have := hAt.le; simp only at this; omega
      have hr2' : r2 ≤ 1048576 := hr2
      have hc1' : wr.cell? ⟨b, o + i * 2, none⟩ = some (.int .i64 (r1 : Nat)) := hc1
      have hc2' : wr.cell? ⟨b, o + i * 2 + 1, none⟩ = some (.int .i64 (r2 : Nat)) := hc2
      clear hcell hri hAt hc1 hc2 hr2 hsz
      go_wp2_with fail
      refine (rangeOf_any r1 r2 _ hr1 hr2').mono ?_
      rintro e w2 ⟨rfl, hb2⟩
      have hx : Below wr.heap.size wr w2 := ((Below.refl _ _).alloc (Nat.le_refl _) _).trans (hb2.mono (by simp))
      have K2 := Lib.hid (KK.out.below hx)
      have O2 := Lib.hid (OW.out.kept (Lib.grownBy_below (World.grownBy.refl wr none) hx) (by cases OW.out.2 <;> (rename_i q; first | (obtain ⟨rfl, _⟩ := q; left; rfl) | (right; obtain ⟨g, cap, cur, rfl, _⟩ := q; simp [Value.ownBlock]))))
      have B2 := Lib.hid (BW.out.trans (hx.mono BW.out.size))
      have T2 := Lib.hid (HT.out.below B2.out)
      clear hb2 hx KK OW BW
      go_wp2_with fail
      refine (msg_any s B r1 r2 _ k c ls le hs he j ct ft hz hr2' HV.out (by omega) T2.out K2.out ST.out HAt.out).mono ?_
      rintro e w3 ⟨ee, M, hfe, rfl, hMB, hMl, hMs, m5, m6, m7, m3, hTk3, hg3⟩
      have FE := Lib.hid hfe
      have K3 := Lib.hid hTk3
      have O3 := Lib.hid (O2.out.kept hg3 (.inr (own_apart O2.out)))
      have B3 := Lib.hid (B2.out.grown hg3 B2.out.size (fun q hq => by injection hq with hq; omega))
      have hW3s : w.heap.size ≤ w3.heap.size := B3.out.size
      have hB3 : B < w3.heap.size := hTk3.1
      have hMu : some M ≠ u7.ownBlock := fun q => by have := (O2.out.lt M q.symm).2; omega
      clear hTk3 hg3 hfe K2 O2 B2 T2
      have hown := O3.out
      have d1 : cs.length + 1 ≤ maxLen := by unfold maxLen; omega
      have d2 : (cs.length + 1) * 40 ≤ 140737488355328 := by omega
      go_wp2_with fail
      go_region_held3 (fun w' => w'.cell? ⟨M, 5, none⟩ = some (.int .i64 ((ct : Int) + 1)) ∧ w'.cell? ⟨M, 6, none⟩ = some (.int .i64 ((r1 : Int) - ft)) ∧ w'.cell? ⟨M, 7, none⟩ = some (.int .i64 r2) ∧ w'.cell? ⟨M, 3, none⟩ = some (.string (s.extract ft ee))) (first | go_keep | (exact ⟨(hgrow4.cell_far ⟨M, 5, none⟩ (by simp; omega) hMu).trans (by go_simp), (hgrow4.cell_far ⟨M, 6, none⟩ (by simp; omega) hMu).trans (by go_simp), (hgrow4.cell_far ⟨M, 7, none⟩ (by simp; omega) hMu).trans (by go_simp), (hgrow4.cell_far ⟨M, 3, none⟩ (by simp; omega) hMu).trans (by go_simp)⟩))
        ((refine step_append_lies _ (by rfl) _ _ _ (by rfl) (B + 1) 34 i0 _ 4 40 Tryd.underlying28 hi hz0 hz1 hz2 rfl (by omega) u7 cs.length cs.flatten (by rfl) ((hown.alloc _).drew) ⟨w3.heap.size, 0, none⟩ 1 1 [.int .i64 ((ct : Int) + 1), .int .i64 ((r1 : Int) - ft), .int .i64 r2, .string (s.extract ft ee)] (by rfl) (by rfl) (World.news_of_block (cs := #[.int .i64 ((ct : Int) + 1), .int .i64 ((r1 : Int) - ft), .int .i64 r2, .string (s.extract ft ee)]) (t := 34) (fr := (0, 0)) (heap_alloc_new w3 _)) (c2_place _ _ _ _) (by omega) d1 d2 (by simp; omega) (w3.heap.size + 1) (by simp) ?_; intro gg cap w4 hown4 hgrow4 hat4 hlt4))
      have hg4 := Lib.grownBy_trans (World.grownBy_alloc w3 (.cells #[.int .i64 ((ct : Int) + 1), .int .i64 ((r1 : Int) - ft), .int .i64 r2, .string (s.extract ft ee)] 34) u7.ownBlock) (show (w3.alloc (.cells #[.int .i64 ((ct : Int) + 1), .int .i64 ((r1 : Int) - ft), .int .i64 r2, .string (s.extract ft ee)] 34)).grownBy w4 u7.ownBlock from ⟨hgrow4.os, hgrow4.tape, hgrow4.output, hgrow4.size, hgrow4.block⟩)
      have K4 := Lib.hid (K3.out.kept hg4 (own_apart O3.out))
      have B4 := Lib.hid (B3.out.grown hg4 hW3s (fun q hq => by have := (O3.out.lt q hq).1; omega))
      have O4 := Lib.hid hown4
      clear hg4 hgrow4 hown4 hat4 hlt4 hown
      go_wp2_with fail
      have hg := HG.out
      go_roundg (gk - 1)
      case measure => omega
      case rel =>
        refine ⟨i + 1, r1, ct, ft, ee, true, true, cs ++ [[.int .i64 ((ct : Int) + 1), .int .i64 ((r1 : Int) - ft), .int .i64 r2, .string (s.extract ft ee)]], by omega, by go_num, K4.out, ⟨j, ft, HAt.out, fun _ => rfl, fun _ => FE.out⟩, ?_, ?_, B4.out⟩
        · have h := O4.out
          rw [List.flatten_append, List.length_append]
          simpa using h
        · rw [HTK.out]
          exact .snoc AL.out ⟨j, ct, ft, ee, HAt.out, FE.out, rfl⟩
    · have hie : i = rs.length := by have := HG.out; omega
      subst hie
      have hall := AL.out
      rw [List.take_length] at hall
      have AL2 := Lib.hid hall
      clear hall AL hlt
      go_wp2_with fail
      go_ret
      exact ⟨u7, cs, rfl, own_mono OW.out (by omega), AL2.out, BW.out⟩
end Go.Proofs.YtpnigcljndjmlaaDoor.line
