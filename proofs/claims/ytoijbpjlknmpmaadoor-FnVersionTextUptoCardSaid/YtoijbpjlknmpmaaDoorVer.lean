/- Walks of Semver.String and VersionText. -/
import Derived.Test.YtoijbpjlknmpmaaDoorCmpWalk
import Derived.Test.YtoijbpjlknmpmaaDoorBuilder
import Derived.Test.YtoijbpjlknmpmaaDoorShelf
import Derived.Lib.ItoaLen
import Derived.Lib.AppendIntMem
namespace Go.Proofs.YtoijbpjlknmpmaaDoor.ver
open Go.RowKit
open kit cmp

/-- numbers with points between -/
def jn (ns : List Int) : List UInt8 := ns.foldl (fun a n => (if a.isEmpty then [] else a ++ [46]) ++ Lib.itoa n) []
theorem jn_snoc (ns : List Int) (n : Int) : jn (ns ++ [n]) = (if (jn ns).isEmpty then [] else jn ns ++ [46]) ++ Lib.itoa n := by simp [jn]
theorem dec_ne (u : Nat) : Lib.decDigits u ≠ [] := by
  rw [Lib.decDigits]
  split <;> simp
theorem itoa_ne (n : Int) : Lib.itoa n ≠ [] := by
  unfold Lib.itoa
  split
  · simp
  · exact dec_ne _
theorem jn_ne (ns : List Int) (h : ns ≠ []) : jn ns ≠ [] := by
  obtain ⟨a, d, rfl⟩ : ∃ a d, ns = a ++ [d] := ⟨ns.dropLast, ns.getLast h, (List.dropLast_concat_getLast _).symm⟩
  rw [jn_snoc]
  intro e
  exact itoa_ne d (List.append_eq_nil_iff.1 e).2
def Fit (n : Int) : Prop := -9223372036854775808 ≤ n ∧ n ≤ 9223372036854775807
theorem jn_len (ns : List Int) (h : ∀ n ∈ ns, Fit n) : (jn ns).length ≤ 22 * ns.length := by
  have key : ∀ (l : List Int) (a : List UInt8), (∀ n ∈ l, Fit n) → (l.foldl (fun a n => (if a.isEmpty then [] else a ++ [46]) ++ Lib.itoa n) a).length ≤ a.length + 22 * l.length := by
    intro l
    induction l with
    | nil => intro a _; simp
    | cons n l ih =>
      intro a hl
      have h1 := ih ((if a.isEmpty then [] else a ++ [46]) ++ Lib.itoa n) (fun m hm => hl m (by simp [hm]))
      have h2 := Lib.itoa_length_le n (hl n (by simp)).1 (hl n (by simp)).2
      have h3 : ((if a.isEmpty then [] else a ++ [46]) ++ Lib.itoa n).length ≤ a.length + 22 := by
        rw [List.length_append]
        split <;> simp <;> omega
      simp only [List.foldl_cons, List.length_cons]
      omega
  have := key ns [] h
  simpa [jn] using this

theorem kept_of {T e : TypeId} {B b : Nat} {p : Value} {bs : List Value} {w w' : World} (h : Lib.BuilderAt T e B b p bs w) (hb : Below w.heap.size w w') : Lib.BuilderAt T e B b p bs w' := by
  have hlt := h.lt
  obtain ⟨hB, v, hk, hown, hne⟩ := h
  exact ⟨hB, v, by rw [hb.block b hlt]; exact hk, hown.kept (row := none) ⟨hb.os, hb.tape, hb.output, hb.size, fun i hi _ => hb.block i hi⟩ (by
    cases v.ownBlock with
    | none => exact .inl rfl
    | some k => exact .inr (by simp)), hne⟩
theorem isKept {T e : TypeId} {B b : Nat} {bs : List Value} {w w' : World} (h : Lib.IsBuilder T e B b bs w) (hb : Below w.heap.size w w') : Lib.IsBuilder T e B b bs w' := by
  rcases h with h | h
  · exact .inl (kept_of h hb)
  · exact .inr (kept_of h hb)

/-- the table that Itoa reads -/
def Tab (w : World) : Prop := Lib.TabIs Tryd.prog w "internal/strconv.uint64pow10" .u64 Lib.pow10Tab
theorem gTab : Tryd.prog.globalNamed "internal/strconv.uint64pow10" = some 0 := by kernel_rfl
theorem Tab.below {B : Nat} {w w' : World} (h : Tab w) (hb : Below B w w') (hB : 0 < B) : Tab w' := var?_below hb gTab hB h

theorem tab_lt {w : World} (h : Tab w) : 0 < w.heap.size := World.block_lt_of_cell? w _ (Lib.TabIs.cell h gTab 0 (by decide))
theorem nil_row (w : World) (B : Nat) : w.ownsRow B 5 1 (.slice none 0 0) 0 [] := World.ownsRow_nil _ _ _ _
theorem mem_fit {xs : List Int} (h : ∀ n ∈ xs, Fit n) (k : Nat) : Fit (xs.getD k 0) := by
  rcases Nat.lt_or_ge k xs.length with hk | hk
  · rw [show xs.getD k 0 = xs[k] from by simp [hk]]; exact h _ (List.getElem_mem hk)
  · rw [show xs.getD k 0 = 0 from by simp [hk]]; unfold Fit; omega

set_option maxHeartbeats 3200000 in
theorem string_any (A : Option Addr) (c : Nat) (ns : List Int) (s : ByteArray) (w : World) (hr : Rd w w.heap.size A ns.length (ints ns)) (hl : ns.length ≤ 1048576) (hs : s.size ≤ 1048576) (hf : ∀ n ∈ ns, Fit n) (ht : Tab w) :
    Calls Tryd.prog 19 #[.agg #[.slice A ns.length c, .string s]] w fun e w' => e = .returned (.string ⟨(jn ns ++ s.data.toList).toArray⟩) ∧ Below w.heap.size w w' := by
  have hg0 := tab_lt ht
  have HR := Lib.hid hr
  have HF := Lib.hid hf
  have HT := Lib.hid ht
  clear hr hf ht
  go_enter Tryd.func19, Tryd.ntmps19
  go_wp2_with fail
  obtain ⟨W0, hW0⟩ : ∃ W0, W0 = w.alloc (Obj.cells #[.slice A ns.length c, .string s] 44) := ⟨_, rfl⟩
  rw [← hW0]
  have hz0 : W0.heap.size = w.heap.size + 1 := by rw [hW0]; simp
  have hB0 : Below w.heap.size w W0 := by rw [hW0]; exact (Below.refl _ _).alloc (Nat.le_refl _) _
  have hc1 : W0.cell? ⟨w.heap.size, 1, none⟩ = some (.string s) := by rw [hW0]; go_simp
  clear hW0
  have HZ := Lib.hid hz0
  clear hz0
  go_loopg [10] ns.length (fun g s10 wr => ∃ k, k + g = ns.length ∧ s10 = .int .i64 (k : Nat) ∧ Lib.IsBuilder 49 5 (w.heap.size + 1) (w.heap.size + 1) (Lib.byteCells (jn (ns.take k))) wr ∧ Below (w.heap.size + 1) W0 wr)
  case atStart =>
    have hz := HZ.out
    refine ⟨0, by omega, rfl, .inl ⟨Nat.le_refl _, .slice none 0 0, ?_, nil_row _ _, by simp [Value.ownBlock]⟩, (Below.refl _ _).alloc (by omega) _⟩
    rw [← hz]
    exact heap_alloc_new W0 _
  case round =>
    obtain ⟨k, hkg, rfl, hbd, hb⟩ := hrel
    have HG := Lib.hid hkg
    have hkx : k ≤ ns.length := by omega
    clear hkg
    have hbs : w.heap.size + 1 ≤ wr.heap.size := by have := hb.size; rw [HZ.out] at this; exact this
    have hbw : Below w.heap.size w wr := hB0.trans (hb.mono (by omega))
    have hjl := jn_len (ns.take k) (fun n hn => HF.out n (List.mem_of_mem_take hn))
    rw [List.length_take, Nat.min_eq_left hkx] at hjl
    by_cases hlt : k < ns.length
    · obtain ⟨b, o, u, rfl, hbB, hu, hcell⟩ := (HR.out.below hbw).at_ hlt
      rw [ints_get ns k hlt] at hu
      obtain rfl := Option.some.inj hu
      have hfd := mem_fit HF.out k
      have hsn := jn_snoc (ns.take k) (ns.getD k 0)
      rw [← take_snoc ns k hlt] at hsn
      obtain ⟨d, hd⟩ : ∃ d, d = ns.getD k 0 := ⟨_, rfl⟩
      rw [← hd] at hcell hfd hsn
      clear hd hu
      have hil := Lib.itoa_length_le d hfd.1 hfd.2
      have HI := Lib.hid (fun (W : World) (hx : Below w.heap.size w W) => Tryd.strconv_Itoa d hfd.1 hfd.2 W (HT.out.below hx (by omega)))
      have XL := Lib.hid (Tryd.Builder_Len _ _ _ wr hbd)
      rw [Lib.byteCells_length] at XL
      clear hfd
      have HS0 := Lib.hid hsn
      clear hsn
      rcases Nat.eq_zero_or_pos k with hk0 | hk0
      · have hj0 : jn (ns.take k) = [] := by rw [hk0]; rfl
        have HS : Hid (jn (ns.take (k + 1)) = [] ++ Lib.itoa d) := by
          show _ = _
          rw [HS0.out, hj0]; rfl
        rw [hj0] at hbd XL hjl
        clear hj0 hk0 HS0
        have hbd1 := hbd
        obtain ⟨w1, hw1⟩ : ∃ w1, w1 = wr := ⟨_, rfl⟩
        have hb1 : Below (w.heap.size + 1) wr w1 := by rw [hw1]; exact Below.refl _ _
        go_wp2_with fail
        refine XL.out.mono ?_
        rintro e w' ⟨rfl, rfl⟩
        subst hw1
        clear XL
        have e1 : Below w.heap.size w w1 := hbw.trans (hb1.mono (by omega))
        have hs1 := hb1.size
        go_wp2_with fail
        refine (HI.out w1 e1).mono ?_
        rintro e w2 ⟨rfl, hex⟩
        have hb2 : Below w1.heap.size w1 w2 := by
          obtain ⟨kk, os, rfl⟩ := hex
          exact Lib.below_grow w1.heap.size w1 (Nat.le_refl _) kk os
        have hbd2 := isKept hbd1 hb2
        clear hex
        have hs2 := hb2.size
        have XW := Lib.hid (bld.writeString (w.heap.size + 1) (w.heap.size + 1) _ ⟨(Lib.itoa d).toArray⟩ w2 hbd2 (by rw [Lib.byteCells_length]; show _ + (Lib.itoa d).toArray.size ≤ _; simp; omega) (by omega))
        clear hbd1 hbd2 HI
        go_wp2_with fail
        refine XW.out.mono ?_
        rintro e w3 ⟨rfl, hbd3, hb3⟩
        have hB3 : Below (w.heap.size + 1) W0 w3 := (hb.trans (hb1.trans (hb2.mono (by omega)))).trans hb3
        have HD3 := Lib.hid hbd3
        clear hbd3 hb3 hb2 hb1 XW
        go_wp2
        have hg := HG.out
        go_roundg (gk - 1)
        case measure => omega
        case rel =>
          refine ⟨k + 1, by omega, by go_num, ?_, hB3⟩
          right
          rw [HS.out, Lib.byteCells_append]
          exact HD3.out
      · have hne := jn_ne (ns.take k) (by intro h; have := congrArg List.length h; rw [List.length_take, List.length_nil] at this; omega)
        have hjp : 0 < (jn (ns.take k)).length := List.length_pos_iff.2 hne
        have HS : Hid (jn (ns.take (k + 1)) = (jn (ns.take k) ++ [46]) ++ Lib.itoa d) := by
          show _ = _
          rw [HS0.out]
          have : (jn (ns.take k)).isEmpty = false := by simp [hne]
          rw [this]; rfl
        clear hne HS0
        obtain ⟨J, hJ⟩ : ∃ J, J = jn (ns.take k) := ⟨_, rfl⟩
        rw [← hJ] at hbd XL hjl HS hjp
        clear hJ
        have XR := Lib.hid (bld.writeRune (w.heap.size + 1) (w.heap.size + 1) _ 46 (by omega) (by omega) wr hbd (by rw [Lib.byteCells_length]; omega) (by omega))
        clear hbd
        go_wp2_with fail
        refine XL.out.mono ?_
        rintro e w' ⟨rfl, rfl⟩
        clear XL
        go_wp2_with fail
        refine XR.out.mono ?_
        rintro e w1 ⟨rfl, hbd0, hb1⟩
        have hbd1 : Lib.IsBuilder 49 5 (w.heap.size + 1) (w.heap.size + 1) (Lib.byteCells (J ++ [46])) w1 := by
          right; rw [Lib.byteCells_append]; exact hbd0
        clear hbd0 XR
        have e1 : Below w.heap.size w w1 := hbw.trans (hb1.mono (by omega))
        have hs1 := hb1.size
        go_wp2_with fail
        refine (HI.out w1 e1).mono ?_
        rintro e w2 ⟨rfl, hex⟩
        have hb2 : Below w1.heap.size w1 w2 := by
          obtain ⟨kk, os, rfl⟩ := hex
          exact Lib.below_grow w1.heap.size w1 (Nat.le_refl _) kk os
        have hbd2 := isKept hbd1 hb2
        clear hex
        have hs2 := hb2.size
        have XW := Lib.hid (bld.writeString (w.heap.size + 1) (w.heap.size + 1) _ ⟨(Lib.itoa d).toArray⟩ w2 hbd2 (by rw [Lib.byteCells_length, List.length_append]; show _ + (Lib.itoa d).toArray.size ≤ _; simp; omega) (by omega))
        clear hbd1 hbd2 HI
        go_wp2_with fail
        refine XW.out.mono ?_
        rintro e w3 ⟨rfl, hbd3, hb3⟩
        have hB3 : Below (w.heap.size + 1) W0 w3 := (hb.trans (hb1.trans (hb2.mono (by omega)))).trans hb3
        have HD3 := Lib.hid hbd3
        clear hbd3 hb3 hb2 hb1 XW
        go_wp2
        have hg := HG.out
        go_roundg (gk - 1)
        case measure => omega
        case rel =>
          refine ⟨k + 1, by omega, by go_num, ?_, hB3⟩
          right
          rw [HS.out, Lib.byteCells_append]
          exact HD3.out
    · have hke : k = ns.length := by omega
      subst hke
      rw [List.take_length] at hbd hjl
      have hcr : wr.cell? ⟨w.heap.size, 1, none⟩ = some (.string s) := (hb.cell (by show w.heap.size < w.heap.size + 1; omega)).trans hc1
      have XW := Lib.hid (bld.writeString (w.heap.size + 1) (w.heap.size + 1) _ s wr hbd (by rw [Lib.byteCells_length]; omega) (by omega))
      clear hbd hlt
      go_wp2_with fail
      refine XW.out.mono ?_
      rintro e w2 ⟨rfl, hbd2, hb2⟩
      have hs2 := hb2.size
      have hbd3 : Lib.IsBuilder 49 5 (w.heap.size + 1) (w.heap.size + 1) (Lib.byteCells (jn ns ++ s.data.toList)) w2 := by
        right; rw [Lib.byteCells_append]; exact hbd2
      have XS := Lib.hid (Tryd.Builder_String_any _ _ _ w2 hbd3 (by omega))
      clear hbd2 hbd3 XW
      go_wp2_with fail
      refine XS.out.mono ?_
      rintro e w3 ⟨rfl, hb3⟩
      have hB3 : Below w.heap.size w w3 := hbw.trans ((hb2.trans hb3).mono (by omega))
      clear hb2 hb3 XS
      go_wp2
      go_ret
      exact ⟨rfl, hB3⟩

set_option maxHeartbeats 800000 in
theorem versionText_any (A : Option Addr) (c : Nat) (ns : List Int) (s : ByteArray) (w : World) (hr : Rd w w.heap.size A ns.length (ints ns)) (hl : ns.length ≤ 1048576) (hs : s.size ≤ 1048576) (hf : ∀ n ∈ ns, Fit n) (ht : Tab w) :
    Calls Tryd.prog 10 #[.agg #[.slice A ns.length c, .string s]] w fun e w' => e = .returned (.string ⟨(jn ns ++ s.data.toList).toArray⟩) ∧ Below w.heap.size w w' := by
  have X := Lib.hid (fun (W : World) (h : Below w.heap.size w W) => string_any A c ns s W (rd_keep hr h) hl hs hf (ht.below h (tab_lt ht)))
  clear hr hf ht
  go_enter Tryd.func10, Tryd.ntmps10
  go_wp2_with fail
  refine (X.out _ ((Below.refl _ _).alloc (Nat.le_refl _) _)).mono ?_
  rintro e w1 ⟨rfl, hb⟩
  have hW : Below w.heap.size w w1 := ((Below.refl _ _).alloc (Nat.le_refl _) _).trans (hb.mono (by simp))
  clear hb X
  go_wp2
  go_ret
  exact ⟨rfl, hW⟩
end Go.Proofs.YtoijbpjlknmpmaaDoor.ver
