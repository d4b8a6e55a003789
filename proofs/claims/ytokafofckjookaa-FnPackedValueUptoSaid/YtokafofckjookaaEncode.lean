/- EncodeImportAttributes' walk: what a map of pairs is packed as. -/
import Derived.Test.YtokafofckjookaaPackMap
import Derived.StillTailTactics
import Derived.Deep.LoopGhost
import Derived.Deep.DeepCutAuto
import Derived.Deep.QuietTactic
import Derived.BigQuiet
namespace Go.Proofs.Ytokafofckjookaa.pk
open Go.RowKit Go.Maps Go.Sort
open kit bld

/-- sort.Strings of a slice of the call's own -/
theorem sort_own (base : Nat) (v : Value) (ss : List (List UInt8)) (w : World) (hrow : w.ownsRow base 9 1 v ss.length (ss.map encStr)) (hz : ss.length ≤ 1048576) :
    Calls Try.prog 15 #[v] w fun e w' => e = .returned (.tuple #[]) ∧ w'.ownsRow base 9 1 v ss.length ((ss.mergeSort fun x y => decide (x ≤ y)).map encStr) ∧ w.grownBy w' v.ownBlock := by
  rcases hrow.2 with ⟨rfl, h0⟩ | ⟨g, cap, cur, rfl, hbase, hb, h1, h2, h3, h4⟩
  · obtain rfl : ss = [] := List.eq_nil_of_length_eq_zero h0
    refine (Try.sort_Strings_none none 0 w).mono ?_
    rintro e w' ⟨rfl, rfl⟩
    exact ⟨rfl, by simpa using hrow, ⟨rfl, rfl, rfl, Nat.le_refl _, fun _ _ _ => rfl⟩⟩
  · have hH : Holds encStr w g 0 ss.toArray := holds_of_block hb (by simpa using h4)
    refine (Try.sort_Strings g 0 cap ss w hH (heap_lt hb) (by omega)).mono ?_
    rintro e w' ⟨rfl, nn, os, rfl⟩
    exact ⟨rfl, ownsRow_sorted (by simp) hbase hb h1 h2 h3, grownBy_sorted _⟩

/-- the builder and the array behind it, among the call's own blocks -/
def Bst (w5 : World) (bs : List UInt8) (wr : World) : Prop :=
  Lib.IsBuilder 49 5 w5.heap.size w5.heap.size (Lib.byteCells bs) wr ∧ (∃ x0 x1 x2 x3, four wr (w5.heap.size + 1) x0 x1 x2 x3) ∧ Below w5.heap.size w5 wr
def Bst4 (w5 : World) (bs : List UInt8) (v : Nat) (wr : World) : Prop :=
  Lib.IsBuilder 49 5 w5.heap.size w5.heap.size (Lib.byteCells bs) wr ∧ Below w5.heap.size w5 wr ∧
  four wr (w5.heap.size + 1) (.int .u8 (UInt8.ofNat v).toNat) (.int .u8 (UInt8.ofNat (v / 256)).toNat) (.int .u8 (UInt8.ofNat (v / 65536)).toNat) (.int .u8 (UInt8.ofNat (v / 16777216)).toNat)
theorem at_other {T e : TypeId} {B b g : Nat} {p : Value} {bs : List Value} {w w' : World} (h : Lib.BuilderAt T e B b p bs w) (hg : w.grownBy w' (some g)) (hb : b ≠ g) {cs : Array Value} {t : TypeId} (hc : w.heap[g]? = some (.cells cs t (0, 0))) (ht : t ≠ e) : Lib.BuilderAt T e B b p bs w' := by
  obtain ⟨hB, v, hbk, hown, hne⟩ := h
  refine ⟨hB, v, (hg.block b (heap_lt hbk) (by simpa using hb)).trans hbk, hown.kept hg (Or.inr ?_), hne⟩
  rcases hown.2 with ⟨rfl, _⟩ | ⟨g', cap, cur, rfl, _, hh, _⟩
  · simp [Value.ownBlock]
  · simp only [Value.ownBlock, ne_eq, Option.some.injEq]
    rintro rfl
    rw [hh] at hc
    simp at hc
    exact ht hc.2.symm
theorem put_st {w5 wr : World} {bs : List UInt8} (h : Bst w5 bs wr) (v : Nat) (hv : v < 4294967296) :
    Calls Try.prog 16 #[.agg #[], .slice (some ⟨w5.heap.size + 1, 0, none⟩) 4 4, .int .u32 v] wr fun e w' => e = .returned (.tuple #[]) ∧ Bst4 w5 bs v w' := by
  obtain ⟨hb, ⟨x0, x1, x2, x3, h4⟩, hB⟩ := h
  refine (put32 (w5.heap.size + 1) v hv x0 x1 x2 x3 wr h4).mono ?_
  rintro e w' ⟨rfl, hg, h4'⟩
  refine ⟨rfl, ?_, hB.grown hg hB.size (fun k hk => by cases hk; omega), h4'⟩
  rcases hb with hb | hb
  · exact Or.inl (at_other hb hg (by omega) h4 (by decide))
  · exact Or.inr (at_other hb hg (by omega) h4 (by decide))
theorem write_st {w5 wr : World} {bs : List UInt8} {v : Nat} (h : Bst4 w5 bs v wr) (hl : bs.length + 4 ≤ 140737488355328) :
    Calls Try.prog 17 #[.pointer (some ⟨w5.heap.size, 0, none⟩), .slice (some ⟨w5.heap.size + 1, 0, none⟩) 4 4] wr fun e w' => e = .returned (.tuple #[.int .i64 (4 : Nat), .nilIface]) ∧ Bst w5 (bs ++ le4 v) w' := by
  obtain ⟨hb, hB, h4⟩ := h
  refine (writeK w5.heap.size w5.heap.size (Lib.byteCells bs) (w5.heap.size + 1) 4 4 (Lib.byteCells (le4 v)) wr hb (by simp [Lib.byteCells, le4]) _ _ h4 (by decide) (by omega) ?_ ?_ (by rw [Lib.byteCells_length]; exact hl) hB.size).mono ?_
  · intro j u hu
    simpa [Lib.byteCells, le4] using hu
  · intro u hu
    simp [Lib.byteCells, le4] at hu
    rcases hu with rfl | rfl | rfl | rfl <;> rfl
  · rintro e w' ⟨rfl, hb', hB', hk⟩
    refine ⟨rfl, Or.inr ?_, ⟨_, _, _, _, hk _ _ _ _ (by omega) h4 (by decide)⟩, hB.trans hB'⟩
    simpa [Lib.byteCells] using hb'
theorem ws_st {w5 wr : World} {bs : List UInt8} (h : Bst w5 bs wr) (s : ByteArray) (hl : bs.length + s.size ≤ 140737488355328) :
    Calls Try.prog 18 #[.pointer (some ⟨w5.heap.size, 0, none⟩), .string s] wr fun e w' => e = .returned (.tuple #[.int .i64 s.size, .nilIface]) ∧ Bst w5 (bs ++ s.data.toList) w' := by
  obtain ⟨hb, ⟨x0, x1, x2, x3, h4⟩, hB⟩ := h
  refine (writeStringK w5.heap.size w5.heap.size (Lib.byteCells bs) s wr hb (by rw [Lib.byteCells_length]; exact hl) hB.size).mono ?_
  rintro e w' ⟨rfl, hb', hB', hk⟩
  refine ⟨rfl, Or.inr ?_, ⟨_, _, _, _, hk _ _ _ _ (by omega) h4 (by decide)⟩, hB.trans hB'⟩
  simpa [Lib.byteCells, Lib.strCells] using hb'
theorem Bst.drew {w5 wr : World} {bs : List UInt8} (h : Bst w5 bs wr) : Bst w5 bs wr.drew := ⟨h.1, h.2.1, h.2.2.drew⟩
theorem Bst.start (w5 : World) : Bst w5 [] ((w5.alloc (.cells #[.pointer none, .slice none 0 0] 49)).alloc (.cells #[.int .u8 0, .int .u8 0, .int .u8 0, .int .u8 0] 50)) := by
  have e1 : ((w5.alloc (.cells #[.pointer none, .slice none 0 0] 49)).alloc (.cells #[.int .u8 0, .int .u8 0, .int .u8 0, .int .u8 0] 50)).heap[w5.heap.size]? = some (.cells #[.pointer none, .slice none 0 0] 49 (0, 0)) := by
    rw [Below.heap_alloc _ _ _ (by simp)]
    exact (MapKept.heap_alloc w5 _).1
  refine ⟨Or.inl ⟨Nat.le_refl _, .slice none 0 0, e1, ⟨rfl, Or.inl ⟨rfl, rfl⟩⟩, by simp [Value.ownBlock]⟩, ⟨.int .u8 0, .int .u8 0, .int .u8 0, .int .u8 0, ?_⟩, balloc (by simp) (balloc (Nat.le_refl _) (Below.refl _ _))⟩
  have := (MapKept.heap_alloc (w5.alloc (.cells #[.pointer none, .slice none 0 0] 49)) (.cells #[.int .u8 0, .int .u8 0, .int .u8 0, .int .u8 0] 50)).1
  rw [World.size_alloc] at this
  exact this

theorem pairsOf_next (l : List (List UInt8 × List UInt8)) (ks : List (List UInt8)) (i : Nat) (k v : List UInt8) (hk : ks[i]? = some k) (hv : look l k = some v) : pack (pairsOf l (ks.take (i + 1))) = pack (pairsOf l (ks.take i)) ++ le4 k.length ++ k ++ le4 v.length ++ v := by
  rw [List.take_add_one, hk]
  simp only [pairsOf, Option.toList, List.map_append, List.map_cons, List.map_nil, hv, Option.getD_some, pack_append, pack, one, List.append_nil, List.append_assoc]
theorem wrap_u32 (n : Nat) (h : n < 4294967296) : IntKind.u32.wrap (n : Int) = (n : Int) := by
  have : IntKind.u32.wrap (n : Int) = (n : Int) % 4294967296 := rfl
  rw [this]; omega
def Enc (l : List (List UInt8 × List UInt8)) (w : World) (e : Ending) (w' : World) : Prop := ∃ o, Is l o ∧ e = .returned (.agg #[.string ⟨(pack o).toArray⟩]) ∧ Below w.heap.size w w'
/-- the bound of each part -/
def Fits (l : List (List UInt8 × List UInt8)) : Prop := ∀ p ∈ l, p.1.length ≤ 1048576 ∧ p.2.length ≤ 1048576
theorem one_len (p : List UInt8 × List UInt8) : (one p).length = 8 + p.1.length + p.2.length := by simp [one, le4]; omega
theorem pack_len : ∀ (o : List (List UInt8 × List UInt8)), Fits o → (pack o).length ≤ o.length * 2097160
  | [], _ => by simp [pack]
  | p :: r, h => by
    have h1 := h p List.mem_cons_self
    have h2 := pack_len r (fun q hq => h q (List.mem_cons_of_mem _ hq))
    rw [pack, List.length_append, one_len, List.length_cons]
    omega
theorem Is.fits {l o : List (List UInt8 × List UInt8)} (h : Is l o) (hf : Fits l) : Fits o := fun p hp => hf p (look_mem ((h.2 p.1 p.2).1 hp))

set_option maxHeartbeats 1600000 in
set_option maxRecDepth 100000 in
theorem encode_none (l : List (List UInt8 × List UInt8)) (b n : Nat) (D : DataW Unit) (w : World) (hown : w.ownsMap Try.prog 9 (plainElem Try.prog 9) b n D) (hr : Rep D l) (h0 : Maps.size D = 0) :
    Calls Try.prog 13 #[.map (some b)] w (Enc l w) := by
  have hI := Lib.hid (empty_is hr h0 hown.isMap)
  have H0 := Lib.hid h0
  clear hr h0
  have ho := hown.alloc (.cells #[.string ⟨#[]⟩] 32)
  go_enter Try.func13, Try.ntmps13
  go_wp2_with (at_len; refine wpList_len_own _ rfl _ 37 rfl 9 9 Try.underlying37 _ b n _ rfl ho ?_; rw [H0.out])
  refine bodyPost_ret (v := .agg #[.string ⟨#[]⟩]) ?_ rfl ⟨[], hI.out, rfl, ?_⟩
  · simp [results, Try.results13, go_sem]
  · exact balloc (Nat.le_refl _) (Below.refl _ _)

set_option maxHeartbeats 3200000 in
set_option maxRecDepth 100000 in
theorem encode_some (l : List (List UInt8 × List UInt8)) (b n : Nat) (D : DataW Unit) (w : World) (hown : w.ownsMap Try.prog 9 (plainElem Try.prog 9) b n D) (hr : Rep D l) (h0 : 0 < Maps.size D) (hn : n ≤ 1048576) (hf : Fits l) :
    Calls Try.prog 13 #[.map (some b)] w (Enc l w) := by
  obtain ⟨i0, hi, hz0, hz1, hz2⟩ := info_parts infoStr
  have hbl := hown.lt
  have hsn := hown.size_le
  have HRep := Lib.hid hr
  have HF := Lib.hid hf
  clear hr hf
  have hmax : Maps.size D ≤ 1048576 := by omega
  have h0' : ((Maps.size D : Int) == 0) = false := beq_eq_false_iff_ne.2 (by omega)
  have ho := hown.alloc (.cells #[.string ⟨#[]⟩] 32)
  go_enter Try.func13, Try.ntmps13
  go_wp2_with (first
    | (at_len; refine wpList_len_own _ rfl _ 37 rfl 9 9 Try.underlying37 _ b n _ rfl ho ?_)
    | (at_make; refine wpList_make_own _ rfl _ _ 45 rfl (w.heap.size + 1) 9 i0 (.string ⟨#[]⟩) 1 Try.underlying45 hi hz0 hz1 _ _ _ (Maps.size D) rfl rfl rfl (by rw [hz2]; omega) (by unfold maxLen; omega) (by simp) ?_; intro w1 hrow1 hg1)
    | (at_range; refine wpList_range_own _ rfl _ 37 rfl 9 9 lawK Try.underlying37 _ b n _ rfl (ho.kept hg1 (by simp)) ?_; intro w0 hrg0 hg0 hs0))
  go_frame
  go_loopw [3] (fun v wr => ∃ (left : Lit → Bool) (cnt : Nat) (ss : List (List UInt8)), wr.ranges Try.prog 9 (plainElem Try.prog 9) b w1.heap.size n D left cnt ∧ ss.length + cnt ≤ Maps.size D ∧
      wr.ownsRow (w.heap.size + 1) 9 1 v ss.length (ss.map encStr) ∧ Hid (Collected D left ss) ∧ Below (w.heap.size + 1) (w.alloc (.cells #[.string ⟨#[]⟩] 32)) wr)
    (fun _ wr => wr.rangeLeft b w1.heap.size)
  case atStart =>
    exact ⟨_, _, [], hrg0, by simp, by have h := hrow1.kept hg0 (Or.inr (by simp [Value.ownBlock])); rw [World.size_alloc] at h; exact h, Lib.hid (Collected.start D),
      ((Below.refl _ _).grown hg1 (by simp) (fun j hj => by cases hj)).grown hg0 (by have := hg1.size; simp at this; omega) (fun j hj => by cases hj)⟩
  case round =>
    obtain ⟨left, cnt, ss, hrg, hcs, hrow, hC, hnx⟩ := hrel
    go_wp2_with (first
      | (at_next; refine wpList_next_ranges _ rfl _ rfl 9 lawK (plainElem Try.prog 9) encStr encStr (fun key kl hk => by obtain ⟨x, hx, _⟩ := Maps.keyOf_str Try.underlying9 hk; exact ⟨x, hx⟩) (fun v y hv => by obtain ⟨s, rfl, _⟩ := plainElem_string_inv Try.underlying9 hv; exact ⟨s.data.toList, by simp [encStr]⟩) b w1.heap.size n _ _ _ rfl hrg ?_ ?_))
    · intro hc0 hl0
      have HI := Lib.hid (is_sorted HRep.out hC.out hl0)
      have HN := Lib.hid hnx
      have HM := Lib.hid hrg.owns
      have hz := hnx.size
      rw [World.size_alloc] at hz
      have hwr : w.heap.size + 1 ≤ wr.heap.size := hz
      have X := Lib.hid (sort_own _ _ ss wr hrow (by omega))
      clear hc0 hl0 hC hnx hrg hrg0 hg0 hs0 hrow1 hg1 ho hown hz
      go_wp2_with fail
      refine X.out.mono ?_
      rintro e w5 ⟨rfl, hrow5, hg5⟩
      have hb5 := Lib.hid (HN.out.grown hg5 (by omega) (fun j hj => (hrow.lt j hj).1))
      have HM5 := Lib.hid (HM.out.kept hg5 (row_ne_low hrow (by omega)))
      have hz5 := hg5.size
      obtain ⟨ks, hks⟩ : ∃ ks, ks = ss.mergeSort fun x y => decide (x ≤ y) := ⟨_, rfl⟩
      rw [← hks] at HI hrow5
      have hkl : ks.length = ss.length := by rw [hks, List.length_mergeSort]
      obtain ⟨A, c, rfl, hrd⟩ := Rd.of_own hrow5
      have HR5 := Lib.hid hrd
      rw [← hkl] at HR5
      clear hrow5 hg5 hrow X hks hrd HM HN
      rw [← hkl]
      have hkz : ks.length ≤ 1048576 := by omega
      clear hkl
      go_wp2_with fail
      go_loopg [8, 9, 31] ks.length (fun g _ _ s31 wx => ∃ i : Nat, i + g = ks.length ∧ s31 = .int .i64 (i : Nat) ∧ Hid (Bst w5 (pack (pairsOf l (ks.take i))) wx))
      case atStart => exact ⟨0, by omega, rfl, Lib.hid (Bst.start w5)⟩
      case round =>
        obtain ⟨i, hig, rfl, HB⟩ := hrel
        obtain ⟨wo, hwo⟩ : ∃ wo : World, wo = wr := ⟨_, rfl⟩
        cases gk with
        | zero =>
          obtain rfl : i = ks.length := by omega
          rw [List.take_length] at HB
          have X := Lib.hid (Try.Builder_String_any w5.heap.size w5.heap.size (pack (pairsOf l ks)) wr HB.out.1 HB.out.2.2.size)
          clear hig hwo
          go_wp2_with fail
          refine X.out.mono ?_
          rintro e w7 ⟨rfl, hb7⟩
          have hW := (balloc (B := w.heap.size) (o := .cells #[.string ⟨#[]⟩] 32) (Nat.le_refl _) (Below.refl _ w)).trans ((hb5.out.mono (Nat.le_succ _)).trans ((HB.out.2.2.mono (by omega)).trans (hb7.mono (by omega))))
          have hc := (hb7.block w.heap.size (by omega)).trans ((HB.out.2.2.block w.heap.size (by omega)).trans ((hb5.out.block w.heap.size (by omega)).trans (MapKept.heap_alloc w (.cells #[.string ⟨#[]⟩] 32)).1))
          have c0 : w7.cell? ⟨w.heap.size, 0, none⟩ = some (.string ⟨#[]⟩) := by rw [Lib.cell_of_heap hc]; rfl
          have f0 : w7.frozen? ⟨w.heap.size, 0, none⟩ = false := Lib.frozen_of_heap hc 0
          have HW := Lib.hid hW
          clear hW hc hb7 X HB
          go_wp2_with fail
          refine bodyPost_ret (v := .agg #[.string ⟨(pack (pairsOf l ks)).toArray⟩]) ?_ rfl ⟨pairsOf l ks, HI.out, rfl, ?_⟩
          · simp [results, Try.results13, go_sem, c0]
          · exact bset (Nat.le_refl _) HW.out
        | succ g =>
          have hik : i < ks.length := by omega
          obtain ⟨k, hk⟩ : ∃ k, ks[i]? = some k := ⟨_, List.getElem?_eq_getElem hik⟩
          obtain ⟨v, hv⟩ : ∃ v, look l k = some v := by
            have : (k, (look l k).getD []) ∈ pairsOf l ks := List.mem_map.2 ⟨k, List.mem_of_getElem? hk, rfl⟩
            exact ⟨_, (HI.out.2 _ _).1 this⟩
          have hkv := HF.out (k, v) (look_mem hv)
          have hk1 : k.length ≤ 1048576 := hkv.1
          have hv1 : v.length ≤ 1048576 := hkv.2
          have hnx := Lib.hid (pairsOf_next l ks i k v hk hv)
          have hpl : (pack (pairsOf l (ks.take i))).length ≤ i * 2097160 := by
            have h1 := pack_len (pairsOf l (ks.take i)) (fun p hp => by
              obtain ⟨x, hx, rfl⟩ := List.mem_map.1 hp
              exact (HI.out.fits HF.out) _ (List.mem_map.2 ⟨x, List.mem_of_mem_take hx, rfl⟩))
            have h2 : (pairsOf l (ks.take i)).length = i := by rw [pairsOf, List.length_map, List.length_take]; omega
            rw [h2] at h1
            exact h1
          obtain ⟨bl, of, u, rfl, hbk, hu, hcell⟩ := (HR5.out.below HB.out.2.2).at_ hik
          obtain rfl : u = encStr k := by rw [List.getElem?_map, hk] at hu; simpa using hu.symm
          have hcell' : wr.cell? ⟨bl, of + i, none⟩ = some (.string ⟨k.toArray⟩) := hcell
          have hlk := look_run (s := ⟨k.toArray⟩) (owns_below HM5.out HB.out.2.2 (by omega)) HRep.out (by show k.toArray.size ≤ _; unfold maxLen; simp; omega) hv
          have HG := Lib.hid hig
          obtain ⟨bs, hbs⟩ : ∃ bs, bs = pack (pairsOf l (ks.take i)) := ⟨_, rfl⟩
          rw [← hbs] at HB hnx hpl
          have hik' : (i : Int) < (ks.length : Int) := by omega
          clear hwo hk hv hkv hu hcell hig hbs
          go_wp2_with fail
          go_still_tail 5, (by kernel_rfl)
          change wpList _ _ _ _ _ wr.drew
          rw [wrap_u32 k.length (by omega)]
          have X1 := Lib.hid (put_st HB.out.drew k.length (by omega))
          clear hcell' hlk
          generalize wr.drew = w8 at X1 ⊢
          go_wp2_with fail
          refine X1.out.mono ?_
          rintro e w9 ⟨rfl, h9⟩
          have X2 := Lib.hid (write_st h9 (by omega))
          clear X1 h9
          go_wp2_with fail
          refine X2.out.mono ?_
          rintro e w10 ⟨rfl, h10⟩
          have X3 := Lib.hid (ws_st h10 ⟨k.toArray⟩ (by rw [List.length_append]; show _ + (le4 k.length).length + k.toArray.size ≤ _; simp [le4]; omega))
          clear X2 h10
          go_wp2_with fail
          refine X3.out.mono ?_
          rintro e w11 ⟨rfl, h11⟩
          have h11' : Bst w5 (bs ++ le4 k.length ++ k) w11 := h11
          have H11 := Lib.hid h11'
          clear X3 h11 h11'
          go_wp2_with fail
          go_still_tail 5, (by kernel_rfl)
          change wpList _ _ _ _ _ w11.drew
          rw [wrap_u32 v.length (by omega)]
          have X1 := Lib.hid (put_st H11.out.drew v.length (by omega))
          generalize w11.drew = w12 at X1 ⊢
          go_wp2_with fail
          refine X1.out.mono ?_
          rintro e w13 ⟨rfl, h13⟩
          have hl2 : (bs ++ le4 k.length ++ k).length = bs.length + 4 + k.length := by simp [le4]; omega
          have X2 := Lib.hid (write_st h13 (by omega))
          clear X1 h13
          go_wp2_with fail
          refine X2.out.mono ?_
          rintro e w14 ⟨rfl, h14⟩
          have X3 := Lib.hid (ws_st h14 ⟨v.toArray⟩ (by rw [List.length_append, hl2]; show _ + (le4 v.length).length + v.toArray.size ≤ _; simp [le4]; omega))
          clear X2 h14 hl2
          go_wp2_with fail
          refine X3.out.mono ?_
          rintro e w15 ⟨rfl, h15⟩
          have h15' : Bst w5 (bs ++ le4 k.length ++ k ++ le4 v.length ++ v) w15 := h15
          rw [← hnx.out] at h15'
          have H15 := Lib.hid h15'
          clear X3 h15 h15'
          go_wp2_with fail
          have hg := HG.out
          go_roundg g
          case measure => omega
          case rel => exact ⟨i + 1, by omega, by go_num, H15⟩
    · intro x c kl yd yp w2 cnt2 hkey hlk hv hat hrg2 hlt hg2 hs2 hen
      obtain ⟨x', ex, rfl, _⟩ := Maps.keyOf_str Try.underlying9 hkey
      obtain rfl : x = x' := encStr_inj ex
      have hrow2 := hrow.kept hg2 (Or.inr (row_ne_iter hrow hrg).symm)
      have hs1 := hg1.size
      have hnz := hnx.size
      have hg2z := hg2.size
      rw [World.size_alloc] at hs1 hnz
      clear hs2
      go_wp2_with (at_builtin; refine wpList_append_own _ rfl _ _ 45 rfl (w.heap.size + 1) 9 i0 (.string ⟨#[]⟩) 1 16 Try.underlying45 hi hz0 hz1 hz2 rfl (by decide) _ _ _ rfl (hrow2.alloc _) ⟨w2.heap.size, 0, none⟩ 1 1 [encStr x] rfl rfl (cell_one_new _ _ _) (by simp [Value.oneCell', encStr]) (by unfold maxLen; omega) (by omega) (by simp; omega) ?_; intro v' w3 hown' hg3 hnil3; go_frame)
      have hrg3 := (hrg2.alloc (.cells #[encStr x] 9)).kept hg3 (row_ne_low hrow2 (by omega)) (row_ne_iter hrow2 hrg2)
      go_roundw
      case rel =>
        refine ⟨_, cnt2, ss ++ [x], hrg3, by simp; omega, by simpa using hown', Lib.hid (hC.out.step hlk hat), ?_⟩
        exact ((hnx.grown hg2 (by omega) (fun j hj => by cases hj; omega)).alloc (by omega) _).grown hg3 (by simp; omega) (fun j hj => (hrow2.lt j hj).1)
      case measure => rw [hrg3.left_eq, hrg.left_eq]; exact hlt
end Go.Proofs.Ytokafofckjookaa.pk
