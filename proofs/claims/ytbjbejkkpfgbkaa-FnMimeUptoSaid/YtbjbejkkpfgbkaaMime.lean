/- The walks of Mime and FnMime. -/
import Derived.Test.YtbjbejkkpfgbkaaParse
import Derived.Test.YtbjbejkkpfgbkaaPctWalk
import Derived.Test.YtbjbejkkpfgbkaaUrlPlain
import Derived.Deep.RegionWith
import Derived.Deep.RegionHeld3
import Derived.Deep.DeepCutAuto
namespace Go.Proofs.Ytbjbejkkpfgbkaa.fnMime
open Go.RowKit
open kit parse pct

theorem kind_bd (m : ByteArray) : 0 ≤ kind m ∧ kind m ≤ 3 := by
  unfold kind
  split
  · omega
  · split
    · omega
    · split <;> omega
theorem mime_any (u m d : ByteArray) (k : Nat) (w : World) (hp : Lib.hasPrefix u.data.toList [100, 97, 116, 97, 58] = true) (hk : Lib.indexByte u.data.toList 44 = (k : Int)) (h5 : 5 ≤ k) (hku : k < u.size) (hu : u.size ≤ 4194304)
    (hm : u.extract 5 k = m) (hd : u.extract (k + 1) u.size = d) (hs : Lib.hasSuffix m.data.toList [59, 98, 97, 115, 101, 54, 52] = false) (hc : Lib.indexByte m.data.toList 59 = -1) :
    Calls Try.prog 4 #[.string u] w fun e w' => e = .returned (.tuple #[.int .i64 (kind m), .bool true]) ∧ Below w.heap.size w w' := by
  have X := Lib.hid (fun W : World => parse_ok u m d k W hp hk h5 hku hu hm hd hs)
  have Y := Lib.hid (fun W : World => decode_any m d false W hc)
  clear hp hk hm hd hs hc
  go_enter Try.func4, Try.ntmps4
  go_wp2_with fail
  refine (X.out _).mono ?_
  rintro e w1 ⟨rfl, hb1⟩
  go_wp2_with fail
  refine (Y.out _).mono ?_
  rintro e w2 ⟨rfl, hb2⟩
  have hk3 := kind_bd m
  have hW : Below w.heap.size w w2 := (hb1.alloc hb1.size _).trans (hb2.mono (by have := hb1.size; simp; omega))
  clear hb1 hb2 X Y
  go_wp2_with fail
  go_ret2
  exact ⟨rfl, hW⟩

/-- the four types, by number -/
def ty (k : Nat) : ByteArray := match k with
  | 0 => ⟨#[116, 101, 120, 116, 47, 112, 108, 97, 105, 110]⟩
  | 1 => ⟨#[116, 101, 120, 116, 47, 99, 115, 115]⟩
  | 2 => ⟨#[116, 101, 120, 116, 47, 106, 97, 118, 97, 115, 99, 114, 105, 112, 116]⟩
  | _ => ⟨#[97, 112, 112, 108, 105, 99, 97, 116, 105, 111, 110, 47, 106, 115, 111, 110]⟩
theorem cases4 (p : Nat → Prop) (h0 : p 0) (h1 : p 1) (h2 : p 2) (h3 : p 3) (k : Nat) (hk : k < 4) : p k := by
  match k, hk with
  | 0, _ => exact h0
  | 1, _ => exact h1
  | 2, _ => exact h2
  | 3, _ => exact h3
theorem ty_kind (k : Nat) (hk : k < 4) : kind (ty k) = k := cases4 (fun k => kind (ty k) = (k : Int)) (by decide +kernel) (by decide +kernel) (by decide +kernel) (by decide +kernel) k hk
theorem ty_com (k : Nat) (hk : k < 4) : ∀ b ∈ (ty k).data.toList, b ≠ 44 := cases4 (fun k => ∀ b ∈ (ty k).data.toList, b ≠ 44) (by decide +kernel) (by decide +kernel) (by decide +kernel) (by decide +kernel) k hk
theorem ty_sem (k : Nat) (hk : k < 4) : Lib.indexByte (ty k).data.toList 59 = -1 := cases4 (fun k => Lib.indexByte (ty k).data.toList 59 = -1) (by decide +kernel) (by decide +kernel) (by decide +kernel) (by decide +kernel) k hk
theorem ty_suf (k : Nat) (hk : k < 4) : Lib.hasSuffix (ty k).data.toList [59, 98, 97, 115, 101, 54, 52] = false := cases4 (fun k => Lib.hasSuffix (ty k).data.toList [59, 98, 97, 115, 101, 54, 52] = false) (by decide +kernel) (by decide +kernel) (by decide +kernel) (by decide +kernel) k hk
theorem ty_size (k : Nat) (hk : k < 4) : (ty k).size ≤ 16 := cases4 (fun k => (ty k).size ≤ 16) (by decide +kernel) (by decide +kernel) (by decide +kernel) (by decide +kernel) k hk
theorem mime_ty (k : Nat) (hk : k < 4) (P : ByteArray) (hP : P.size ≤ 3145728) (w : World) :
    Calls Try.prog 4 #[.string (((⟨#[100, 97, 116, 97, 58]⟩ ++ ty k) ++ ⟨#[44]⟩) ++ P)] w fun e w' => e = .returned (.tuple #[.int .i64 (k : Int), .bool true]) ∧ Below w.heap.size w w' := by
  have hz := ty_size k hk
  have h3 := url.size3 (ty k) P
  have := mime_any (((url.dat ++ ty k) ++ url.com) ++ P) (ty k) P (5 + (ty k).size) w (url.pre _ _) (url.idx _ _ (ty_com k hk)) (by omega) (by rw [h3]; omega) (by rw [h3]; omega) (url.mime _ _) (url.data _ _) (ty_suf k hk) (ty_sem k hk)
  rw [ty_kind k hk] at this
  exact this
theorem pct_len (t : ByteArray) (way : List Int) : (⟨(upTo t.data.toList way t.size).toArray⟩ : ByteArray).size ≤ 3 * t.size := by
  have := upTo_len t.data.toList way t.size
  show (upTo t.data.toList way t.size).toArray.size ≤ _
  simpa using this
theorem css (P : ByteArray) : (⟨#[100, 97, 116, 97, 58, 116, 101, 120, 116, 47, 99, 115, 115, 44]⟩ : ByteArray) ++ P = ((⟨#[100, 97, 116, 97, 58]⟩ ++ ty 1) ++ ⟨#[44]⟩) ++ P := by
  have : (⟨#[100, 97, 116, 97, 58, 116, 101, 120, 116, 47, 99, 115, 115, 44]⟩ : ByteArray) = (⟨#[100, 97, 116, 97, 58]⟩ ++ ty 1) ++ ⟨#[44]⟩ := by decide +kernel
  rw [this]

def P1 (t : ByteArray) (way : List Int) : ByteArray := ⟨(upTo t.data.toList way t.size).toArray⟩
theorem P1_size (t : ByteArray) (way : List Int) (hs : t.size ≤ 1048576) : (P1 t way).size ≤ 3145728 := by
  have := pct_len t way
  show (⟨(upTo t.data.toList way t.size).toArray⟩ : ByteArray).size ≤ _
  omega
theorem percent_one (t : ByteArray) (b c : Nat) (W : World) (hs : t.size ≤ 1048576) (hc : W.cell? ⟨b, 0, none⟩ = some (.int .i64 1)) :
    Calls Try.prog 5 #[.string t, .slice (some ⟨b, 0, none⟩) 1 c] W fun e w' => e = .returned (.string (P1 t [1])) ∧ Below W.heap.size W w' := by
  refine percent_any t (some ⟨b, 0, none⟩) c [1] W ⟨rfl, fun _ => ⟨b, 0, rfl, World.block_lt_of_cell? W _ hc, fun j u hu => ?_⟩⟩ hs (by simp)
  match j, hu with
  | 0, hu => simp [ints] at hu; subst hu; exact hc
theorem percent_nil (t : ByteArray) (W : World) (hs : t.size ≤ 1048576) :
    Calls Try.prog 5 #[.string t, .slice none 0 0] W fun e w' => e = .returned (.string (P1 t [])) ∧ Below W.heap.size W w' :=
  percent_any t none 0 [] W Rd.nil_ hs (by simp)
theorem cat_size (m P : ByteArray) (hm : m.size ≤ 16) (hP : P.size ≤ 3145728) : (((⟨#[100, 97, 116, 97, 58]⟩ : ByteArray) ++ m) ++ ⟨#[44]⟩).size + P.size ≤ 4194304 := by
  rw [ByteArray.size_append, ByteArray.size_append, show (⟨#[100, 97, 116, 97, 58]⟩ : ByteArray).size = 5 from rfl, show (⟨#[44]⟩ : ByteArray).size = 1 from rfl]; omega

set_option maxHeartbeats 1600000 in
theorem walk {p q : Prop} (n : Int) (t : ByteArray) (_hn : p) (_ht : q) (hs : t.size ≤ 1048576) (w : World) :
    Calls Try.prog 3 #[.int .i64 n, .string t] w fun e w' => e = .returned (.bool true) ∧ Below w.heap.size w w' := by
  obtain ⟨k, hk4, hk⟩ : ∃ k : Nat, k < 4 ∧ (wrap64 (n.tmod 4 + 4)).tmod 4 = (k : Int) := by
    have h1 : -4 < n.tmod 4 := Int.lt_tmod_of_pos n (by omega)
    have h2 : n.tmod 4 < 4 := Int.tmod_lt_of_pos n (by omega)
    refine ⟨((n.tmod 4 + 4).tmod 4).toNat, ?_, ?_⟩
    · rw [Int.tmod_eq_emod_of_nonneg (by omega)]; omega
    · rw [IntWalk.wrap64_in (n.tmod 4 + 4) ⟨by omega, by omega⟩, Int.tmod_eq_emod_of_nonneg (by omega)]; omega
  go_enter Try.func3, Try.ntmps3
  go_wp2_with fail
  obtain ⟨W0, hW0⟩ : ∃ W0, W0 = w.alloc (Obj.cells #[.string (ty 0), .string (ty 1), .string (ty 2), .string (ty 3)] 9) := ⟨_, rfl⟩
  have hB0 : Below w.heap.size w W0 := by rw [hW0]; exact (Below.refl _ _).alloc (Nat.le_refl _) _
  have hz0 : w.heap.size < W0.heap.size := by rw [hW0]; simp
  have hc0 : W0.cell? ⟨w.heap.size, k, none⟩ = some (.string (ty k)) := by
    rw [hW0]
    exact cases4 (fun k => (w.alloc (Obj.cells #[.string (ty 0), .string (ty 1), .string (ty 2), .string (ty 3)] 9)).cell? ⟨w.heap.size, k, none⟩ = some (.string (ty k))) (by go_simp) (by go_simp) (by go_simp) (by go_simp) k hk4
  simp only [ty] at hW0
  rw [← hW0]
  clear hW0 hk
  have hP1 := P1_size t [1] hs
  have hP0 := P1_size t [] hs
  have hty := ty_size k hk4
  have hcs := cat_size (ty k) (P1 t [1]) hty hP1
  have hki : (k : Int) < 4 := by omega
  obtain ⟨m, hm⟩ : ∃ m, m = ty k := ⟨_, rfl⟩
  have X := Lib.hid (mime_ty k hk4 (P1 t [1]) hP1)
  have Y := Lib.hid (mime_ty 1 (by omega) (P1 t []) hP0)
  rw [← css] at Y
  rw [← hm] at hc0 hty X hcs
  clear hm
  go_cut [7, 8] (fun s7 s8 wx => s7 = .int .i64 (k : Int) ∧ s8 = .bool true ∧ Below w.heap.size w wx)
  case first =>
    have q1 : ¬ 9223372036854775807 < 5 + m.size := by omega
    have q2 : ¬ 9223372036854775807 < 5 + m.size + 1 := by omega
    have q3 : ¬ 9223372036854775807 < 5 + m.size + 1 + (P1 t [1]).size := by omega
    go_region_held3 (fun W => W.cell? ⟨w.heap.size, k, none⟩ = some (.string m)) (first | go_keep | (exact (hb1.cell (p := ⟨w.heap.size, k, none⟩) (by show w.heap.size < _; simp; omega)).trans (by go_simp)) | (exact (hb2.cell (p := ⟨w.heap.size, k, none⟩) hz1).trans hs1))
      (first
        | (go_at_call 5; refine (percent_one t W0.heap.size 1 _ hs ?_).mono ?_; (go_simp); rintro e w1 ⟨rfl, hb1⟩; have hz1 : w.heap.size < w1.heap.size := (by have := hb1.size; simp at this; omega); have hs1 : w1.cell? ⟨w.heap.size, k, none⟩ = some (.string m) := (hb1.cell (p := ⟨w.heap.size, k, none⟩) (by show w.heap.size < _; simp; omega)).trans (by go_simp))
        | (go_at_call 4; refine (X.out _).mono ?_; rintro e w2 ⟨rfl, hb2⟩))
    go_wp2_with fail
    go_meet
    refine ⟨rfl, rfl, ?_⟩
    have hW1 : Below w.heap.size w w1 := ((hB0.alloc hB0.size _).drew).trans (hb1.mono (by simp; omega))
    exact hW1.trans (hb2.mono hW1.size)
  case rest =>
    obtain ⟨rfl, rfl, hW⟩ := hcut
    clear hc0 hB0 X
    have q4 : ¬ 9223372036854775807 < 14 + (P1 t []).size := by omega
    go_wp2_with fail
    refine (percent_nil t _ hs).mono ?_
    rintro e w1 ⟨rfl, hb1⟩
    go_wp2_with fail
    refine (Y.out _).mono ?_
    rintro e w2 ⟨rfl, hb2⟩
    have hW1 : Below w.heap.size w w1 := hW.trans (hb1.mono hW.size)
    have hW2 : Below w.heap.size w w2 := hW1.trans (hb2.mono hW1.size)
    clear hb1 hb2 hW hW1 Y
    go_wp2_with fail
    go_ret
    exact ⟨by simp, hW2⟩
end Go.Proofs.Ytbjbejkkpfgbkaa.fnMime
