/- The walk of DecodeWTF8Rune where a sign stands. -/
import Derived.Test.YtpnigcljndjmlaaPtWalk
import Derived.Laws.BitsAllLaws
import Derived.Laws.Bits64
namespace Go.Proofs.Ytpnigcljndjmlaa.wtf
open Go.RowKit
open kit pt

theorem at_of {s : ByteArray} {l : List UInt8} (h : s.data.toList = l) (k : Nat) (hk : k < l.length) : ∃ hs : k < s.size, s[k]'hs = l[k] := by
  subst h
  have hs : k < s.size := by rw [Array.length_toList] at hk; exact hk
  exact ⟨hs, by rw [Array.getElem_toList]; rfl⟩
theorem m2 (c : Nat) (h1 : 194 ≤ c) (h2 : c < 224) : bits .and .u8 (c : Int) 224 = 192 := by
  have : ∀ c : Fin 256, 194 ≤ c.1 → c.1 < 224 → bits .and .u8 (c.1 : Int) 224 = 192 := by decide +kernel
  exact this ⟨c, by omega⟩ h1 h2
theorem m3 (c : Nat) (h1 : 224 ≤ c) (h2 : c < 240) : bits .and .u8 (c : Int) 224 = 224 ∧ bits .and .u8 (c : Int) 240 = 224 := by
  have : ∀ c : Fin 256, 224 ≤ c.1 → c.1 < 240 → bits .and .u8 (c.1 : Int) 224 = 224 ∧ bits .and .u8 (c.1 : Int) 240 = 224 := by decide +kernel
  exact this ⟨c, by omega⟩ h1 h2
theorem m4 (c : Nat) (h1 : 240 ≤ c) (h2 : c < 245) : bits .and .u8 (c : Int) 224 = 224 ∧ bits .and .u8 (c : Int) 240 = 240 ∧ bits .and .u8 (c : Int) 248 = 240 := by
  have : ∀ c : Fin 256, 240 ≤ c.1 → c.1 < 245 → bits .and .u8 (c.1 : Int) 224 = 224 ∧ bits .and .u8 (c.1 : Int) 240 = 240 ∧ bits .and .u8 (c.1 : Int) 248 = 240 := by decide +kernel
  exact this ⟨c, by omega⟩ h1 h2
theorem mc (c : Nat) (h1 : 128 ≤ c) (h2 : c ≤ 191) : bits .and .u8 (c : Int) 192 = 128 := by
  have : ∀ c : Fin 256, 128 ≤ c.1 → c.1 ≤ 191 → bits .and .u8 (c.1 : Int) 192 = 128 := by decide +kernel
  exact this ⟨c, by omega⟩ h1 h2
def Rn (p : Int) (n : Nat) (w : World) (e : Ending) (w' : World) : Prop := e = .returned (.tuple #[.int .i32 p, .int .i64 n]) ∧ w = w'

set_option maxRecDepth 100000 in
theorem wtf_1 (s : ByteArray) (w : World) (c : Nat) (z : 1 ≤ s.size) (ec : (s[0]'(by omega)).toNat = c) (h1 : c < 128) (hz : s.size ≤ 1048576) :
    Calls Try.prog 16 #[.string s] w (Rn c 1 w) := by
  go_enter Try.func16, Try.ntmps16
  go_wp2_with fail
  go_ret2
  exact ⟨rfl, rfl⟩
set_option maxRecDepth 100000 in
set_option maxHeartbeats 1600000 in
theorem wtf_2 (s : ByteArray) (w : World) (c b : Nat) (z : 2 ≤ s.size) (ec : (s[0]'(by omega)).toNat = c) (eb : (s[1]'(by omega)).toNat = b) (h1 : 194 ≤ c) (h2 : c < 224) (b1 : 128 ≤ b) (b2 : b ≤ 191) (hz : s.size ≤ 1048576) :
    Calls Try.prog 16 #[.string s] w (Rn (((c : Int) - 192) * 64 + ((b : Int) - 128)) 2 w) := by
  have q1 := m2 c h1 h2
  have q2 := mc b b1 b2
  go_enter Try.func16, Try.ntmps16
  go_wp2_with fail
  go_ret2
  refine ⟨?_, rfl⟩
  rw [show ((c : Int) - 192) * 64 + ((b : Int) - 128) = (c : Int) % 32 * 64 + (b : Int) % 64 from by omega]
  rfl
set_option maxRecDepth 100000 in
set_option maxHeartbeats 1600000 in
theorem wtf_3 (s : ByteArray) (w : World) (c b d : Nat) (z : 3 ≤ s.size) (ec : (s[0]'(by omega)).toNat = c) (eb : (s[1]'(by omega)).toNat = b) (ed : (s[2]'(by omega)).toNat = d) (h1 : 224 ≤ c) (h2 : c < 240) (b1 : 128 ≤ b) (b2 : b ≤ 191)
    (d1 : 128 ≤ d) (d2 : d ≤ 191) (h3 : 2048 ≤ (((c : Int) - 224) * 64 + ((b : Int) - 128)) * 64 + ((d : Int) - 128)) (hz : s.size ≤ 1048576) :
    Calls Try.prog 16 #[.string s] w (Rn ((((c : Int) - 224) * 64 + ((b : Int) - 128)) * 64 + ((d : Int) - 128)) 3 w) := by
  obtain ⟨q1, q1'⟩ := m3 c h1 h2
  have q2 := mc b b1 b2
  have q3 := mc d d1 d2
  have h3' : 2048 ≤ (c : Int) % 16 * 4096 + (b : Int) % 64 * 64 + (d : Int) % 64 := by omega
  clear h3
  go_enter Try.func16, Try.ntmps16
  go_wp2_with fail
  go_ret2
  refine ⟨?_, rfl⟩
  rw [show (((c : Int) - 224) * 64 + ((b : Int) - 128)) * 64 + ((d : Int) - 128) = (c : Int) % 16 * 4096 + (b : Int) % 64 * 64 + (d : Int) % 64 from by omega]
  rfl
set_option maxRecDepth 100000 in
set_option maxHeartbeats 1600000 in
theorem wtf_4 (s : ByteArray) (w : World) (c b d f : Nat) (z : 4 ≤ s.size) (ec : (s[0]'(by omega)).toNat = c) (eb : (s[1]'(by omega)).toNat = b) (ed : (s[2]'(by omega)).toNat = d) (ef : (s[3]'(by omega)).toNat = f) (h1 : 240 ≤ c) (h2 : c < 245) (b1 : 128 ≤ b) (b2 : b ≤ 191)
    (d1 : 128 ≤ d) (d2 : d ≤ 191) (f1 : 128 ≤ f) (f2 : f ≤ 191) (h3 : 65536 ≤ ((((c : Int) - 240) * 64 + ((b : Int) - 128)) * 64 + ((d : Int) - 128)) * 64 + ((f : Int) - 128)) (h4 : ((((c : Int) - 240) * 64 + ((b : Int) - 128)) * 64 + ((d : Int) - 128)) * 64 + ((f : Int) - 128) ≤ 1114111) (hz : s.size ≤ 1048576) :
    Calls Try.prog 16 #[.string s] w (Rn (((((c : Int) - 240) * 64 + ((b : Int) - 128)) * 64 + ((d : Int) - 128)) * 64 + ((f : Int) - 128)) 4 w) := by
  obtain ⟨q1, q1', q1''⟩ := m4 c h1 h2
  have q2 := mc b b1 b2
  have q3 := mc d d1 d2
  have q4 := mc f f1 f2
  have h3' : 65536 ≤ (c : Int) % 8 * 262144 + (b : Int) % 64 * 4096 + (d : Int) % 64 * 64 + (f : Int) % 64 := by omega
  have h4' : (c : Int) % 8 * 262144 + (b : Int) % 64 * 4096 + (d : Int) % 64 * 64 + (f : Int) % 64 ≤ 1114111 := by omega
  clear h3 h4
  go_enter Try.func16, Try.ntmps16
  go_wp2_with fail
  go_ret2
  refine ⟨?_, rfl⟩
  rw [show ((((c : Int) - 240) * 64 + ((b : Int) - 128)) * 64 + ((d : Int) - 128)) * 64 + ((f : Int) - 128) = (c : Int) % 8 * 262144 + (b : Int) % 64 * 4096 + (d : Int) % 64 * 64 + (f : Int) % 64 from by omega]
  rfl

theorem wtf_any (s : ByteArray) (p : Int) (n : Nat) (w : World) (hz : s.size ≤ 1048576) (h : Ch s.data.toList p n) :
    Calls Try.prog 16 #[.string s] w (Rn p n w) := by
  generalize hl : s.data.toList = l at h
  have hsz : l.length = s.size := by rw [← hl, Array.length_toList]; rfl
  cases h with
  | one c r h =>
    obtain ⟨z0, e0⟩ := at_of hl 0 (by simp)
    exact wtf_1 s w c.toNat (by omega) (by rw [e0]; rfl) h hz
  | two c b r h1 h2 hb =>
    obtain ⟨z0, e0⟩ := at_of hl 0 (by simp)
    obtain ⟨z1, e1⟩ := at_of hl 1 (by simp)
    rw [ct_iff] at hb
    exact wtf_2 s w c.toNat b.toNat (by omega) (by rw [e0]; rfl) (by rw [e1]; rfl) h1 h2 hb.1 hb.2 hz
  | three c b d r h1 h2 hb hd h3 h4 =>
    obtain ⟨z0, e0⟩ := at_of hl 0 (by simp)
    obtain ⟨z1, e1⟩ := at_of hl 1 (by simp)
    obtain ⟨z2, e2⟩ := at_of hl 2 (by simp)
    rw [ct_iff] at hb hd
    exact wtf_3 s w c.toNat b.toNat d.toNat (by omega) (by rw [e0]; rfl) (by rw [e1]; rfl) (by rw [e2]; rfl) h1 h2 hb.1 hb.2 hd.1 hd.2 h3 hz
  | four c b d f r h1 h2 hb hd hf h3 h4 =>
    obtain ⟨z0, e0⟩ := at_of hl 0 (by simp)
    obtain ⟨z1, e1⟩ := at_of hl 1 (by simp)
    obtain ⟨z2, e2⟩ := at_of hl 2 (by simp)
    obtain ⟨z3, e3⟩ := at_of hl 3 (by simp)
    rw [ct_iff] at hb hd hf
    exact wtf_4 s w c.toNat b.toNat d.toNat f.toNat (by omega) (by rw [e0]; rfl) (by rw [e1]; rfl) (by rw [e2]; rfl) (by rw [e3]; rfl) h1 h2 hb.1 hb.2 hd.1 hd.2 hf.1 hf.2 h3 h4 hz
end Go.Proofs.Ytpnigcljndjmlaa.wtf
