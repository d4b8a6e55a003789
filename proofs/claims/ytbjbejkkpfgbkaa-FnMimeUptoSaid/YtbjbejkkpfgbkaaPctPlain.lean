/- What spec.Percent writes, in plain terms. -/
namespace Go.Proofs.Ytbjbejkkpfgbkaa.pct

def al (m : Nat) : Bool := (decide (97 ≤ m) && decide (m ≤ 122)) || (decide (65 ≤ m) && decide (m ≤ 90)) || (decide (48 ≤ m) && decide (m ≤ 57))
def digs : List UInt8 := [48, 49, 50, 51, 52, 53, 54, 55, 56, 57, 65, 66, 67, 68, 69, 70, 97, 98, 99, 100, 101, 102]
/-- the digit's place: the small letters stand 6 further -/
def pl (b : Bool) (h : Nat) : Nat := if b && decide (9 < h) then h + 6 else h
def pcb (n : Int) (c : UInt8) : List UInt8 :=
  if decide (n.tmod 2 = 0) && al c.toNat then [c] else [37, digs.getD (pl (decide (n.tmod 3 = 0)) (c.toNat / 16)) 0, digs.getD (pl (decide (n.tmod 5 = 0)) (c.toNat % 16)) 0]
def nth (way : List Int) (i : Nat) : Int := if 0 < way.length then way.getD (i % way.length) 0 else 0
def upTo (s : List UInt8) (way : List Int) (k : Nat) : List UInt8 := (List.range k).flatMap fun i => pcb (nth way i) (s.getD i 0)
theorem upTo_succ (s : List UInt8) (way : List Int) (k : Nat) : upTo s way (k + 1) = upTo s way k ++ pcb (nth way k) (s.getD k 0) := by
  unfold upTo; rw [List.range_succ, List.flatMap_append]; simp
theorem pcb_len (n : Int) (c : UInt8) : (pcb n c).length ≤ 3 := by unfold pcb; split <;> simp
theorem upTo_len (s : List UInt8) (way : List Int) (k : Nat) : (upTo s way k).length ≤ 3 * k := by
  induction k with
  | zero => simp [upTo]
  | succ k ih =>
    rw [upTo_succ, List.length_append]
    have := pcb_len (nth way k) (s.getD k 0)
    omega
theorem pl_lt (b : Bool) (h : Nat) (hh : h < 16) : pl b h < 22 := by unfold pl; split <;> omega
end Go.Proofs.Ytbjbejkkpfgbkaa.pct
