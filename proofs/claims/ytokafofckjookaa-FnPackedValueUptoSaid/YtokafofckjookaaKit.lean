/- Small lemmas on worlds: frames, slices that read as lists. -/
import Derived.WalkKit
import Derived.Below
import Derived.WalkSmall
import Derived.Laws.OwnMore
import Derived.Deep.AppendLies
import Derived.Deep.Draws
import Derived.Lib.Hide
namespace Go.Proofs.Ytokafofckjookaa.kit
open Go.RowKit

theorem bset {B : Nat} {a w : World} {p : Addr} {u : Value} (hp : B ≤ p.block) (h : Below B a w) : Below B a (w.setCell p u) := h.setCell hp u
theorem bdrew {B : Nat} {a w : World} {n : Nat} (h : Below B a w) : Below B a (w.drewN n) := below_drewN h n
theorem balloc {B : Nat} {a w : World} {o : Obj} (hp : B ≤ w.heap.size) (h : Below B a w) : Below B a (w.alloc o) := h.alloc hp o
theorem bcell {W w1 : World} (hb : Below W.heap.size W w1) : (∀ b o, b < W.heap.size → w1.cell? ⟨b, o, none⟩ = W.cell? ⟨b, o, none⟩) ∧ (∀ b o, b < W.heap.size → w1.frozen? ⟨b, o, none⟩ = W.frozen? ⟨b, o, none⟩) :=
  ⟨fun b o h => hb.cell (p := ⟨b, o, none⟩) h, fun b o h => hb.frozen (p := ⟨b, o, none⟩) h⟩

/-- the slice value '.slice A n c' reads as the cells xs, and lies below block B; nil is let in -/
def Rd (w : World) (B : Nat) (A : Option Addr) (n : Nat) (xs : List Value) : Prop :=
  xs.length = n ∧ (0 < n → ∃ b o, A = some ⟨b, o, none⟩ ∧ b < B ∧ ∀ j u, xs[j]? = some u → w.cell? ⟨b, o + j, none⟩ = some u)
theorem Rd.nil_ {w : World} {B : Nat} {A : Option Addr} : Rd w B A 0 [] := ⟨rfl, fun h => absurd h (by omega)⟩
theorem Rd.at_ {w : World} {B n k : Nat} {A : Option Addr} {xs : List Value} (h : Rd w B A n xs) (hk : k < n) :
    ∃ b o u, A = some ⟨b, o, none⟩ ∧ b < B ∧ xs[k]? = some u ∧ w.cell? ⟨b, o + k, none⟩ = some u := by
  obtain ⟨b, o, e, hb, hc⟩ := h.2 (by omega)
  have hl : k < xs.length := by have := h.1; omega
  exact ⟨b, o, xs[k], e, hb, List.getElem?_eq_getElem hl, hc k _ (List.getElem?_eq_getElem hl)⟩
theorem Rd.keep {w w' : World} {B n : Nat} {A : Option Addr} {xs : List Value} (h : Rd w B A n xs) (hk : ∀ p : Addr, p.block < B → w'.cell? p = w.cell? p) : Rd w' B A n xs :=
  ⟨h.1, fun hn => by
    obtain ⟨b, o, e, hb, hc⟩ := h.2 hn
    exact ⟨b, o, e, hb, fun j u hu => (hk _ hb).trans (hc j u hu)⟩⟩
theorem Rd.more {w : World} {B B' n : Nat} {A : Option Addr} {xs : List Value} (h : Rd w B A n xs) (hB : B ≤ B') : Rd w B' A n xs :=
  ⟨h.1, fun hn => by
    obtain ⟨b, o, e, hb, hc⟩ := h.2 hn
    exact ⟨b, o, e, by omega, hc⟩⟩
theorem Rd.below {w w' : World} {B n : Nat} {A : Option Addr} {xs : List Value} (h : Rd w B A n xs) (hb : Below B w w') : Rd w' B A n xs := h.keep fun _ hp => hb.cell hp
/-- a row of the call's own reads as its cells -/
theorem Rd.of_own {w : World} {base : Nat} {e : TypeId} {n : Nat} {v : Value} {xs : List Value} (h : w.ownsRow base e 1 v n xs) : ∃ A c, v = .slice A n c ∧ Rd w w.heap.size A n xs := by
  have h1 := h.1
  rcases h.2 with ⟨rfl, rfl⟩ | ⟨g, cap, cur, rfl, hg, hh, hnc, hrest⟩
  · obtain rfl : xs = [] := List.eq_nil_of_length_eq_zero (by simpa using h1)
    exact ⟨none, 0, rfl, Rd.nil_⟩
  · refine ⟨_, cap, rfl, by simpa using h1, fun hn => ⟨g, 0, rfl, ?_, ?_⟩⟩
    · exact (h.lt g rfl).2
    · intro j u hu
      have := h.cells (g := g) rfl j u hu
      unfold Addr.add at this
      by_cases hj : j = 0
      · subst hj; simpa using this
      · simpa [hj] using this
end Go.Proofs.Ytokafofckjookaa.kit
