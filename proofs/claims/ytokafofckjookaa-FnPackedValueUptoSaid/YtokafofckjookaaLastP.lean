/- A row of pairs of the call's own; copy in such a row. -/
import Derived.Test.YtokafofckjookaaPacked
import Derived.Laws.CopyOwn
import Derived.Maps.AppendAt
namespace Go.Proofs.Ytokafofckjookaa.pk
open Go.RowKit
open kit bld

/-- the cells of pairs -/
def pcells (o : List (List UInt8 × List UInt8)) : List Value := o.flatMap fun p => [.string ⟨p.1.toArray⟩, .string ⟨p.2.toArray⟩]
theorem pcells_nil : pcells [] = [] := rfl
theorem pcells_cons (p : List UInt8 × List UInt8) (o : List (List UInt8 × List UInt8)) : pcells (p :: o) = .string ⟨p.1.toArray⟩ :: .string ⟨p.2.toArray⟩ :: pcells o := rfl
theorem pcells_append (a b : List (List UInt8 × List UInt8)) : pcells (a ++ b) = pcells a ++ pcells b := by simp [pcells]
theorem pcells_len (o : List (List UInt8 × List UInt8)) : (pcells o).length = o.length * 2 := by
  induction o with
  | nil => rfl
  | cons p o ih => rw [pcells_cons, List.length_cons, List.length_cons, ih, List.length_cons]; omega
theorem pcells_at : ∀ (o : List (List UInt8 × List UInt8)) (i : Nat) (p : List UInt8 × List UInt8), o[i]? = some p → (pcells o)[i * 2]? = some (.string ⟨p.1.toArray⟩) ∧ (pcells o)[i * 2 + 1]? = some (.string ⟨p.2.toArray⟩)
  | [], i, p, h => by simp at h
  | a :: o, 0, p, h => by simp at h; subst h; exact ⟨rfl, rfl⟩
  | a :: o, i + 1, p, h => by
    have := pcells_at o i p (by simpa using h)
    rw [pcells_cons, show (i + 1) * 2 = i * 2 + 1 + 1 from by omega]
    simpa using this
theorem pcells_one (o : List (List UInt8 × List UInt8)) : ∀ u ∈ pcells o, u.oneCell' = true := by
  intro u hu
  simp only [pcells, List.mem_flatMap] at hu
  obtain ⟨p, _, hu⟩ := hu
  simp at hu
  rcases hu with rfl | rfl <;> rfl
theorem infoPair : (Try.prog.info? 25).map (fun i => (i.zero, i.size, i.bytes)) = some (some (.agg #[.string ⟨#[]⟩, .string ⟨#[]⟩]), 2, 32) := by kernel_rfl
theorem infoAttr : (Try.prog.info? 36).map (fun i => (i.zero, i.size, i.bytes)) = some (some (.agg #[.string ⟨#[]⟩, .string ⟨#[]⟩]), 2, 32) := by kernel_rfl
theorem own_cell {w : World} {base : Nat} {e : TypeId} {size n g cap : Nat} {xs : List Value} (h : w.ownsRow base e size (.slice (some ⟨g, 0, none⟩) n cap) n xs) (j : Nat) (u : Value) (hu : xs[j]? = some u) : w.cell? ⟨g, j, none⟩ = some u := by
  have := h.cells (g := g) rfl j u hu
  unfold Addr.add at this
  by_cases hj : j = 0
  · subst hj; simpa using this
  · simpa [hj] using this
theorem Rp.of_own {w : World} {base : Nat} {e : TypeId} {v : Value} {o : List (List UInt8 × List UInt8)} (h : w.ownsRow base e 2 v o.length (pcells o)) : ∃ A c, v = .slice A o.length c ∧ Rp w w.heap.size A o := by
  rcases h.2 with ⟨rfl, q⟩ | ⟨g, cap, cur, rfl, hg, _⟩
  · exact ⟨none, 0, by rw [q], fun hn => by omega⟩
  · refine ⟨_, cap, rfl, fun _ => ⟨g, 0, rfl, (h.lt g rfl).2, fun i p hp => ?_⟩⟩
    have := pcells_at o i p hp
    rw [Nat.zero_add]
    exact ⟨own_cell h _ _ this.1, own_cell h _ _ this.2⟩

theorem run_copy_row2 {P : Program} (w : World) (dT sT ty elem : TypeId) (g o dLen dCap : Nat) (a : Addr) (sLen sCap : Nat) (cur : Array Value) (t : TypeId) (cs : List Value) (m : Nat)
    (hu : P.underlying dT = some (.slice elem)) (hs : (P.info? elem).map (·.size) = some 2)
    (hg : w.heap[g]? = some (.cells cur t (0, 0))) (hm : m = Nat.min sLen dLen) (hn : cs.length = m * 2)
    (hsrc : ∀ (j : Nat) (v : Value), cs[j]? = some v → w.cell? (a.add j) = some v) (hfit : o + cs.length ≤ cur.size) (h1 : ∀ v ∈ cs, v.oneCell' = true) :
    (Builtin.copy_ #[dT, sT] ty #[.slice (some ⟨g, o, none⟩) dLen dCap, .slice (some a) sLen sCap]).run P w =
      .ok (goInt m) (w.setRow g (cur.toList.take o ++ cs ++ cur.toList.drop (o + cs.length)).toArray) := by
  have hl := run_loadCells_list (P := P) w a cs hsrc
  have hst := run_storeCells_at P g o t cs 0 cur w hg (by simpa using hfit) h1
  cases hq : P.info? elem with
  | none => simp [hq] at hs
  | some i =>
    have hi : i.size = 2 := by simpa [hq] using hs
    rw [hn] at hl
    simp [Builtin.copy_, run_underlying hu, Builtin.lenOf, Builtin.firstCells, sizeOf, typeInfo, hq, hi, ← hm, hl, hst]
theorem run_copy_none2 {P : Program} (w : World) (dT sT ty elem : TypeId) (d a : Option Addr) (dLen dCap sLen sCap : Nat) (hu : P.underlying dT = some (.slice elem)) (hs : (P.info? elem).map (·.size) = some 2) (hn : Nat.min sLen dLen = 0) :
    (Builtin.copy_ #[dT, sT] ty #[.slice d dLen dCap, .slice a sLen sCap]).run P w = .ok (goInt 0) w := by
  cases hq : P.info? elem with
  | none => simp [hq] at hs
  | some i =>
    have hl : ∀ (x : Addr), (loadCells x 0).run P w = .ok #[] w := fun x => by simpa using run_loadCells_list (P := P) w x [] (by simp)
    cases d <;> cases a <;> simp [Builtin.copy_, run_underlying hu, Builtin.lenOf, Builtin.firstCells, sizeOf, typeInfo, hq, hn, storeCells, hl]
theorem grown_setRow {g : Nat} (w : World) (cs : Array Value) : w.grownBy (w.setRow g cs) (some g) :=
  ⟨rfl, rfl, rfl, by simp [World.setRow], fun k _ hk => setRow_other w g k cs (fun e => hk (by rw [e]))⟩
theorem wpList_copy2 {P : Program} {w : World} {ops : Array Oper} {rest : List Oper} {o : Oper} {a : Act} {Q : Exit → Act → World → Prop} (hgd : o.guard = none) (d s : Operand) (dT sT : TypeId)
    (ho : o.op = .call { callee := .builtin .copy, args := #[d, s], argTypes := #[dT, sT] }) (elem : TypeId) (hu : P.underlying dT = some (.slice elem)) (hsz : (P.info? elem).map (·.size) = some 2)
    (dp sp : Option Addr) (dLen dCap sLen sCap : Nat) (hd : a.eval d = .slice dp dLen dCap) (hs : a.eval s = .slice sp sLen sCap)
    (g off : Nat) (cur : List Value) (t : TypeId) (hg : w.heap[g]? = some (.cells cur.toArray t (0, 0))) (m : Nat) (cs : List Value) (hm : m = Nat.min sLen dLen) (hn : cs.length = m * 2)
    (hpos : 0 < m → dp = some ⟨g, off, none⟩ ∧ ∃ ad, sp = some ad ∧ ∀ (j : Nat) (v : Value), cs[j]? = some v → w.cell? (ad.add j) = some v)
    (hfit : off + cs.length ≤ cur.length) (h1 : ∀ v ∈ cs, v.oneCell' = true)
    (h : ∀ w', Hid (w'.heap[g]? = some (.cells (splice cur off cs).toArray t (0, 0))) → w.grownBy w' (some g) → wpList P ops Q rest (a.put o.dst (goInt m)) w') :
    wpList P ops Q (o :: rest) a w := by
  refine wpList_plain hgd fun K hK => ?_
  by_cases h0 : m = 0
  · subst h0
    obtain rfl : cs = [] := List.eq_nil_of_length_eq_zero (by omega)
    have hrun := run_copy_none2 (P := P) w dT sT o.type elem dp sp dLen dCap sLen sCap hu hsz hm.symm
    unfold Oper.wp
    simp [execOp, ho, resolve, invoke, builtin, hd, hs, hrun, Result.andThen]
    exact hK _ _ (h w (show _ = _ by simpa [splice] using hg) ⟨rfl, rfl, rfl, Nat.le_refl _, fun _ _ _ => rfl⟩)
  · obtain ⟨rfl, ad, rfl, hsrc⟩ := hpos (by omega)
    have hrun := run_copy_row2 (P := P) w dT sT o.type elem g off dLen dCap ad sLen sCap cur.toArray t cs m hu hsz hg hm hn hsrc (by simpa using hfit) h1
    unfold Oper.wp
    simp [execOp, ho, resolve, invoke, builtin, hd, hs, hrun, Result.andThen]
    refine hK _ _ (h _ (show _ = _ by simpa [splice] using setRow_heap w g _ _ t _ hg) ?_)
    simpa using grown_setRow w _

/-- the row behind the copy and the store -/
theorem splice_put (a b : List (List UInt8 × List UInt8)) (z0 z1 : Value) (sp : List Value) : ∃ x0 x1, splice (pcells (a ++ b) ++ z0 :: z1 :: sp) (a.length * 2 + 2) (pcells b) = pcells a ++ x0 :: x1 :: (pcells b ++ sp) := by
  have hla := pcells_len a
  have hlb := pcells_len b
  unfold splice
  rw [pcells_append]
  cases b with
  | nil =>
    refine ⟨z0, z1, ?_⟩
    simp only [pcells_nil, List.append_nil, List.nil_append, List.length_nil, Nat.add_zero]
    rw [List.take_append_drop]
  | cons q b =>
    refine ⟨.string ⟨q.1.toArray⟩, .string ⟨q.2.toArray⟩, ?_⟩
    have hb2 := pcells_len b
    rw [pcells_cons]
    have e1 : (pcells a ++ Value.string ⟨q.1.toArray⟩ :: Value.string ⟨q.2.toArray⟩ :: pcells b ++ z0 :: z1 :: sp) = (pcells a ++ [Value.string ⟨q.1.toArray⟩, Value.string ⟨q.2.toArray⟩]) ++ (pcells b ++ z0 :: z1 :: sp) := by simp
    rw [e1, List.take_left' (by simp; omega), List.drop_append]
    have e2 : ((pcells a ++ [Value.string ⟨q.1.toArray⟩, Value.string ⟨q.2.toArray⟩]).drop (a.length * 2 + 2 + (Value.string ⟨q.1.toArray⟩ :: Value.string ⟨q.2.toArray⟩ :: pcells b).length)) = [] := List.drop_of_length_le (by simp; omega)
    have e3 : a.length * 2 + 2 + (Value.string ⟨q.1.toArray⟩ :: Value.string ⟨q.2.toArray⟩ :: pcells b).length - (pcells a ++ [Value.string ⟨q.1.toArray⟩, Value.string ⟨q.2.toArray⟩]).length = (pcells b ++ [z0, z1]).length := by simp; omega
    rw [e2, e3, List.nil_append]
    have e4 : pcells b ++ z0 :: z1 :: sp = (pcells b ++ [z0, z1]) ++ sp := by simp
    rw [e4, List.drop_left]
    simp
theorem set_pair (A sp : List Value) (x0 x1 y0 y1 : Value) : ((A ++ x0 :: x1 :: sp).set A.length y0).set (A.length + 1) y1 = A ++ y0 :: y1 :: sp := by
  rw [List.set_append_right _ _ (Nat.le_refl _), List.set_append_right _ _ (by omega)]
  simp
end Go.Proofs.Ytokafofckjookaa.pk
