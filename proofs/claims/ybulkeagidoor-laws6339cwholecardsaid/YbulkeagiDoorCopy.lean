/-
  'copy(dst, src)' WHERE AN ELEMENT TAKES SEVERAL CELLS (the kit's law asks one): into a row that the call made.
-/
import Derived.Laws.CopyOwn
namespace Go.Proofs.YbulkeagiDoor
open Go Go.RowKit

theorem run_copy_wide {P : Program} (w : World) (dT sT ty elem : TypeId) (g dLen dCap : Nat) (a : Addr) (sLen sCap size : Nat) (cur : Array Value) (t : TypeId) (cs : List Value)
    (hu : P.underlying dT = some (.slice elem)) (hs : (P.info? elem).map (·.size) = some size)
    (hg : w.heap[g]? = some (.cells cur t (0, 0))) (hn : cs.length = Nat.min sLen dLen * size)
    (hsrc : ∀ j v, cs[j]? = some v → w.cell? (a.add j) = some v) (hfit : cs.length ≤ cur.size) (h1 : ∀ v ∈ cs, v.oneCell' = true) :
    (Builtin.copy_ #[dT, sT] ty #[.slice (some ⟨g, 0, none⟩) dLen dCap, .slice (some a) sLen sCap]).run P w =
      .ok (goInt (Nat.min sLen dLen)) (w.setRow g (cs ++ cur.toList.drop cs.length).toArray) := by
  have hl := run_loadCells_list (P := P) w a cs hsrc
  have hst := run_storeCells_at P g 0 t cs 0 cur w hg (by simpa using hfit) h1
  cases hq : P.info? elem with
  | none => simp [hq] at hs
  | some i =>
    have hi : i.size = size := by simpa [hq] using hs
    simp [Builtin.copy_, run_underlying hu, Builtin.lenOf, Builtin.firstCells, sizeOf, typeInfo, hq, hi, ← hn, hl, hst]

theorem wpList_copy_wide {P : Program} {w : World} {ops : Array Oper} {rest : List Oper} {o : Oper} {a : Act} {Q : Exit → Act → World → Prop} (hgd : o.guard = none) (d s : Operand) (dT sT : TypeId)
    (ho : o.op = .call { callee := .builtin .copy, args := #[d, s], argTypes := #[dT, sT] }) (elem : TypeId) (size : Nat) (hu : P.underlying dT = some (.slice elem)) (hsz : (P.info? elem).map (·.size) = some size)
    (g dLen dCap : Nat) (ad : Addr) (sLen sCap : Nat) (hd : a.eval d = .slice (some ⟨g, 0, none⟩) dLen dCap) (hs : a.eval s = .slice (some ad) sLen sCap)
    (cur : Array Value) (t : TypeId) (hg : w.heap[g]? = some (.cells cur t (0, 0))) (cs : List Value) (hn : cs.length = Nat.min sLen dLen * size)
    (hsrc : ∀ j v, cs[j]? = some v → w.cell? (ad.add j) = some v) (hfit : cs.length = cur.size) (h1 : ∀ v ∈ cs, v.oneCell' = true) (B : Nat) (w0 : World) (hb : Below B w0 w) (hBg : B ≤ g)
    (h : ∀ w', Hid (w'.heap[g]? = some (.cells cs.toArray t (0, 0))) → w.grownBy w' (some g) → Below B w0 w' → wpList P ops Q rest (a.put o.dst (goInt (Nat.min sLen dLen))) w') : wpList P ops Q (o :: rest) a w := by
  refine wpList_plain hgd fun K hK => ?_
  have hrun := run_copy_wide (P := P) w dT sT o.type elem g dLen dCap ad sLen sCap size cur t cs hu hsz hg hn hsrc (by omega) h1
  have e : cs ++ cur.toList.drop cs.length = cs := by rw [List.drop_eq_nil_of_le (by simp; omega), List.append_nil]
  rw [e] at hrun
  unfold Oper.wp
  simp [execOp, ho, resolve, invoke, builtin, hd, hs, hrun, Result.andThen]
  refine hK _ _ (h _ (show _ = _ from setRow_heap w g _ _ t _ hg) ⟨rfl, rfl, rfl, by simp [World.setRow], fun k _ hk => setRow_other w g k _ (fun e => hk (by rw [e]))⟩ (below_setRow hb hBg _))

end Go.Proofs.YbulkeagiDoor
