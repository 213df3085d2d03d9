/-
  THE WALKS OF link AND unlink: two stores each into neighbours or ends.
-/
import Derived.Test.YbulkeahyFmtRUpd
import Derived.Deep.QuietTactic
import Derived.BigQuiet
import Derived.BigRegion
import Derived.RegionTactic
namespace Go.Proofs.YbulkeahyFmtR
open Go.RowKit

/-- Where the newer link of the elder neighbour lies (or the table's oldest). -/
def elder (tb : Nat) : Option (Nat × Nat) → Addr
  | none => ⟨tb, 2, none⟩
  | some (b, o) => ⟨b, o + 4, none⟩
/-- Where the older link of the younger neighbour lies (or the table's newest). -/
def younger (tb : Nat) : Option (Nat × Nat) → Addr
  | none => ⟨tb, 3, none⟩
  | some (b, o) => ⟨b, o + 3, none⟩

/-- A cell that may be written. -/
def Open (w : World) (a : Addr) : Prop := (∃ v, w.cell? a = some v) ∧ w.frozen? a = false

theorem unlink_some_some (tb eb eo pb po qb qo : Nat) (w : World) (v1 v2 : Value)
    (h3 : w.cell? ⟨eb, eo + 3, none⟩ = some (.pointer (some ⟨pb, po, none⟩))) (h4 : w.cell? ⟨eb, eo + 4, none⟩ = some (.pointer (some ⟨qb, qo, none⟩)))
    (c1 : w.cell? ⟨pb, po + 4, none⟩ = some v1) (f1 : w.frozen? ⟨pb, po + 4, none⟩ = false)
    (c2 : w.cell? ⟨qb, qo + 3, none⟩ = some v2) (f2 : w.frozen? ⟨qb, qo + 3, none⟩ = false)
    (n1 : (⟨pb, po + 4, none⟩ : Addr) ≠ ⟨eb, eo + 3, none⟩) (n2 : (⟨pb, po + 4, none⟩ : Addr) ≠ ⟨eb, eo + 4, none⟩) (n3 : (⟨pb, po + 4, none⟩ : Addr) ≠ ⟨qb, qo + 3, none⟩) :
    Calls Ybaf.prog 16 #[.pointer (some ⟨tb, 0, none⟩), .pointer (some ⟨eb, eo, none⟩)] w fun x w' =>
      x = .returned (.tuple #[]) ∧ Upd w w' [(⟨qb, qo + 3, none⟩, .pointer (some ⟨pb, po, none⟩)), (⟨pb, po + 4, none⟩, .pointer (some ⟨qb, qo, none⟩))] := by
  go_enter Ybaf.func16, Ybaf.ntmps16
  go_wp2
  go_region
  have U := (upd_set w _ _ (.pointer (some ⟨qb, qo, none⟩)) v1 c1).drew
  have d3 : _ = _ := (World.cell?_setCell_other w ⟨pb, po + 4, none⟩ ⟨eb, eo + 3, none⟩ (.pointer (some ⟨qb, qo, none⟩)) n1).trans h3
  have d4 : _ = _ := (World.cell?_setCell_other w ⟨pb, po + 4, none⟩ ⟨eb, eo + 4, none⟩ (.pointer (some ⟨qb, qo, none⟩)) n2).trans h4
  have d5 : _ = _ := (World.cell?_setCell_other w ⟨pb, po + 4, none⟩ ⟨qb, qo + 3, none⟩ (.pointer (some ⟨qb, qo, none⟩)) n3).trans c2
  have d6 : (w.setCell ⟨pb, po + 4, none⟩ (.pointer (some ⟨qb, qo, none⟩))).drew.frozen? ⟨qb, qo + 3, none⟩ = false := by simpa using f2
  generalize hW : (w.setCell ⟨pb, po + 4, none⟩ (.pointer (some ⟨qb, qo, none⟩))).drew = W at *
  replace d3 : W.cell? ⟨eb, eo + 3, none⟩ = some (.pointer (some ⟨pb, po, none⟩)) := by rw [← hW]; exact d3
  replace d4 : W.cell? ⟨eb, eo + 4, none⟩ = some (.pointer (some ⟨qb, qo, none⟩)) := by rw [← hW]; exact d4
  replace d5 : W.cell? ⟨qb, qo + 3, none⟩ = some v2 := by rw [← hW]; exact d5
  clear h3 h4 c1 f1 c2 f2 n1 n2 n3 hW
  go_wp2
  go_region
  go_end0
  exact ⟨rfl, (U.set _ _ _ _ d5).drew⟩

theorem unlink_some_none (tb eb eo pb po : Nat) (w : World) (v1 v2 : Value)
    (h3 : w.cell? ⟨eb, eo + 3, none⟩ = some (.pointer (some ⟨pb, po, none⟩))) (h4 : w.cell? ⟨eb, eo + 4, none⟩ = some (.pointer none))
    (c1 : w.cell? ⟨pb, po + 4, none⟩ = some v1) (f1 : w.frozen? ⟨pb, po + 4, none⟩ = false)
    (c2 : w.cell? ⟨tb, 3, none⟩ = some v2) (f2 : w.frozen? ⟨tb, 3, none⟩ = false)
    (n1 : (⟨pb, po + 4, none⟩ : Addr) ≠ ⟨eb, eo + 3, none⟩) (n2 : (⟨pb, po + 4, none⟩ : Addr) ≠ ⟨eb, eo + 4, none⟩) (n3 : (⟨pb, po + 4, none⟩ : Addr) ≠ ⟨tb, 3, none⟩) :
    Calls Ybaf.prog 16 #[.pointer (some ⟨tb, 0, none⟩), .pointer (some ⟨eb, eo, none⟩)] w fun x w' =>
      x = .returned (.tuple #[]) ∧ Upd w w' [(⟨tb, 3, none⟩, .pointer (some ⟨pb, po, none⟩)), (⟨pb, po + 4, none⟩, .pointer none)] := by
  go_enter Ybaf.func16, Ybaf.ntmps16
  go_wp2
  go_region
  have U := (upd_set w _ _ (.pointer none) v1 c1).drew
  have d3 : _ = _ := (World.cell?_setCell_other w ⟨pb, po + 4, none⟩ ⟨eb, eo + 3, none⟩ (.pointer none) n1).trans h3
  have d4 : _ = _ := (World.cell?_setCell_other w ⟨pb, po + 4, none⟩ ⟨eb, eo + 4, none⟩ (.pointer none) n2).trans h4
  have d5 : _ = _ := (World.cell?_setCell_other w ⟨pb, po + 4, none⟩ ⟨tb, 3, none⟩ (.pointer none) n3).trans c2
  have d6 : (w.setCell ⟨pb, po + 4, none⟩ (.pointer none)).drew.frozen? ⟨tb, 3, none⟩ = false := by simpa using f2
  generalize hW : (w.setCell ⟨pb, po + 4, none⟩ (.pointer none)).drew = W at *
  replace d3 : W.cell? ⟨eb, eo + 3, none⟩ = some (.pointer (some ⟨pb, po, none⟩)) := by rw [← hW]; exact d3
  replace d4 : W.cell? ⟨eb, eo + 4, none⟩ = some (.pointer none) := by rw [← hW]; exact d4
  replace d5 : W.cell? ⟨tb, 3, none⟩ = some v2 := by rw [← hW]; exact d5
  clear h3 h4 c1 f1 c2 f2 n1 n2 n3 hW
  go_wp2
  go_end0
  exact ⟨rfl, U.set _ _ _ _ d5⟩

theorem unlink_none_some (tb eb eo qb qo : Nat) (w : World) (v1 v2 : Value)
    (h3 : w.cell? ⟨eb, eo + 3, none⟩ = some (.pointer none)) (h4 : w.cell? ⟨eb, eo + 4, none⟩ = some (.pointer (some ⟨qb, qo, none⟩)))
    (c1 : w.cell? ⟨tb, 2, none⟩ = some v1) (f1 : w.frozen? ⟨tb, 2, none⟩ = false)
    (c2 : w.cell? ⟨qb, qo + 3, none⟩ = some v2) (f2 : w.frozen? ⟨qb, qo + 3, none⟩ = false)
    (n1 : (⟨tb, 2, none⟩ : Addr) ≠ ⟨eb, eo + 3, none⟩) (n2 : (⟨tb, 2, none⟩ : Addr) ≠ ⟨eb, eo + 4, none⟩) (n3 : (⟨tb, 2, none⟩ : Addr) ≠ ⟨qb, qo + 3, none⟩) :
    Calls Ybaf.prog 16 #[.pointer (some ⟨tb, 0, none⟩), .pointer (some ⟨eb, eo, none⟩)] w fun x w' =>
      x = .returned (.tuple #[]) ∧ Upd w w' [(⟨qb, qo + 3, none⟩, .pointer none), (⟨tb, 2, none⟩, .pointer (some ⟨qb, qo, none⟩))] := by
  go_enter Ybaf.func16, Ybaf.ntmps16
  have n1' : eb ≠ tb ∨ eo + 3 ≠ 2 := by by_cases e : eb = tb; exact .inr fun k => n1 (by rw [e, k]); exact .inl e
  go_wp2
  have U := (upd_set w _ _ (.pointer (some ⟨qb, qo, none⟩)) v1 c1)
  have d3 : _ = _ := (World.cell?_setCell_other w ⟨tb, 2, none⟩ ⟨eb, eo + 3, none⟩ (.pointer (some ⟨qb, qo, none⟩)) n1).trans h3
  have d4 : _ = _ := (World.cell?_setCell_other w ⟨tb, 2, none⟩ ⟨eb, eo + 4, none⟩ (.pointer (some ⟨qb, qo, none⟩)) n2).trans h4
  have d5 : _ = _ := (World.cell?_setCell_other w ⟨tb, 2, none⟩ ⟨qb, qo + 3, none⟩ (.pointer (some ⟨qb, qo, none⟩)) n3).trans c2
  have d6 : (w.setCell ⟨tb, 2, none⟩ (.pointer (some ⟨qb, qo, none⟩))).frozen? ⟨qb, qo + 3, none⟩ = false := by simpa using f2
  generalize hW : (w.setCell ⟨tb, 2, none⟩ (.pointer (some ⟨qb, qo, none⟩))) = W at *
  clear h3 h4 c1 f1 c2 f2 n1 n2 n3 hW
  go_region
  go_end0
  exact ⟨rfl, (U.set _ _ _ _ d5).drew⟩

theorem unlink_none_none (tb eb eo : Nat) (w : World) (v1 v2 : Value)
    (h3 : w.cell? ⟨eb, eo + 3, none⟩ = some (.pointer none)) (h4 : w.cell? ⟨eb, eo + 4, none⟩ = some (.pointer none))
    (c1 : w.cell? ⟨tb, 2, none⟩ = some v1) (f1 : w.frozen? ⟨tb, 2, none⟩ = false)
    (c2 : w.cell? ⟨tb, 3, none⟩ = some v2) (f2 : w.frozen? ⟨tb, 3, none⟩ = false)
    (n1 : (⟨tb, 2, none⟩ : Addr) ≠ ⟨eb, eo + 3, none⟩) (_n2 : (⟨tb, 2, none⟩ : Addr) ≠ ⟨eb, eo + 4, none⟩) (n3 : (⟨tb, 2, none⟩ : Addr) ≠ ⟨tb, 3, none⟩) :
    Calls Ybaf.prog 16 #[.pointer (some ⟨tb, 0, none⟩), .pointer (some ⟨eb, eo, none⟩)] w fun x w' =>
      x = .returned (.tuple #[]) ∧ Upd w w' [(⟨tb, 3, none⟩, .pointer none), (⟨tb, 2, none⟩, .pointer none)] := by
  go_enter Ybaf.func16, Ybaf.ntmps16
  have n1' : eb ≠ tb ∨ eo + 3 ≠ 2 := by by_cases e : eb = tb; exact .inr fun k => n1 (by rw [e, k]); exact .inl e
  go_wp2
  go_end0
  exact ⟨rfl, (upd_set w _ _ _ _ c1).set _ _ _ _ ((World.cell?_setCell_other w ⟨tb, 2, none⟩ ⟨tb, 3, none⟩ _ n3).trans c2)⟩

theorem link_none (tb eb eo : Nat) (w : World) (u0 u1 u2 : Value)
    (t3 : w.cell? ⟨tb, 3, none⟩ = some (.pointer none)) (g3 : w.frozen? ⟨tb, 3, none⟩ = false)
    (t2 : w.cell? ⟨tb, 2, none⟩ = some u0) (g2 : w.frozen? ⟨tb, 2, none⟩ = false)
    (c1 : w.cell? ⟨eb, eo + 3, none⟩ = some u1) (f1 : w.frozen? ⟨eb, eo + 3, none⟩ = false)
    (c2 : w.cell? ⟨eb, eo + 4, none⟩ = some u2) (f2 : w.frozen? ⟨eb, eo + 4, none⟩ = false) (ne : eb ≠ tb) :
    Calls Ybaf.prog 14 #[.pointer (some ⟨tb, 0, none⟩), .pointer (some ⟨eb, eo, none⟩)] w fun x w' =>
      x = .returned (.tuple #[]) ∧ Upd w w' [(⟨tb, 3, none⟩, .pointer (some ⟨eb, eo, none⟩)), (⟨tb, 2, none⟩, .pointer (some ⟨eb, eo, none⟩)), (⟨eb, eo + 4, none⟩, .pointer none), (⟨eb, eo + 3, none⟩, .pointer none)] := by
  go_enter Ybaf.func14, Ybaf.ntmps14
  go_wp2
  go_end0
  have U1 := upd_set w eb (eo + 3) (.pointer none) u1 c1
  have U2 := U1.set eb (eo + 4) (.pointer none) u2 (by rw [U1.cell]; simp [behind, c2])
  have U3 := U2.set tb 2 (.pointer (some ⟨eb, eo, none⟩)) u0 (by rw [U2.cell]; simp [behind, t2])
  exact ⟨rfl, U3.set tb 3 (.pointer (some ⟨eb, eo, none⟩)) (.pointer none) (by rw [U3.cell]; simp [behind, t3])⟩

theorem link_some (tb eb eo pb po : Nat) (w : World) (u0 u1 u2 : Value)
    (t3 : w.cell? ⟨tb, 3, none⟩ = some (.pointer (some ⟨pb, po, none⟩))) (g3 : w.frozen? ⟨tb, 3, none⟩ = false)
    (t2 : w.cell? ⟨pb, po + 4, none⟩ = some u0) (g2 : w.frozen? ⟨pb, po + 4, none⟩ = false)
    (c1 : w.cell? ⟨eb, eo + 3, none⟩ = some u1) (f1 : w.frozen? ⟨eb, eo + 3, none⟩ = false)
    (c2 : w.cell? ⟨eb, eo + 4, none⟩ = some u2) (f2 : w.frozen? ⟨eb, eo + 4, none⟩ = false) (ne : eb ≠ tb) (nt : pb ≠ tb)
    (n3 : (⟨pb, po + 4, none⟩ : Addr) ≠ ⟨eb, eo + 3, none⟩) (n4 : (⟨pb, po + 4, none⟩ : Addr) ≠ ⟨eb, eo + 4, none⟩) :
    Calls Ybaf.prog 14 #[.pointer (some ⟨tb, 0, none⟩), .pointer (some ⟨eb, eo, none⟩)] w fun x w' =>
      x = .returned (.tuple #[]) ∧ Upd w w' [(⟨tb, 3, none⟩, .pointer (some ⟨eb, eo, none⟩)), (⟨pb, po + 4, none⟩, .pointer (some ⟨eb, eo, none⟩)), (⟨eb, eo + 4, none⟩, .pointer none), (⟨eb, eo + 3, none⟩, .pointer (some ⟨pb, po, none⟩))] := by
  go_enter Ybaf.func14, Ybaf.ntmps14
  have U1 := upd_set w eb (eo + 3) (.pointer (some ⟨pb, po, none⟩)) u1 c1
  have U2 := U1.set eb (eo + 4) (.pointer none) u2 (by rw [U1.cell]; simp [behind, c2])
  have k0 := (U2.cell ⟨pb, po + 4, none⟩).trans (show _ = some u0 by simp only [behind]; rw [if_neg n4, if_neg n3]; exact t2)
  have U3 := U2.set pb (po + 4) (.pointer (some ⟨eb, eo, none⟩)) u0 k0
  have k1 := (U2.cell ⟨tb, 3, none⟩).trans (show _ = some (.pointer (some ⟨pb, po, none⟩)) by simp [behind, t3])
  have k2 := (U3.cell ⟨tb, 3, none⟩).trans (show _ = some (.pointer (some ⟨pb, po, none⟩)) by simp [behind, t3])
  have U4 := U3.set tb 3 (.pointer (some ⟨eb, eo, none⟩)) (.pointer (some ⟨pb, po, none⟩)) k2
  clear U1 U2 U3 k2
  go_wp2
  go_end0
  exact ⟨rfl, U4⟩

end Go.Proofs.YbulkeahyFmtR
