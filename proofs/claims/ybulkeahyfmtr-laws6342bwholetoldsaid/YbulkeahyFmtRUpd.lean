/-
  WRITES, ONE BY ONE: 'Upd w w' wr': the world w' is w but for the cells that wr lists.
-/
import Derived.Test.YbulkeahyFmtRProg
import Derived.WalkKit
import Derived.WalkSpells
import Derived.WalkLawsBesides
namespace Go.Proofs.YbulkeahyFmtR
open Go.RowKit

/-- What a cell holds behind the writes (the last write first). -/
def behind (w : World) : List (Addr × Value) → Addr → Option Value
  | [], p => w.cell? p
  | (a, v) :: wr, p => if p = a then some v else behind w wr p

structure Upd (w w' : World) (wr : List (Addr × Value)) : Prop where
  os : w'.os = w.os
  tape : w'.tape = w.tape
  output : w'.output = w.output
  size : w'.heap.size = w.heap.size
  cell : ∀ p, w'.cell? p = behind w wr p
  frozen : ∀ p, w'.frozen? p = w.frozen? p
  block : ∀ k, (∀ x ∈ wr, x.1.block ≠ k) → w'.heap[k]? = w.heap[k]?

theorem Upd.refl (w : World) : Upd w w [] := ⟨rfl, rfl, rfl, rfl, fun _ => rfl, fun _ => rfl, fun _ _ => rfl⟩
theorem behind_append (w w1 : World) (wr1 wr2 : List (Addr × Value)) (h : ∀ p, w1.cell? p = behind w wr1 p) (p : Addr) : behind w1 wr2 p = behind w (wr2 ++ wr1) p := by
  induction wr2 with
  | nil => exact h p
  | cons x wr2 ih =>
    obtain ⟨a, v⟩ := x
    show (if p = a then some v else behind w1 wr2 p) = if p = a then some v else behind w (wr2 ++ wr1) p
    rw [ih]
theorem Upd.trans {w w1 w2 : World} {wr1 wr2 : List (Addr × Value)} (h : Upd w w1 wr1) (k : Upd w1 w2 wr2) : Upd w w2 (wr2 ++ wr1) :=
  ⟨k.os.trans h.os, k.tape.trans h.tape, k.output.trans h.output, k.size.trans h.size, fun p => (k.cell p).trans (behind_append w w1 wr1 wr2 h.cell p), fun p => (k.frozen p).trans (h.frozen p),
    fun b hb => (k.block b fun x hx => hb x (List.mem_append_left _ hx)).trans (h.block b fun x hx => hb x (List.mem_append_right _ hx))⟩
theorem Upd.drewN {w w' : World} {wr : List (Addr × Value)} (h : Upd w w' wr) (n : Nat) : Upd w (w'.drewN n) wr := ⟨h.os, h.tape, h.output, h.size, h.cell, h.frozen, h.block⟩
theorem Upd.drew {w w' : World} {wr : List (Addr × Value)} (h : Upd w w' wr) : Upd w w'.drew wr := ⟨h.os, h.tape, h.output, h.size, h.cell, h.frozen, h.block⟩

theorem cell_set (w : World) (b o : Nat) (v u : Value) (h : w.cell? ⟨b, o, none⟩ = some u) (p : Addr) : (w.setCell ⟨b, o, none⟩ v).cell? p = if p = ⟨b, o, none⟩ then some v else w.cell? p := by
  by_cases hp : p = ⟨b, o, none⟩
  · subst hp
    rw [if_pos rfl]
    exact World.cell?_setCell_same w _ v h
  · rw [if_neg hp]
    exact World.cell?_setCell_other w ⟨b, o, none⟩ p v (fun e => hp e.symm)
theorem upd_set (w : World) (b o : Nat) (v u : Value) (h : w.cell? ⟨b, o, none⟩ = some u) : Upd w (w.setCell ⟨b, o, none⟩ v) [(⟨b, o, none⟩, v)] :=
  ⟨rfl, rfl, rfl, by simp, fun p => cell_set w b o v u h p, fun p => by simp, fun k hk => Below.heap_setCell _ _ _ _ (fun e => hk _ (List.mem_singleton.2 rfl) e.symm)⟩
theorem Upd.set {w w' : World} {wr : List (Addr × Value)} (h : Upd w w' wr) (b o : Nat) (v u : Value) (hc : w'.cell? ⟨b, o, none⟩ = some u) : Upd w (w'.setCell ⟨b, o, none⟩ v) ((⟨b, o, none⟩, v) :: wr) :=
  h.trans (upd_set w' b o v u hc)
theorem Upd.below {w w' : World} {wr : List (Addr × Value)} {B : Nat} (h : Upd w w' wr) (hb : ∀ x ∈ wr, B ≤ x.1.block) : Below B w w' :=
  ⟨h.os, h.tape, h.output, by rw [h.size]; exact Nat.le_refl _, fun k hk => h.block k fun x hx e => by have := hb x hx; omega⟩

/-- A pointer to a node, or nil. -/
def pv : Option (Nat × Nat) → Value
  | none => .pointer none
  | some (b, o) => .pointer (some ⟨b, o, none⟩)

end Go.Proofs.YbulkeahyFmtR
