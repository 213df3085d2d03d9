/-
  THE TABLE: the ends of the list, the limit, and the map from clients to entries.
-/
import Derived.Test.YbulkeahyFmtRSeg
import Derived.Maps.OwnSet
import Derived.StringKeys
namespace Go.Proofs.YbulkeahyFmtR
open Go.RowKit

def kl (c : ByteArray) : Lit := .string c.data.toList
theorem kl_inj {a b : ByteArray} (h : kl a = kl b) : a = b := by
  have h1 : a.data.toList = b.data.toList := by simpa [kl] using h
  have h2 : a.data = b.data := Array.toList_inj.1 h1
  cases a; cases b; simpa using h2
def Rp : Value → Option (DataW Addr × List MemPlace)
  | .pointer (some a) => some (.held a, [])
  | .pointer none => some (.nil, [])
  | _ => none
theorem keyed9 : Maps.Keyed Ybaf.prog 9 := Maps.string_keyed Ybaf.underlying9
theorem key9 {c : ByteArray} (h : c.size ≤ maxLen) : keyOf Ybaf.prog 9 (.string c) = some (kl c) := WideMaps.keyOf_string_mk Ybaf.underlying9 h

/-- The map holds the entries of L, each by its client. -/
structure MapIs (w : World) (mb : Nat) (L : List Nd) (D : DataW Addr) : Prop where
  own : w.ownsMap Ybaf.prog 9 Rp mb L.length D
  size : Maps.size D = L.length
  back : ∀ c, Maps.has D (kl c) = true → ∃ n ∈ L, n.c = c
  at_ : ∀ n ∈ L, Maps.has D (kl n.c) = true ∧ D.atKey (kl n.c) .nil = .held ⟨n.b, n.o, none⟩

theorem own_tight {w : World} {mb n : Nat} {D : DataW Addr} (h : w.ownsMap Ybaf.prog 9 Rp mb n D) : w.ownsMap Ybaf.prog 9 Rp mb (Maps.size D) D := by
  obtain ⟨es, clock, hb, F, _, rfl⟩ := h
  exact ⟨es, clock, hb, F, by simp [Maps.size, length_sorted], rfl⟩
theorem own_block {w w' : World} {mb n : Nat} {D : DataW Addr} (h : w.ownsMap Ybaf.prog 9 Rp mb n D) (e : w'.heap[mb]? = w.heap[mb]?) : w'.ownsMap Ybaf.prog 9 Rp mb n D := by
  obtain ⟨es, clock, hb, r⟩ := h
  exact ⟨es, clock, e.trans hb, r⟩
theorem own_off {w : World} {mb n : Nat} {D : DataW Addr} (h : w.ownsMap Ybaf.prog 9 Rp mb n D) {b o : Nat} {v : Value} (c : w.cell? ⟨b, o, none⟩ = some v) : b ≠ mb := by
  rintro rfl
  obtain ⟨es, clock, hb, _⟩ := h
  simp [World.cell?, hb] at c
theorem MapIs.block {w w' : World} {mb : Nat} {L : List Nd} {D : DataW Addr} (h : MapIs w mb L D) (e : w'.heap[mb]? = w.heap[mb]?) : MapIs w' mb L D := ⟨own_block h.own e, h.size, h.back, h.at_⟩

theorem MapIs.store {w w' : World} {mb : Nat} {L : List Nd} {D : DataW Addr} {e : Nd} (h : MapIs w mb L D) (hne : ∀ n ∈ L, n.c ≠ e.c)
    (o : w'.ownsMap Ybaf.prog 9 Rp mb (L.length + 1) (D.put (kl e.c) (.held ⟨e.b, e.o, none⟩))) : MapIs w' mb (L ++ [e]) (D.put (kl e.c) (.held ⟨e.b, e.o, none⟩)) := by
  have T := h.own.tidy keyed9
  have nh : Maps.has D (kl e.c) = false := by
    cases hh : Maps.has D (kl e.c)
    · rfl
    · obtain ⟨n, hn, hc⟩ := h.back _ hh
      exact absurd hc (hne n hn)
  have kk : WideAt.IsKeyLit (kl e.c) := by trivial
  refine ⟨by simpa using o, ?_, ?_, ?_⟩
  · rw [Maps.size_put T]; simp [nh, h.size]
  · intro c hc
    by_cases hcc : c = e.c
    · exact ⟨e, by simp, hcc.symm⟩
    · rw [Maps.has_put_other (fun k => hcc (kl_inj k))] at hc
      obtain ⟨n, hn, hc⟩ := h.back _ hc
      exact ⟨n, by simp [hn], hc⟩
  · intro n hn
    rcases List.mem_append.1 hn with hn | hn
    · have k : kl n.c ≠ kl e.c := fun k => hne n hn (kl_inj k)
      rw [Maps.has_put_other k, Maps.atKey_put_other k]
      exact h.at_ n hn
    · obtain rfl : n = e := by simpa using hn
      exact ⟨Maps.has_put_same T.isMap kk _, Maps.atKey_put_same T.isMap kk _ _⟩
theorem MapIs.drop {w w' : World} {mb : Nat} {A C : List Nd} {D : DataW Addr} {e : Nd} {m : Nat} (h : MapIs w mb (A ++ e :: C) D) (hne : ∀ n ∈ A ++ C, n.c ≠ e.c)
    (o : w'.ownsMap Ybaf.prog 9 Rp mb m (D.del (kl e.c))) : MapIs w' mb (A ++ C) (D.del (kl e.c)) := by
  have T := h.own.tidy keyed9
  have sz : Maps.size (D.del (kl e.c)) = (A ++ C).length := by
    have := Maps.size_del (k := kl e.c) T
    rw [(h.at_ e (by simp)).1, h.size] at this
    simp at this ⊢
    omega
  refine ⟨by rw [← sz]; exact own_tight o, sz, ?_, ?_⟩
  · intro c hc
    by_cases hcc : c = e.c
    · subst hcc
      rw [Maps.has_del_same] at hc
      cases hc
    · rw [Maps.has_del_other (fun k => hcc (kl_inj k))] at hc
      obtain ⟨n, hn, rfl⟩ := h.back _ hc
      refine ⟨n, ?_, rfl⟩
      simp at hn ⊢
      rcases hn with hn | rfl | hn
      · exact .inl hn
      · exact absurd rfl hcc
      · exact .inr hn
  · intro n hn
    have k : kl n.c ≠ kl e.c := fun k => hne n hn (kl_inj k)
    rw [Maps.has_del_other k, Maps.atKey_del_other k]
    exact h.at_ n (by simp at hn ⊢; rcases hn with hn | hn; exact .inl hn; exact .inr (.inr hn))

structure Dat (w : World) (n : Nd) : Prop where
  c : w.cell? ⟨n.b, n.o, none⟩ = some (.string n.c)
  q : w.cell? ⟨n.b, n.o + 1, none⟩ = some (.int .u64 n.q)
  f : w.cell? ⟨n.b, n.o + 2, none⟩ = some (.int .u64 n.f)
  fz : ∀ j, j < 5 → w.frozen? ⟨n.b, n.o + j, none⟩ = false
  len : n.c.size ≤ maxLen

structure Tab (w : World) (tb mb : Nat) (lim : Int) (L : List Nd) : Prop where
  lim : w.cell? ⟨tb, 0, none⟩ = some (.int .u64 lim)
  byid : w.cell? ⟨tb, 1, none⟩ = some (.map (some mb))
  g2 : w.frozen? ⟨tb, 2, none⟩ = false
  g3 : w.frozen? ⟨tb, 3, none⟩ = false
  lnk : Lnk w tb L
  good : Good tb L
  dat : ∀ n ∈ L, Dat w n
  uniq : L.Pairwise (fun n m => n.c ≠ m.c)
  map : ∃ D, MapIs w mb L D

/-- What a method on the table leaves alone. -/
structure Fr (tb mb : Nat) (L : List Nd) (w w' : World) : Prop where
  os : w'.os = w.os
  tape : w'.tape = w.tape
  output : w'.output = w.output
  size : w.heap.size ≤ w'.heap.size
  block : ∀ k, k < w.heap.size → k ≠ tb → k ≠ mb → (∀ n ∈ L, n.b ≠ k) → w'.heap[k]? = w.heap[k]?
  cell : ∀ a, a.block < w.heap.size → a.block ≠ tb → a.block ≠ mb → (∀ n ∈ L, ∀ j, j < 5 → a ≠ ⟨n.b, n.o + j, none⟩) → w'.cell? a = w.cell? a
  frozen : ∀ a, a.block < w.heap.size → a.block ≠ mb → w'.frozen? a = w.frozen? a

theorem Fr.refl (tb mb : Nat) (L : List Nd) (w : World) : Fr tb mb L w w := ⟨rfl, rfl, rfl, Nat.le_refl _, fun _ _ _ _ _ => rfl, fun _ _ _ _ _ => rfl, fun _ _ _ => rfl⟩
theorem Fr.trans {tb mb : Nat} {L : List Nd} {w w1 w2 : World} (h : Fr tb mb L w w1) (k : Fr tb mb L w1 w2) : Fr tb mb L w w2 :=
  ⟨k.os.trans h.os, k.tape.trans h.tape, k.output.trans h.output, Nat.le_trans h.size k.size,
    fun b hb h1 h2 h3 => (k.block b (Nat.lt_of_lt_of_le hb h.size) h1 h2 h3).trans (h.block b hb h1 h2 h3),
    fun a hb h1 h2 h3 => (k.cell a (Nat.lt_of_lt_of_le hb h.size) h1 h2 h3).trans (h.cell a hb h1 h2 h3),
    fun a hb h1 => (k.frozen a (Nat.lt_of_lt_of_le hb h.size) h1).trans (h.frozen a hb h1)⟩
theorem Fr.mono {tb mb : Nat} {L L' : List Nd} {w w' : World} (h : Fr tb mb L w w') (hs : ∀ n ∈ L, ∃ m ∈ L', n.b = m.b ∧ n.o = m.o) : Fr tb mb L' w w' :=
  ⟨h.os, h.tape, h.output, h.size, fun k hk h1 h2 h3 => h.block k hk h1 h2 fun n hn => by obtain ⟨m, hm, e, _⟩ := hs n hn; rw [e]; exact h3 m hm,
    fun a hk h1 h2 h3 => h.cell a hk h1 h2 fun n hn j hj => by obtain ⟨m, hm, e, e'⟩ := hs n hn; rw [e, e']; exact h3 m hm j hj, h.frozen⟩
theorem Fr.of_upd {tb mb : Nat} {L : List Nd} {w w' : World} {wr : List (Addr × Value)} (U : Upd w w' wr) (h : ∀ x ∈ wr, x.1.block = tb ∨ ∃ n ∈ L, ∃ j, j < 5 ∧ x.1 = ⟨n.b, n.o + j, none⟩) : Fr tb mb L w w' :=
  ⟨U.os, U.tape, U.output, Nat.le_of_eq U.size.symm,
    fun k _ h1 _ h3 => U.block k fun x hx e => by
      rcases h x hx with hx | ⟨n, hn, j, _, hx⟩
      · exact h1 (e.symm.trans hx)
      · exact h3 n hn (by rw [← e, hx]),
    fun a _ h1 _ h3 => U.miss a fun x hx e => by
      rcases h x hx with hx | ⟨n, hn, j, hj, hx⟩
      · exact h1 (by rw [e]; exact hx)
      · exact h3 n hn j hj (by rw [e]; exact hx),
    fun a _ _ => U.frozen a⟩
theorem Fr.of_turned {tb mb : Nat} {L : List Nd} {w w' : World} (h : w.mapTurned w' mb) : Fr tb mb L w w' := by
  have fz := h.frozen
  obtain ⟨es, clock, es', clock', hb, rfl⟩ := h
  refine ⟨rfl, rfl, rfl, by simp [ChangeMaps.setBlock], fun k _ _ h2 _ => ChangeMaps.heap_setBlock_other hb _ h2, fun a _ _ h2 _ => World.cell?_of_block (ChangeMaps.heap_setBlock_other hb _ h2), fun a _ _ => fz a⟩
theorem link_cells {tb : Nat} {L : List Nd} {wr : List (Addr × Value)} (h : ∀ y ∈ wr, LinkCell tb L y.1) : ∀ x ∈ wr, x.1.block = tb ∨ ∃ n ∈ L, ∃ j, j < 5 ∧ x.1 = ⟨n.b, n.o + j, none⟩ := by
  intro x hx
  rcases h x hx with e | e | ⟨n, hn, e | e⟩
  · exact .inl (by rw [e])
  · exact .inl (by rw [e])
  · exact .inr ⟨n, hn, 3, by decide, e⟩
  · exact .inr ⟨n, hn, 4, by decide, e⟩
/-- The data cells stay behind link and unlink. -/
theorem dat_link {tb : Nat} {L : List Nd} {w w' : World} {wr : List (Addr × Value)} (U : Upd w w' wr) (h : ∀ y ∈ wr, LinkCell tb L y.1) (g : ∀ n ∈ L, n.o % 5 = 0) {n : Nd} (hn : n.o % 5 = 0) (ht : n.b ≠ tb) (d : Dat w n) : Dat w' n := by
  have m : ∀ j, j < 3 → w'.cell? ⟨n.b, n.o + j, none⟩ = w.cell? ⟨n.b, n.o + j, none⟩ := by
    intro j hj
    refine U.miss _ fun x hx => ?_
    rcases h x hx with e | e | ⟨k, hk, e | e⟩
    · rw [e]; exact tab_ne ht
    · rw [e]; exact tab_ne ht
    · rw [e]; exact addr_ne (.inr (by omega)) hn (g k hk) (by omega) (by decide)
    · rw [e]; exact addr_ne (.inr (by omega)) hn (g k hk) (by omega) (by decide)
  exact ⟨(m 0 (by decide)).trans d.c, (m 1 (by decide)).trans d.q, (m 2 (by decide)).trans d.f, fun j hj => (U.frozen _).trans (d.fz j hj), d.len⟩
theorem cell_link {tb : Nat} {L : List Nd} {w w' : World} {wr : List (Addr × Value)} (U : Upd w w' wr) (h : ∀ y ∈ wr, LinkCell tb L y.1) (g : ∀ n ∈ L, n.b ≠ tb) {j : Nat} (hj : j < 2) : w'.cell? ⟨tb, j, none⟩ = w.cell? ⟨tb, j, none⟩ := by
  refine U.miss _ fun x hx => ?_
  rcases h x hx with e | e | ⟨k, hk, e | e⟩
  · rw [e]; intro e; have := congrArg Addr.off e; simp at this; omega
  · rw [e]; intro e; have := congrArg Addr.off e; simp at this; omega
  · rw [e]; exact (tab_ne (g k hk)).symm
  · rw [e]; exact (tab_ne (g k hk)).symm

end Go.Proofs.YbulkeahyFmtR
