/-
  THE LIST OF THE TABLE'S CLIENTS: what its links say, and what link and unlink make of it.
-/
import Derived.Test.YbulkeahyFmtRLinks
namespace Go.Proofs.YbulkeahyFmtR
open Go.RowKit

/-- An entry: where it lies, its client, its session. -/
structure Nd where
  b : Nat
  o : Nat
  c : ByteArray
  q : Int
  f : Int

def hd (q : Option (Nat × Nat)) : List Nd → Option (Nat × Nat)
  | [] => q
  | n :: _ => some (n.b, n.o)
def lst (p : Option (Nat × Nat)) : List Nd → Option (Nat × Nat)
  | [] => p
  | n :: L => lst (some (n.b, n.o)) L
theorem lst_snoc (p : Option (Nat × Nat)) (A : List Nd) (a : Nd) : lst p (A ++ [a]) = some (a.b, a.o) := by
  induction A generalizing p with
  | nil => rfl
  | cons n A ih => exact ih _

/-- A run of entries: the first one's older link is p, the last one's newer link is q. -/
def Seg (w : World) : Option (Nat × Nat) → List Nd → Option (Nat × Nat) → Prop
  | _, [], _ => True
  | p, n :: L, q => w.cell? ⟨n.b, n.o + 3, none⟩ = some (pv p) ∧ w.cell? ⟨n.b, n.o + 4, none⟩ = some (pv (hd q L)) ∧ Seg w (some (n.b, n.o)) L q

theorem hd_app (q : Option (Nat × Nat)) (A C : List Nd) : hd q (A ++ C) = hd (hd q C) A := by cases A <;> rfl
theorem seg_app (w : World) (p q : Option (Nat × Nat)) (A C : List Nd) : Seg w p (A ++ C) q ↔ Seg w p A (hd q C) ∧ Seg w (lst p A) C q := by
  induction A generalizing p with
  | nil => simp [Seg, lst]
  | cons n A ih =>
    show (_ ∧ _ ∧ Seg w (some (n.b, n.o)) (A ++ C) q) ↔ (_ ∧ _ ∧ Seg w (some (n.b, n.o)) A (hd q C)) ∧ Seg w (lst (some (n.b, n.o)) A) C q
    rw [ih, show A.append C = A ++ C from rfl, hd_app]
    constructor
    · rintro ⟨a, b, c, d⟩; exact ⟨⟨a, b, c⟩, d⟩
    · rintro ⟨⟨a, b, c⟩, d⟩; exact ⟨a, b, c, d⟩
theorem seg_frame {w w' : World} {p q : Option (Nat × Nat)} {L : List Nd} (h : ∀ n ∈ L, w'.cell? ⟨n.b, n.o + 3, none⟩ = w.cell? ⟨n.b, n.o + 3, none⟩ ∧ w'.cell? ⟨n.b, n.o + 4, none⟩ = w.cell? ⟨n.b, n.o + 4, none⟩) (s : Seg w p L q) : Seg w' p L q := by
  induction L generalizing p with
  | nil => trivial
  | cons n L ih =>
    obtain ⟨a, b, c⟩ := s
    have hn := h n (List.mem_cons_self ..)
    exact ⟨hn.1.trans a, hn.2.trans b, ih (fun m hm => h m (List.mem_cons_of_mem _ hm)) c⟩

/-- Two entries that do not meet. -/
def Far (n m : Nd) : Prop := (n.b, n.o) ≠ (m.b, m.o)
theorem Far.symm {n m : Nd} (h : Far n m) : Far m n := fun e => h e.symm
theorem addr_ne {b o b' o' i j : Nat} (h : (b, o) ≠ (b', o') ∨ i ≠ j) (hn : o % 5 = 0) (hm : o' % 5 = 0) (hi : i < 5) (hj : j < 5) : (⟨b, o + i, none⟩ : Addr) ≠ ⟨b', o' + j, none⟩ := by
  intro e
  have e1 := congrArg Addr.block e
  have e2 := congrArg Addr.off e
  simp only at e1 e2
  have h1 : o = o' := by omega
  have h2 : i = j := by omega
  rcases h with h | h
  · exact h (by rw [e1, h1])
  · exact h h2
theorem tab_ne {b o tb j : Nat} (h : b ≠ tb) : (⟨b, o, none⟩ : Addr) ≠ ⟨tb, j, none⟩ := fun e => h (congrArg Addr.block e)

theorem behind_hit {w : World} {a : Addr} {v : Value} {wr : List (Addr × Value)} : behind w ((a, v) :: wr) a = some v := if_pos rfl
theorem behind_skip {w : World} {p a : Addr} {v : Value} {wr : List (Addr × Value)} (h : p ≠ a) : behind w ((a, v) :: wr) p = behind w wr p := if_neg h
theorem behind_miss (w : World) (wr : List (Addr × Value)) (p : Addr) (h : ∀ x ∈ wr, p ≠ x.1) : behind w wr p = w.cell? p := by
  induction wr with
  | nil => rfl
  | cons x wr ih =>
    obtain ⟨a, v⟩ := x
    show (if p = a then some v else behind w wr p) = _
    rw [if_neg (h _ (List.mem_cons_self ..))]
    exact ih fun y hy => h y (List.mem_cons_of_mem _ hy)

/-- The entries lie on fives, off the table's block. -/
structure Good (tb : Nat) (L : List Nd) : Prop where
  five : ∀ n ∈ L, n.o % 5 = 0
  off : ∀ n ∈ L, n.b ≠ tb
  far : L.Pairwise Far
structure Lnk (w : World) (tb : Nat) (L : List Nd) : Prop where
  seg : Seg w none L none
  old : w.cell? ⟨tb, 2, none⟩ = some (pv (hd none L))
  new : w.cell? ⟨tb, 3, none⟩ = some (pv (lst none L))

/-- The cells that link and unlink write. -/
def LinkCell (tb : Nat) (L : List Nd) (a : Addr) : Prop := a = ⟨tb, 2, none⟩ ∨ a = ⟨tb, 3, none⟩ ∨ ∃ n ∈ L, a = ⟨n.b, n.o + 3, none⟩ ∨ a = ⟨n.b, n.o + 4, none⟩

theorem seg_relast {w w' : World} {p q q' : Option (Nat × Nat)} {A : List Nd} {a : Nd} (s : Seg w p (A ++ [a]) q)
    (h : ∀ n ∈ A, w'.cell? ⟨n.b, n.o + 3, none⟩ = w.cell? ⟨n.b, n.o + 3, none⟩ ∧ w'.cell? ⟨n.b, n.o + 4, none⟩ = w.cell? ⟨n.b, n.o + 4, none⟩)
    (h3 : w'.cell? ⟨a.b, a.o + 3, none⟩ = w.cell? ⟨a.b, a.o + 3, none⟩) (h4 : w'.cell? ⟨a.b, a.o + 4, none⟩ = some (pv q')) : Seg w' p (A ++ [a]) q' := by
  rw [seg_app] at s ⊢
  exact ⟨seg_frame h s.1, h3.trans s.2.1, h4, trivial⟩
theorem seg_refirst {w w' : World} {p p' q : Option (Nat × Nat)} {C : List Nd} {c : Nd} (s : Seg w p (c :: C) q)
    (h : ∀ n ∈ C, w'.cell? ⟨n.b, n.o + 3, none⟩ = w.cell? ⟨n.b, n.o + 3, none⟩ ∧ w'.cell? ⟨n.b, n.o + 4, none⟩ = w.cell? ⟨n.b, n.o + 4, none⟩)
    (h3 : w'.cell? ⟨c.b, c.o + 3, none⟩ = some (pv p')) (h4 : w'.cell? ⟨c.b, c.o + 4, none⟩ = w.cell? ⟨c.b, c.o + 4, none⟩) : Seg w' p' (c :: C) q :=
  ⟨h3, h4.trans s.2.1, seg_frame h s.2.2⟩
theorem lst_app (p : Option (Nat × Nat)) (A C : List Nd) : lst p (A ++ C) = lst (lst p A) C := by
  induction A generalizing p with
  | nil => rfl
  | cons n A ih => exact ih _
theorem hd_snoc (q q' : Option (Nat × Nat)) (A : List Nd) (a : Nd) : hd q (A ++ [a]) = hd q' (A ++ [a]) := by cases A <;> rfl
theorem hd_snoc_app (q q' : Option (Nat × Nat)) (A C : List Nd) (a : Nd) : hd q ((A ++ [a]) ++ C) = hd q' (A ++ [a]) := by rw [hd_app]; exact hd_snoc _ _ _ _
/-- A cell that none of two writes meets. -/
theorem Upd.miss {w w' : World} {wr : List (Addr × Value)} (U : Upd w w' wr) (p : Addr) (h : ∀ x ∈ wr, p ≠ x.1) : w'.cell? p = w.cell? p := (U.cell p).trans (behind_miss w wr p h)

theorem unlink_any (tb : Nat) (A C : List Nd) (e : Nd) (w : World) (h : Lnk w tb (A ++ e :: C)) (g : Good tb (A ++ e :: C))
    (fz : ∀ n ∈ A ++ e :: C, w.frozen? ⟨n.b, n.o + 3, none⟩ = false ∧ w.frozen? ⟨n.b, n.o + 4, none⟩ = false) (g2 : w.frozen? ⟨tb, 2, none⟩ = false) (g3 : w.frozen? ⟨tb, 3, none⟩ = false) :
    Calls Ybaf.prog 16 #[.pointer (some ⟨tb, 0, none⟩), .pointer (some ⟨e.b, e.o, none⟩)] w fun x w' =>
      x = .returned (.tuple #[]) ∧ ∃ wr, Upd w w' wr ∧ (∀ y ∈ wr, LinkCell tb (A ++ C) y.1) ∧ Lnk w' tb (A ++ C) := by
  obtain ⟨hs, ho, hn⟩ := h
  obtain ⟨five, off, far⟩ := g
  rw [seg_app] at hs
  obtain ⟨sA, s3, s4, sC⟩ := hs
  have farA := List.pairwise_append.1 far
  have farC := List.pairwise_cons.1 farA.2.1
  have fe := five e (by simp)
  have oe := off e (by simp)
  rcases List.eq_nil_or_concat A with rfl | ⟨A', a, rfl⟩
  · rcases C with _ | ⟨c, C⟩
    · refine (unlink_none_none tb e.b e.o w _ _ s3 s4 ho g2 hn g3 (tab_ne oe).symm (tab_ne oe).symm (by simp)).mono ?_
      rintro x w' ⟨rfl, U⟩
      refine ⟨rfl, _, U, ?_, trivial, ?_, ?_⟩
      · intro y hy
        simp at hy
        rcases hy with rfl | rfl
        · exact .inr (.inl rfl)
        · exact .inl rfl
      · rw [U.cell]; simp [behind]; rfl
      · rw [U.cell]; simp [behind]; rfl
    · have oc := off c (by simp)
      have fc := five c (by simp)
      have fec : Far e c := farC.1 c (by simp)
      refine (unlink_none_some tb e.b e.o c.b c.o w _ _ s3 s4 ho g2 sC.1 (fz c (by simp)).1 (tab_ne oe).symm (tab_ne oe).symm (tab_ne oc).symm).mono ?_
      rintro x w' ⟨rfl, U⟩
      have m : ∀ n ∈ c :: C, ∀ j, j < 5 → (n = c → j ≠ 3) → w'.cell? ⟨n.b, n.o + j, none⟩ = w.cell? ⟨n.b, n.o + j, none⟩ := by
        intro n hn j hj hc
        refine U.miss _ fun x hx => ?_
        simp at hx
        rcases hx with rfl | rfl
        · refine addr_ne ?_ (five n (by simp at hn ⊢; exact .inr hn)) fc hj (by decide)
          rcases List.mem_cons.1 hn with rfl | hn
          · exact .inr (hc rfl)
          · exact .inl ((List.pairwise_cons.1 farC.2).1 n hn).symm
        · exact tab_ne (off n (by simp at hn ⊢; exact .inr hn))
      have mC : ∀ n ∈ C, n = c → False := fun n hn e1 => (List.pairwise_cons.1 farC.2).1 n hn (by rw [e1])
      refine ⟨rfl, _, U, ?_, ?_, ?_, ?_⟩
      · intro y hy
        simp at hy
        rcases hy with rfl | rfl
        · exact .inr (.inr ⟨c, by simp, .inl rfl⟩)
        · exact .inl rfl
      · refine seg_refirst sC (fun n hn => ⟨m n (by simp [hn]) 3 (by decide) fun e1 => (mC n hn e1).elim, m n (by simp [hn]) 4 (by decide) fun _ => by decide⟩) ?_ (m c (by simp) 4 (by decide) fun _ => by decide)
        rw [U.cell]; simp [behind]; rfl
      · rw [U.cell]; rw [behind_skip (tab_ne oc).symm, behind_hit]; rfl
      · rw [U.miss _ fun x hx => by simp at hx; rcases hx with rfl | rfl; exact (tab_ne oc).symm; simp]
        exact hn
  · have la : lst none (A'.concat a) = some (a.b, a.o) := by rw [List.concat_eq_append]; exact lst_snoc _ _ _
    rw [la] at s3
    rw [List.concat_eq_append] at *
    have oa := off a (by simp)
    have fa := five a (by simp)
    have fae : Far a e := farA.2.2 a (by simp) e (by simp)
    have farA' := List.pairwise_append.1 farA.1
    have a4 := ((seg_app w none _ A' [a]).1 sA).2.2.1
    have mA' : ∀ n ∈ A', n = a → False := fun n hn e1 => farA'.2.2 n hn a (by simp) (by rw [e1])
    rcases C with _ | ⟨c, C⟩
    · refine (unlink_some_none tb e.b e.o a.b a.o w _ _ s3 s4 a4 (fz a (by simp)).2 hn g3 (addr_ne (.inr (by decide)) fa fe (by decide) (by decide)) (addr_ne (.inl fae) fa fe (by decide) (by decide)) (tab_ne oa)).mono ?_
      rintro x w' ⟨rfl, U⟩
      have m : ∀ n ∈ A' ++ [a], ∀ j, j < 5 → (n = a → j ≠ 4) → w'.cell? ⟨n.b, n.o + j, none⟩ = w.cell? ⟨n.b, n.o + j, none⟩ := by
        intro n hn j hj hc
        have hn' : n ∈ A' ++ [a] ++ [e] := List.mem_append_left _ hn
        refine U.miss _ fun x hx => ?_
        simp at hx
        rcases hx with rfl | rfl
        · exact tab_ne (off n hn')
        · refine addr_ne ?_ (five n hn') fa hj (by decide)
          rcases List.mem_append.1 hn with hn | hn
          · exact .inl (farA'.2.2 n hn a (by simp))
          · exact .inr (hc (by simpa using hn))
      rw [List.append_nil]
      refine ⟨rfl, _, U, ?_, ?_, ?_, ?_⟩
      · intro y hy
        simp at hy
        rcases hy with rfl | rfl
        · exact .inr (.inl rfl)
        · exact .inr (.inr ⟨a, by simp, .inr rfl⟩)
      · refine seg_relast sA (fun n hn => ⟨m n (by simp [hn]) 3 (by decide) fun _ => by decide, m n (by simp [hn]) 4 (by decide) fun e1 => (mA' n hn e1).elim⟩) (m a (by simp) 3 (by decide) fun _ => by decide) ?_
        rw [U.cell]; rw [behind_skip (tab_ne oa), behind_hit]; rfl
      · rw [U.miss _ fun x hx => by simp at hx; rcases hx with rfl | rfl; simp; exact (tab_ne oa).symm]
        rw [ho, hd_snoc_app none none]
      · rw [U.cell, lst_snoc]; simp [behind]; rfl
    · have oc := off c (by simp)
      have fc := five c (by simp)
      have fec : Far e c := farC.1 c (by simp)
      have fac : Far a c := farA.2.2 a (by simp) c (by simp)
      refine (unlink_some_some tb e.b e.o a.b a.o c.b c.o w _ _ s3 s4 a4 (fz a (by simp)).2 sC.1 (fz c (by simp)).1 (addr_ne (.inr (by decide)) fa fe (by decide) (by decide)) (addr_ne (.inl fae) fa fe (by decide) (by decide)) (addr_ne (.inr (by decide)) fa fc (by decide) (by decide))).mono ?_
      rintro x w' ⟨rfl, U⟩
      have mC : ∀ n ∈ C, n = c → False := fun n hn e1 => (List.pairwise_cons.1 farC.2).1 n hn (by rw [e1])
      have mm : ∀ n ∈ (A' ++ [a]) ++ e :: c :: C, ∀ j, j < 5 → (Far n a ∨ j ≠ 4) → (Far n c ∨ j ≠ 3) → w'.cell? ⟨n.b, n.o + j, none⟩ = w.cell? ⟨n.b, n.o + j, none⟩ := by
        intro n hn j hj ha hc
        refine U.miss _ fun x hx => ?_
        simp at hx
        rcases hx with rfl | rfl
        · exact addr_ne hc (five n hn) fc hj (by decide)
        · exact addr_ne ha (five n hn) fa hj (by decide)
      refine ⟨rfl, _, U, ?_, ?_, ?_, ?_⟩
      · intro y hy
        simp at hy
        rcases hy with rfl | rfl
        · exact .inr (.inr ⟨c, by simp, .inl rfl⟩)
        · exact .inr (.inr ⟨a, by simp, .inr rfl⟩)
      · rw [seg_app]
        constructor
        · refine seg_relast sA (fun n hn => ?_) (mm a (by simp) 3 (by decide) (.inr (by decide)) (.inl fac)) ?_
          · have k1 : Far n a := farA'.2.2 n hn a (by simp)
            have k2 : Far n c := farA.2.2 n (by simp [hn]) c (by simp)
            exact ⟨mm n (by simp [hn]) 3 (by decide) (.inl k1) (.inl k2), mm n (by simp [hn]) 4 (by decide) (.inl k1) (.inl k2)⟩
          · rw [U.cell]; rw [behind_skip (addr_ne (.inr (by decide)) fa fc (by decide) (by decide)), behind_hit]; rfl
        · rw [lst_snoc]
          refine seg_refirst sC (fun n hn => ?_) ?_ (mm c (by simp) 4 (by decide) (.inl fac.symm) (.inr (by decide)))
          · have k1 : Far n a := (farA.2.2 a (by simp) n (by simp [hn])).symm
            have k2 : Far n c := ((List.pairwise_cons.1 farC.2).1 n hn).symm
            exact ⟨mm n (by simp [hn]) 3 (by decide) (.inl k1) (.inl k2), mm n (by simp [hn]) 4 (by decide) (.inl k1) (.inl k2)⟩
          · rw [U.cell]; rw [behind_hit]; rfl
      · rw [U.miss _ fun x hx => by simp at hx; rcases hx with rfl | rfl; exact (tab_ne oc).symm; exact (tab_ne oa).symm]
        rw [ho, hd_snoc_app none none, hd_snoc_app none none]
      · rw [U.miss _ fun x hx => by simp at hx; rcases hx with rfl | rfl; exact (tab_ne oc).symm; exact (tab_ne oa).symm]
        rw [hn, lst_app, lst_app none (A' ++ [a])]
        rfl

theorem link_any (tb : Nat) (L : List Nd) (e : Nd) (w : World) (h : Lnk w tb L) (g : Good tb (L ++ [e])) (u1 u2 : Value)
    (c1 : w.cell? ⟨e.b, e.o + 3, none⟩ = some u1) (c2 : w.cell? ⟨e.b, e.o + 4, none⟩ = some u2)
    (fz : ∀ n ∈ L ++ [e], w.frozen? ⟨n.b, n.o + 3, none⟩ = false ∧ w.frozen? ⟨n.b, n.o + 4, none⟩ = false) (g2 : w.frozen? ⟨tb, 2, none⟩ = false) (g3 : w.frozen? ⟨tb, 3, none⟩ = false) :
    Calls Ybaf.prog 14 #[.pointer (some ⟨tb, 0, none⟩), .pointer (some ⟨e.b, e.o, none⟩)] w fun x w' =>
      x = .returned (.tuple #[]) ∧ ∃ wr, Upd w w' wr ∧ (∀ y ∈ wr, LinkCell tb (L ++ [e]) y.1) ∧ Lnk w' tb (L ++ [e]) := by
  obtain ⟨hs, ho, hn⟩ := h
  obtain ⟨five, off, far⟩ := g
  have fe := five e (by simp)
  have oe := off e (by simp)
  rcases List.eq_nil_or_concat L with rfl | ⟨A, a, rfl⟩
  · refine (link_none tb e.b e.o w _ u1 u2 hn g3 ho g2 c1 (fz e (by simp)).1 c2 (fz e (by simp)).2 oe).mono ?_
    rintro x w' ⟨rfl, U⟩
    refine ⟨rfl, _, U, ?_, ⟨?_, ?_, trivial⟩, ?_, ?_⟩
    · intro y hy
      simp at hy
      rcases hy with rfl | rfl | rfl | rfl
      · exact .inr (.inl rfl)
      · exact .inl rfl
      · exact .inr (.inr ⟨e, by simp, .inr rfl⟩)
      · exact .inr (.inr ⟨e, by simp, .inl rfl⟩)
    · rw [U.cell]; rw [behind_skip (tab_ne oe), behind_skip (tab_ne oe), behind_skip (by simp), behind_hit]; rfl
    · rw [U.cell]; rw [behind_skip (tab_ne oe), behind_skip (tab_ne oe), behind_hit]; rfl
    · rw [U.cell]; rw [behind_skip (by simp), behind_hit]; rfl
    · rw [U.cell]; rw [behind_hit]; rfl
  · rw [List.concat_eq_append] at *
    have oa := off a (by simp)
    have fa := five a (by simp)
    have farL := List.pairwise_append.1 far
    have farA := List.pairwise_append.1 farL.1
    have fae : Far a e := farL.2.2 a (by simp) e (by simp)
    have a4 := ((seg_app w none _ A [a]).1 hs).2.2.1
    rw [lst_snoc] at hn
    refine (link_some tb e.b e.o a.b a.o w _ u1 u2 hn g3 a4 (fz a (by simp)).2 c1 (fz e (by simp)).1 c2 (fz e (by simp)).2 oe oa (addr_ne (.inl fae) fa fe (by decide) (by decide)) (addr_ne (.inl fae) fa fe (by decide) (by decide))).mono ?_
    rintro x w' ⟨rfl, U⟩
    have mm : ∀ n ∈ A ++ [a], ∀ j, j < 5 → (Far n a ∨ j ≠ 4) → w'.cell? ⟨n.b, n.o + j, none⟩ = w.cell? ⟨n.b, n.o + j, none⟩ := by
      intro n hn j hj ha
      have hn' : n ∈ A ++ [a] ++ [e] := List.mem_append_left _ hn
      refine U.miss _ fun x hx => ?_
      simp at hx
      rcases hx with rfl | rfl | rfl | rfl
      · exact tab_ne (off n hn')
      · exact addr_ne ha (five n hn') fa hj (by decide)
      · exact addr_ne (.inl (farL.2.2 n hn e (by simp))) (five n hn') fe hj (by decide)
      · exact addr_ne (.inl (farL.2.2 n hn e (by simp))) (five n hn') fe hj (by decide)
    refine ⟨rfl, _, U, ?_, ?_, ?_, ?_⟩
    · intro y hy
      simp at hy
      rcases hy with rfl | rfl | rfl | rfl
      · exact .inr (.inl rfl)
      · exact .inr (.inr ⟨a, by simp, .inr rfl⟩)
      · exact .inr (.inr ⟨e, by simp, .inr rfl⟩)
      · exact .inr (.inr ⟨e, by simp, .inl rfl⟩)
    · rw [seg_app]
      constructor
      · refine seg_relast hs (fun n hn => ?_) (mm a (by simp) 3 (by decide) (.inr (by decide))) ?_
        · have k1 : Far n a := farA.2.2 n hn a (by simp)
          exact ⟨mm n (by simp [hn]) 3 (by decide) (.inl k1), mm n (by simp [hn]) 4 (by decide) (.inl k1)⟩
        · rw [U.cell]; rw [behind_skip (tab_ne oa), behind_hit]; rfl
      · rw [lst_snoc]
        refine ⟨?_, ?_, trivial⟩
        · rw [U.cell]; rw [behind_skip (tab_ne oe), behind_skip (addr_ne (.inr (by decide)) fe fa (by decide) (by decide)), behind_skip (by simp), behind_hit]; rfl
        · rw [U.cell]; rw [behind_skip (tab_ne oe), behind_skip (addr_ne (.inl fae.symm) fe fa (by decide) (by decide)), behind_hit]; rfl
    · rw [U.miss _ fun x hx => by simp at hx; rcases hx with rfl | rfl | rfl | rfl; simp; exact (tab_ne oa).symm; exact (tab_ne oe).symm; exact (tab_ne oe).symm]
      rw [ho, hd_snoc_app none none]
    · rw [U.cell, lst_snoc]; rw [behind_hit]; rfl

end Go.Proofs.YbulkeahyFmtR
