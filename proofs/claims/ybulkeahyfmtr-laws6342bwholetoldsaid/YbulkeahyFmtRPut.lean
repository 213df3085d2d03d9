/-
  THE METHODS add, renew AND put.
-/
import Derived.Test.YbulkeahyFmtRForget
namespace Go.Proofs.YbulkeahyFmtR
open Go.RowKit

theorem same_iff (a b : ByteArray) : (a.toList == b.toList) = true ↔ a = b := by
  rw [ByteArray.toList_eq, ByteArray.toList_eq, beq_iff_eq]
  constructor
  · intro h
    exact kl_inj (by unfold kl; rw [h])
  · rintro rfl; rfl
theorem same_not (a b : ByteArray) : (a.toList == b.toList) = false ↔ a ≠ b := by
  rw [← Bool.not_eq_true, same_iff]

/-- The model: the clients in the order of their last puts. -/
abbrev It := ByteArray × Int × Int
def Nd.it (n : Nd) : It := (n.c, n.q, n.f)
def mput (lim : Int) (X : List It) (c : ByteArray) (q f : Int) : List It := trim lim (X.filter (fun x => !(x.1.toList == c.toList)) ++ [(c, q, f)])

theorem Fr.drew (tb mb : Nat) (L : List Nd) (w : World) : Fr tb mb L w w.drew := ⟨rfl, rfl, rfl, Nat.le_refl _, fun _ _ _ _ _ => rfl, fun _ _ _ _ _ => rfl, fun _ _ _ => rfl⟩

theorem add_plain {w w1 w2 : World} {tb mb : Nat} {lim : Int} {e : Nd} {L : List Nd} {D : DataW Addr} {ws : List (Addr × Value)} (T : Tab w tb mb lim L) (M : MapIs w mb L D) (g : Good tb (L ++ [e])) (hne : ∀ n ∈ L, n.c ≠ e.c) (de : Dat w e)
    (tu : w.drew.mapTurned w1 mb) (o1 : w1.ownsMap Ybaf.prog 9 Rp mb (L.length + 1) (D.put (kl e.c) (.held ⟨e.b, e.o, none⟩)))
    (U : Upd w1 w2 ws) (hl : ∀ y ∈ ws, LinkCell tb (L ++ [e]) y.1) (LK : Lnk w2 tb (L ++ [e])) : Tab w2 tb mb lim (L ++ [e]) ∧ Fr tb mb (L ++ [e]) w w2 := by
  have tm : tb ≠ mb := own_off M.own T.lim
  have om : ∀ n ∈ L ++ [e], n.b ≠ mb := fun n hn => by
    rcases List.mem_append.1 hn with hn | hn
    · exact own_off M.own (T.dat n hn).c
    · obtain rfl : n = e := by simpa using hn
      exact own_off M.own de.c
  have dd : ∀ n ∈ L ++ [e], Dat w n := fun n hn => by
    rcases List.mem_append.1 hn with hn | hn
    · exact T.dat n hn
    · obtain rfl : n = e := by simpa using hn
      exact de
  have cw : ∀ b o, b ≠ mb → w1.cell? ⟨b, o, none⟩ = w.cell? ⟨b, o, none⟩ := by
    intro b o hb
    obtain ⟨es, clock, es', clock', hb', rfl⟩ := tu
    exact World.cell?_of_block (ChangeMaps.heap_setBlock_other hb' _ hb)
  have fr : ∀ a, w2.frozen? a = w.frozen? a := fun a => (U.frozen a).trans (tu.frozen a)
  have d1 : ∀ n ∈ L ++ [e], Dat w1 n := fun n hn => by
    have d := dd n hn
    exact ⟨(cw _ _ (om n hn)).trans d.c, (cw _ _ (om n hn)).trans d.q, (cw _ _ (om n hn)).trans d.f, fun j hj => (tu.frozen _).trans (d.fz j hj), d.len⟩
  have M1 := MapIs.store M hne o1
  refine ⟨⟨?_, ?_, (fr _).trans T.g2, (fr _).trans T.g3, LK, g, ?_, ?_, _, M1.block (U.block mb ?_)⟩, ?_⟩
  · exact ((cell_link U hl g.off (by decide)).trans (cw _ _ tm)).trans T.lim
  · exact ((cell_link U hl g.off (by decide)).trans (cw _ _ tm)).trans T.byid
  · exact fun n hn => dat_link U hl g.five (g.five n hn) (g.off n hn) (d1 n hn)
  · refine List.pairwise_append.2 ⟨T.uniq, by simp, fun a ha b hb => ?_⟩
    obtain rfl : b = e := by simpa using hb
    exact hne a ha
  · intro x hx
    rcases hl x hx with q | q | ⟨n, hn, q | q⟩
    · rw [q]; exact tm
    · rw [q]; exact tm
    · rw [q]; exact om n hn
    · rw [q]; exact om n hn
  · exact ((Fr.drew tb mb _ w).trans (Fr.of_turned tu)).trans (Fr.of_upd U (link_cells hl))

theorem add_any (tb mb : Nat) (lim : Int) (L : List Nd) (e : Nd) (w : World) (h0 : 0 ≤ lim) (h1 : lim ≤ 18446744073709551615) (T : Tab w tb mb lim L) (hL : L.length < 1000000) (g : Good tb (L ++ [e])) (hne : ∀ n ∈ L, n.c ≠ e.c) (de : Dat w e)
    (u3 u4 : Value) (e3 : w.cell? ⟨e.b, e.o + 3, none⟩ = some u3) (e4 : w.cell? ⟨e.b, e.o + 4, none⟩ = some u4) :
    Calls Ybaf.prog 10 #[.pointer (some ⟨tb, 0, none⟩), .pointer (some ⟨e.b, e.o, none⟩)] w fun x w' =>
      x = .returned (.tuple #[]) ∧ Tab w' tb mb lim (trim lim (L ++ [e])) ∧ Fr tb mb (L ++ [e]) w w' := by
  obtain ⟨D, M⟩ := T.map
  have c1 := T.byid
  have c0 := de.c
  obtain ⟨w1, hrun, o1, tu⟩ := (own_block (w' := w.drew) M.own rfl).store keyed9 Ybaf.underlying47 (by unfold maxLen; omega) (key9 de.len) (val := .pointer (some ⟨e.b, e.o, none⟩)) (d := .held ⟨e.b, e.o, none⟩) (ps := []) rfl
  have tm : tb ≠ mb := own_off M.own T.lim
  have cw : ∀ b o, b ≠ mb → w1.cell? ⟨b, o, none⟩ = w.cell? ⟨b, o, none⟩ := by
    intro b o hb
    obtain ⟨es, clock, es', clock', hb', rfl⟩ := tu
    exact World.cell?_of_block (ChangeMaps.heap_setBlock_other hb' _ hb)
  have LK : Lnk w1 tb L := ⟨seg_frame (fun n hn => ⟨cw _ _ (own_off M.own (T.dat n hn).c), cw _ _ (own_off M.own (T.dat n hn).c)⟩) T.lnk.seg, (cw _ _ tm).trans T.lnk.old, (cw _ _ tm).trans T.lnk.new⟩
  have em : e.b ≠ mb := own_off M.own de.c
  go_enter Ybaf.func10, Ybaf.ntmps10
  go_wp2_with fail
  go_region
  go_wp2_with fail
  refine (link_any tb L e w1 LK g u3 u4 ((cw _ _ em).trans e3) ((cw _ _ em).trans e4) (fun n hn => ?fz) ((tu.frozen _).trans T.g2) ((tu.frozen _).trans T.g3)).mono ?_
  case fz =>
    have d : Dat w n := by
      rcases List.mem_append.1 hn with hn | hn
      · exact T.dat n hn
      · obtain rfl : n = e := by simpa using hn
        exact de
    exact ⟨(tu.frozen _).trans (d.fz 3 (by decide)), (tu.frozen _).trans (d.fz 4 (by decide))⟩
  rintro x w2 ⟨rfl, ws, U, hl, LK2⟩
  obtain ⟨T2, F2⟩ := add_plain T M g hne de tu o1 U hl LK2
  go_wp2_with fail
  refine (forget_any tb mb lim (L ++ [e]) w2 h0 h1 T2 (by simp; omega)).mono ?_
  rintro x w3 ⟨rfl, T3, F3⟩
  go_wp2_with fail
  go_end0
  exact ⟨rfl, T3, F2.trans F3⟩

/-- An entry with another session. -/
def Nd.with_ (e : Nd) (q f : Int) : Nd := ⟨e.b, e.o, e.c, q, f⟩

theorem renew_plain {w w1 : World} {tb mb : Nat} {lim : Int} {e : Nd} {A C : List Nd} {D : DataW Addr} (q f : Int) (T : Tab w tb mb lim (A ++ e :: C)) (M : MapIs w mb (A ++ e :: C) D)
    (U : Upd w w1 [(⟨e.b, e.o + 2, none⟩, .int .u64 f), (⟨e.b, e.o + 1, none⟩, .int .u64 q)]) : Tab w1 tb mb lim (A ++ e.with_ q f :: C) ∧ MapIs w1 mb (A ++ e.with_ q f :: C) D := by
  have fe := T.good.five e (by simp)
  have te := T.good.off e (by simp)
  have em : e.b ≠ mb := own_off M.own (T.dat e (by simp)).c
  have ct : ∀ j, w1.cell? ⟨tb, j, none⟩ = w.cell? ⟨tb, j, none⟩ := fun j => U.miss _ fun x hx => by
    simp at hx
    rcases hx with rfl | rfl <;> exact (tab_ne te).symm
  have cn : ∀ n ∈ A ++ e :: C, ∀ j, j < 5 → (Far n e ∨ (j ≠ 1 ∧ j ≠ 2)) → w1.cell? ⟨n.b, n.o + j, none⟩ = w.cell? ⟨n.b, n.o + j, none⟩ := by
    intro n hn j hj h
    refine U.miss _ fun x hx => ?_
    simp at hx
    rcases hx with rfl | rfl
    · rcases h with h | h
      · exact addr_ne (.inl h) (T.good.five n hn) fe hj (by decide)
      · exact addr_ne (.inr h.2) (T.good.five n hn) fe hj (by decide)
    · rcases h with h | h
      · exact addr_ne (.inl h) (T.good.five n hn) fe hj (by decide)
      · exact addr_ne (.inr h.1) (T.good.five n hn) fe hj (by decide)
  have sg := (seg_app w none none A (e :: C)).1 (T.lnk.seg)
  have sg' : Seg w none (A ++ e.with_ q f :: C) none := (seg_app w none none A (e.with_ q f :: C)).2 sg
  have mem : ∀ n ∈ A ++ e.with_ q f :: C, ∃ m ∈ A ++ e :: C, n.b = m.b ∧ n.o = m.o ∧ n.c = m.c ∧ (n = m ∨ (m = e ∧ n = e.with_ q f)) := by
    intro n hn
    simp at hn
    rcases hn with hn | rfl | hn
    · exact ⟨n, by simp [hn], rfl, rfl, rfl, .inl rfl⟩
    · exact ⟨e, by simp, rfl, rfl, rfl, .inr ⟨rfl, rfl⟩⟩
    · exact ⟨n, by simp [hn], rfl, rfl, rfl, .inl rfl⟩
  have far := List.pairwise_append.1 T.good.far
  have farC := List.pairwise_cons.1 far.2.1
  have unq := List.pairwise_append.1 T.uniq
  have unqC := List.pairwise_cons.1 unq.2.1
  have fne : ∀ n ∈ A ++ C, Far n e := fun n hn => by
    rcases List.mem_append.1 hn with hn | hn
    · exact far.2.2 n hn e (by simp)
    · exact (farC.1 n hn).symm
  have M1 : MapIs w1 mb (A ++ e.with_ q f :: C) D := by
    have := M.block (U.block mb fun x hx => by simp at hx; rcases hx with rfl | rfl <;> exact em)
    refine ⟨by simpa using this.own, by simpa using this.size, fun c hc => ?_, fun n hn => ?_⟩
    · obtain ⟨n, hn, rfl⟩ := this.back c hc
      simp at hn
      rcases hn with hn | rfl | hn
      · exact ⟨n, by simp [hn], rfl⟩
      · exact ⟨n.with_ q f, by simp, rfl⟩
      · exact ⟨n, by simp [hn], rfl⟩
    · obtain ⟨m, hm, e1, e2, e3, _⟩ := mem n hn
      rw [e1, e2, e3]
      exact this.at_ m hm
  refine ⟨⟨(ct 0).trans T.lim, (ct 1).trans T.byid, (U.frozen _).trans T.g2, (U.frozen _).trans T.g3, ⟨seg_frame (fun n hn => ?_) sg', (ct 2).trans ?_, (ct 3).trans ?_⟩, ⟨fun n hn => ?_, fun n hn => ?_, ?_⟩, fun n hn => ?_, ?_, _, M1⟩, M1⟩
  · obtain ⟨m, hm, e1, e2, _⟩ := mem n hn
    rw [e1, e2]
    exact ⟨cn m hm 3 (by decide) (.inr (by decide)), cn m hm 4 (by decide) (.inr (by decide))⟩
  · rw [T.lnk.old, hd_app, hd_app]; rfl
  · rw [T.lnk.new, lst_app, lst_app]; rfl
  · obtain ⟨m, hm, e1, e2, _⟩ := mem n hn
    rw [e2]; exact T.good.five m hm
  · obtain ⟨m, hm, e1, e2, _⟩ := mem n hn
    rw [e1]; exact T.good.off m hm
  · refine List.pairwise_append.2 ⟨far.1, List.pairwise_cons.2 ⟨farC.1, farC.2⟩, fun a ha b hb => ?_⟩
    rcases List.mem_cons.1 hb with rfl | hb
    · exact far.2.2 a ha e (by simp)
    · exact far.2.2 a ha b (by simp [hb])
  · have hd0 : ∀ m ∈ A ++ C, Dat w1 m := fun m hm => by
      have hm' : m ∈ A ++ e :: C := by simp at hm ⊢; rcases hm with hm | hm; exact .inl hm; exact .inr (.inr hm)
      have d := T.dat m hm'
      exact ⟨(cn m hm' 0 (by decide) (.inl (fne m hm))).trans d.c, (cn m hm' 1 (by decide) (.inl (fne m hm))).trans d.q, (cn m hm' 2 (by decide) (.inl (fne m hm))).trans d.f, fun j hj => (U.frozen _).trans (d.fz j hj), d.len⟩
    simp at hn
    rcases hn with hn | rfl | hn
    · exact hd0 n (by simp [hn])
    · have d := T.dat e (by simp)
      refine ⟨(cn e (by simp) 0 (by decide) (.inr (by decide))).trans d.c, ?_, ?_, fun j hj => (U.frozen _).trans (d.fz j hj), d.len⟩
      · rw [U.cell, behind_skip (by simp [Nd.with_])]; exact behind_hit
      · rw [U.cell]; exact behind_hit
    · exact hd0 n (by simp [hn])
  · refine List.pairwise_append.2 ⟨unq.1, List.pairwise_cons.2 ⟨unqC.1, unqC.2⟩, fun a ha b hb => ?_⟩
    rcases List.mem_cons.1 hb with rfl | hb
    · exact unq.2.2 a ha e (by simp)
    · exact unq.2.2 a ha b (by simp [hb])

/-- The list behind unlink and link of one entry. -/
theorem relink_plain {w w1 w2 : World} {tb mb : Nat} {lim : Int} {e : Nd} {A C : List Nd} {D : DataW Addr} {ws1 ws2 : List (Addr × Value)} (T : Tab w tb mb lim (A ++ e :: C)) (M : MapIs w mb (A ++ e :: C) D)
    (U1 : Upd w w1 ws1) (hl1 : ∀ y ∈ ws1, LinkCell tb (A ++ C) y.1) (g : Good tb (A ++ C ++ [e]))
    (U2 : Upd w1 w2 ws2) (hl2 : ∀ y ∈ ws2, LinkCell tb (A ++ C ++ [e]) y.1) (LK : Lnk w2 tb (A ++ C ++ [e])) : Tab w2 tb mb lim (A ++ C ++ [e]) ∧ Fr tb mb (A ++ e :: C) w w2 := by
  have mem : ∀ n ∈ A ++ C ++ [e], n ∈ A ++ e :: C := by
    intro n hn
    simp at hn ⊢
    rcases hn with hn | hn | hn
    · exact .inl hn
    · exact .inr (.inr hn)
    · exact .inr (.inl hn)
  have hl : ∀ y ∈ ws2 ++ ws1, LinkCell tb (A ++ C ++ [e]) y.1 := by
    intro y hy
    rcases List.mem_append.1 hy with hy | hy
    · exact hl2 y hy
    · rcases hl1 y hy with q | q | ⟨n, hn, q⟩
      · exact .inl q
      · exact .inr (.inl q)
      · exact .inr (.inr ⟨n, List.mem_append_left _ hn, q⟩)
  have U := U1.trans U2
  have tm : tb ≠ mb := own_off M.own T.lim
  have unq := List.pairwise_append.1 T.uniq
  have unqC := List.pairwise_cons.1 unq.2.1
  refine ⟨⟨(cell_link U hl g.off (by decide)).trans T.lim, (cell_link U hl g.off (by decide)).trans T.byid, (U.frozen _).trans T.g2, (U.frozen _).trans T.g3, LK, g, fun n hn => dat_link U hl g.five (g.five n hn) (g.off n hn) (T.dat n (mem n hn)), ?_, D, ?_⟩, ?_⟩
  · refine List.pairwise_append.2 ⟨List.pairwise_append.2 ⟨unq.1, unqC.2, fun a ha b hb => unq.2.2 a ha b (by simp [hb])⟩, by simp, fun a ha b hb => ?_⟩
    obtain rfl : b = e := by simpa using hb
    rcases List.mem_append.1 ha with ha | ha
    · exact unq.2.2 a ha b (by simp)
    · exact (unqC.1 a ha).symm
  · have M1 := M.block (U.block mb fun x hx => by
      rcases hl x hx with q | q | ⟨n, hn, q | q⟩
      · rw [q]; exact tm
      · rw [q]; exact tm
      · rw [q]; exact own_off M.own (T.dat n (mem n hn)).c
      · rw [q]; exact own_off M.own (T.dat n (mem n hn)).c)
    have hlen : (A ++ C ++ [e]).length = (A ++ e :: C).length := by simp
    refine ⟨by rw [hlen]; exact M1.own, by rw [hlen]; exact M1.size, fun c hc => ?_, fun n hn => M1.at_ n (mem n hn)⟩
    obtain ⟨n, hn, r⟩ := M1.back c hc
    refine ⟨n, ?_, r⟩
    simp at hn ⊢
    rcases hn with hn | hn | hn
    · exact .inl hn
    · exact .inr (.inr hn)
    · exact .inr (.inl hn)
  · refine Fr.of_upd U fun x hx => ?_
    rcases link_cells hl x hx with h | ⟨n, hn, r⟩
    · exact .inl h
    · exact .inr ⟨n, mem n hn, r⟩

end Go.Proofs.YbulkeahyFmtR
