/-
  THE METHODS renew AND put, WALKED.
-/
import Derived.Test.YbulkeahyFmtRPut
namespace Go.Proofs.YbulkeahyFmtR
open Go.RowKit

theorem alloc_old (w : World) (o : Obj) (k : Nat) (h : k < w.heap.size) : (w.alloc o).heap[k]? = w.heap[k]? := by
  simp only [World.alloc, Array.getElem?_push]
  rw [if_neg (by omega)]
theorem Fr.alloc (tb mb : Nat) (L : List Nd) (w : World) (o : Obj) : Fr tb mb L w (w.alloc o) :=
  ⟨rfl, rfl, rfl, by rw [show (w.alloc o).heap.size = w.heap.size + 1 by simp]; omega, fun k hk _ _ _ => alloc_old w o k hk, fun a ha _ _ _ => World.cell?_of_block (alloc_old w o _ ha), fun a ha _ => World.frozen?_of_block (alloc_old w o _ ha)⟩

theorem good_move {tb : Nat} {A C : List Nd} {e : Nd} (g : Good tb (A ++ e :: C)) : Good tb (A ++ C ++ [e]) := by
  have mem : ∀ n ∈ A ++ C ++ [e], n ∈ A ++ e :: C := by
    intro n hn
    simp at hn ⊢
    rcases hn with hn | hn | hn
    · exact .inl hn
    · exact .inr (.inr hn)
    · exact .inr (.inl hn)
  have far := List.pairwise_append.1 g.far
  have farC := List.pairwise_cons.1 far.2.1
  refine ⟨fun n hn => g.five n (mem n hn), fun n hn => g.off n (mem n hn), List.pairwise_append.2 ⟨List.pairwise_append.2 ⟨far.1, farC.2, fun a ha b hb => far.2.2 a ha b (by simp [hb])⟩, by simp, fun a ha b hb => ?_⟩⟩
  obtain rfl : b = e := by simpa using hb
  rcases List.mem_append.1 ha with ha | ha
  · exact far.2.2 a ha b (by simp)
  · exact (farC.1 a ha).symm

theorem renew_any (tb mb : Nat) (lim q f : Int) (A C : List Nd) (e : Nd) (w : World) (T : Tab w tb mb lim (A ++ e :: C)) :
    Calls Ybaf.prog 11 #[.pointer (some ⟨tb, 0, none⟩), .pointer (some ⟨e.b, e.o, none⟩), .agg #[.int .u64 q, .int .u64 f]] w fun x w' =>
      x = .returned (.tuple #[]) ∧ Tab w' tb mb lim (A ++ C ++ [e.with_ q f]) ∧ Fr tb mb (A ++ e :: C) w w' := by
  have d := T.dat e (by simp)
  have k1 := d.q
  have k2 := d.f
  have z1 := d.fz 1 (by decide)
  have z2 := d.fz 2 (by decide)
  have hb : e.b < w.heap.size := World.block_lt_of_cell? _ _ k1
  go_enter Ybaf.func11, Ybaf.ntmps11
  go_wp2_with fail
  have U0 := upd_set w e.b (e.o + 1) (.int .u64 q) _ k1
  have U1 := U0.set e.b (e.o + 2) (.int .u64 f) _ (by rw [U0.cell]; simp [behind]; exact k2)
  obtain ⟨D, M⟩ := T.map
  obtain ⟨TA, MA⟩ := renew_plain q f T M U1
  have FA : Fr tb mb (A ++ e :: C) w ((w.setCell ⟨e.b, e.o + 1, none⟩ (.int .u64 q)).setCell ⟨e.b, e.o + 2, none⟩ (.int .u64 f)) := Fr.of_upd U1 fun x hx => by
    simp at hx
    rcases hx with rfl | rfl
    · exact .inr ⟨e, by simp, 2, by decide, rfl⟩
    · exact .inr ⟨e, by simp, 1, by decide, rfl⟩
  have TW := TA.later (alloc_old _ (.cells #[.int .u64 q, .int .u64 f] 30))
  have MW := MA.block (alloc_old _ (.cells #[.int .u64 q, .int .u64 f] 30) mb (own_lt MA.own))
  have FW := FA.trans (Fr.alloc tb mb _ _ (.cells #[.int .u64 q, .int .u64 f] 30))
  clear TA MA FA U0 U1
  generalize hW : ((w.setCell ⟨e.b, e.o + 1, none⟩ (.int .u64 q)).setCell ⟨e.b, e.o + 2, none⟩ (.int .u64 f)).alloc (.cells #[.int .u64 q, .int .u64 f] 30) = W at *
  change Calls _ _ _ W _
  clear hW
  refine (unlink_any tb A C (e.with_ q f) W TW.lnk TW.good (fun n hn => ⟨(TW.dat n hn).fz 3 (by decide), (TW.dat n hn).fz 4 (by decide)⟩) TW.g2 TW.g3).mono ?_
  rintro x w1 ⟨rfl, ws1, U1, hl1, LK1⟩
  go_wp2_with fail
  have g := good_move TW.good
  have sg := ((seg_app W none none A (e.with_ q f :: C)).1 TW.lnk.seg).2
  have far := List.pairwise_append.1 g.far
  have me : e.with_ q f ∈ A ++ e.with_ q f :: C := by simp
  have oe : e.b ≠ tb := TW.good.off (e.with_ q f) me
  have fe : e.o % 5 = 0 := TW.good.five (e.with_ q f) me
  have fx : ∀ n ∈ A ++ C, Far e n := fun n hn => (far.2.2 n hn (e.with_ q f) (by simp)).symm
  have m34 : ∀ j, j < 5 → w1.cell? ⟨e.b, e.o + j, none⟩ = W.cell? ⟨e.b, e.o + j, none⟩ := by
    intro j hj
    refine U1.miss _ fun x hx => ?_
    rcases hl1 x hx with q1 | q1 | ⟨n, hn, q1 | q1⟩
    · rw [q1]; exact tab_ne oe
    · rw [q1]; exact tab_ne oe
    · rw [q1]; exact addr_ne (.inl (fx n hn)) fe (g.five n (List.mem_append_left _ hn)) hj (by decide)
    · rw [q1]; exact addr_ne (.inl (fx n hn)) fe (g.five n (List.mem_append_left _ hn)) hj (by decide)
  refine (link_any tb (A ++ C) (e.with_ q f) w1 LK1 g _ _ ((m34 3 (by decide)).trans sg.1) ((m34 4 (by decide)).trans sg.2.1) (fun n hn => ?fz) ((U1.frozen _).trans TW.g2) ((U1.frozen _).trans TW.g3)).mono ?_
  case fz =>
    have hn' : n ∈ A ++ e.with_ q f :: C := by
      simp at hn ⊢
      rcases hn with hn | hn | hn
      · exact .inl hn
      · exact .inr (.inr hn)
      · exact .inr (.inl hn)
    exact ⟨(U1.frozen _).trans ((TW.dat n hn').fz 3 (by decide)), (U1.frozen _).trans ((TW.dat n hn').fz 4 (by decide))⟩
  rintro x w2 ⟨rfl, ws2, U2, hl2, LK2⟩
  go_wp2_with fail
  go_end0
  obtain ⟨T2, F2⟩ := relink_plain TW MW U1 hl1 g U2 hl2 LK2
  refine ⟨rfl, T2, FW.trans (F2.mono fun n hn => ?_)⟩
  simp at hn
  rcases hn with hn | rfl | hn
  · exact ⟨n, by simp [hn], rfl, rfl⟩
  · exact ⟨e, by simp, rfl, rfl⟩
  · exact ⟨n, by simp [hn], rfl, rfl⟩

theorem trim_map {α β : Type} (g : α → β) (lim : Int) (X : List α) : (trim lim X).map g = trim lim (X.map g) := by
  unfold trim
  split
  · rfl
  · rw [List.map_drop, List.length_map]
theorem trim_fit {α : Type} (lim : Int) (X : List α) (h : lim = 0 ∨ (X.length : Int) ≤ lim) : trim lim X = X := by
  unfold trim
  split
  · rfl
  · rw [show X.length - lim.toNat = 0 by omega]; rfl
theorem trim_len {α : Type} (lim : Int) (X : List α) (h : 0 ≤ lim) : lim = 0 ∨ ((trim lim X).length : Int) ≤ lim := by
  unfold trim
  split
  · exact .inl ‹_›
  · right; rw [List.length_drop]; omega
theorem trim_sub {α : Type} (lim : Int) (X : List α) {x : α} (h : x ∈ trim lim X) : x ∈ X := by
  unfold trim at h
  split at h
  · exact h
  · exact List.mem_of_mem_drop h
theorem trim_le {α : Type} (lim : Int) (X : List α) : (trim lim X).length ≤ X.length := by
  unfold trim
  split
  · exact Nat.le_refl _
  · rw [List.length_drop]; omega

theorem mput_renew (lim : Int) (A C : List Nd) (e : Nd) (q f : Int) (u : (A ++ e :: C).Pairwise (fun n m => n.c ≠ m.c)) (h : lim = 0 ∨ ((A ++ e :: C).length : Int) ≤ lim) :
    (A ++ C ++ [e.with_ q f]).map Nd.it = mput lim ((A ++ e :: C).map Nd.it) e.c q f := by
  have unq := List.pairwise_append.1 u
  have unqC := List.pairwise_cons.1 unq.2.1
  have fA : (A.map Nd.it).filter (fun x => !(x.1.toList == e.c.toList)) = A.map Nd.it := List.filter_eq_self.2 fun x hx => by
    obtain ⟨n, hn, rfl⟩ := List.mem_map.1 hx
    have := (same_not n.c e.c).2 (unq.2.2 n hn e (by simp))
    simp [Nd.it, this]
  have fC : (C.map Nd.it).filter (fun x => !(x.1.toList == e.c.toList)) = C.map Nd.it := List.filter_eq_self.2 fun x hx => by
    obtain ⟨n, hn, rfl⟩ := List.mem_map.1 hx
    have := (same_not n.c e.c).2 (unqC.1 n hn).symm
    simp [Nd.it, this]
  unfold mput
  rw [List.map_append (l₁ := A) (l₂ := e :: C), List.map_cons, List.filter_append, List.filter_cons, fA, fC]
  have : (!((Nd.it e).1.toList == e.c.toList)) = false := by rw [(same_iff (Nd.it e).1 e.c).2 rfl]; rfl
  rw [if_neg (by rw [this]; exact Bool.false_ne_true), trim_fit]
  · simp [Nd.it, Nd.with_]
  · rcases h with h | h
    · exact .inl h
    · right; simp at h ⊢; omega
theorem mput_add (lim : Int) (L : List Nd) (e : Nd) (hne : ∀ n ∈ L, n.c ≠ e.c) : (trim lim (L ++ [e])).map Nd.it = mput lim (L.map Nd.it) e.c e.q e.f := by
  unfold mput
  rw [trim_map, List.map_append]
  congr 2
  symm
  refine List.filter_eq_self.2 fun x hx => ?_
  obtain ⟨n, hn, rfl⟩ := List.mem_map.1 hx
  have := (same_not n.c e.c).2 (hne n hn)
  simp [Nd.it, this]

/-- What put leaves: the table, as the model has it. -/
structure PutTo (tb mb : Nat) (lim : Int) (L : List Nd) (c : ByteArray) (q f : Int) (w w' : World) (L' : List Nd) : Prop where
  tab : Tab w' tb mb lim L'
  it : L'.map Nd.it = mput lim (L.map Nd.it) c q f
  fit : lim = 0 ∨ (L'.length : Int) ≤ lim
  len : L'.length ≤ L.length + 1
  fr : Fr tb mb L w w'
  new : ∀ n ∈ L', (∃ m ∈ L, n.b = m.b) ∨ w.heap.size ≤ n.b

theorem put_any (tb mb : Nat) (lim q f : Int) (c : ByteArray) (L : List Nd) (w : World) (h0 : 0 ≤ lim) (h1 : lim ≤ 18446744073709551615) (T : Tab w tb mb lim L) (hL : L.length < 1000000) (hf : lim = 0 ∨ (L.length : Int) ≤ lim) (hc : c.size ≤ maxLen) :
    Calls Ybaf.prog 8 #[.pointer (some ⟨tb, 0, none⟩), .string c, .agg #[.int .u64 q, .int .u64 f]] w fun x w' =>
      x = .returned (.tuple #[]) ∧ ∃ L', PutTo tb mb lim L c q f w w' L' := by
  obtain ⟨D, M⟩ := T.map
  have c1 := T.byid
  have ht : tb < w.heap.size := World.block_lt_of_cell? _ _ c1
  have TW := T.later (alloc_old w (.cells #[.int .u64 q, .int .u64 f] 30))
  have MW := M.block (alloc_old w (.cells #[.int .u64 q, .int .u64 f] 30) mb (own_lt M.own))
  obtain ⟨v, ps, hrun, hv⟩ := MW.own.look_ok keyed9 Ybaf.underlying47 (e := 31) (z := .pointer none) (by kernel_rfl) (zd := .nil) (zp := []) rfl (key9 hc)
  by_cases hh : Maps.has D (kl c) = true
  · obtain ⟨e, he, rfl⟩ := M.back c hh
    rw [hh] at hrun
    rw [(M.at_ e he).2] at hv
    obtain rfl : v = .pointer (some ⟨e.b, e.o, none⟩) := by
      cases v with
      | pointer a => cases a with
        | none => simp [Rp] at hv
        | some a => simp [Rp] at hv; rw [hv.1]
      | _ => simp [Rp] at hv
    obtain ⟨A, C, rfl⟩ := List.append_of_mem he
    go_enter Ybaf.func8, Ybaf.ntmps8
    go_wp2_with fail
    refine (renew_any tb mb lim q f A C e _ TW).mono ?_
    rintro x w2 ⟨rfl, T2, F2⟩
    go_wp2_with fail
    refine bodyPost_ret (results_none rfl _ _ _) rfl ?_
    refine ⟨rfl, _, T2, mput_renew lim A C e q f T.uniq hf, ?_, by simp, (Fr.alloc tb mb _ w _).trans F2, fun n hn => .inl ?_⟩
    · rcases hf with h | h
      · exact .inl h
      · right; simp at h ⊢; omega
    · simp at hn
      rcases hn with hn | hn | rfl
      · exact ⟨n, by simp [hn], rfl⟩
      · exact ⟨n, by simp [hn], rfl⟩
      · exact ⟨e, by simp, rfl⟩
  · have hh' : Maps.has D (kl c) = false := by simpa using hh
    rw [hh'] at hrun
    go_enter Ybaf.func8, Ybaf.ntmps8
    go_wp2_with fail
    have hne : ∀ n ∈ L, n.c ≠ c := fun n hn e1 => by
      rw [← e1, (M.at_ n hn).1] at hh'
      cases hh'
    have T2 := TW.later (alloc_old (w.alloc (.cells #[.int .u64 q, .int .u64 f] 30)) (.cells #[.string c, .int .u64 q, .int .u64 f, .pointer none, .pointer none] 33))
    have F2 := (Fr.alloc tb mb L w (.cells #[.int .u64 q, .int .u64 f] 30)).trans (Fr.alloc tb mb L _ (.cells #[.string c, .int .u64 q, .int .u64 f, .pointer none, .pointer none] 33))
    have hold : ∀ n ∈ L, n.b < w.heap.size := fun n hn => World.block_lt_of_cell? _ _ (T.dat n hn).c
    refine (add_any tb mb lim L ⟨w.heap.size + 1, 0, c, q, f⟩ _ h0 h1 T2 hL ?g hne ?de (.pointer none) (.pointer none) ?e3 ?e4).mono ?_
    case g =>
      refine ⟨fun n hn => ?_, fun n hn => ?_, List.pairwise_append.2 ⟨T.good.far, by simp, fun a ha b hb => ?_⟩⟩
      · rcases List.mem_append.1 hn with hn | hn
        · exact T.good.five n hn
        · obtain rfl := List.mem_singleton.1 hn
          rfl
      · rcases List.mem_append.1 hn with hn | hn
        · exact T.good.off n hn
        · obtain rfl := List.mem_singleton.1 hn
          show w.heap.size + 1 ≠ tb
          omega
      · obtain rfl := List.mem_singleton.1 hb
        intro e1
        have := hold a ha
        simp at e1
        omega
    case de => exact ⟨by simp, by simp, by simp, fun j hj => by simp, hc⟩
    case e3 => simp
    case e4 => simp
    rintro x w3 ⟨rfl, T3, F3⟩
    go_wp2_with fail
    go_end0
    refine ⟨rfl, _, T3, mput_add lim L ⟨w.heap.size + 1, 0, c, q, f⟩ hne, trim_len _ _ h0, ?_, ?_, fun n hn => ?_⟩
    · exact Nat.le_trans (trim_le _ _) (by simp)
    · have hs : ((w.alloc (.cells #[.int .u64 q, .int .u64 f] 30)).alloc (.cells #[.string c, .int .u64 q, .int .u64 f, .pointer none, .pointer none] 33)).heap.size = w.heap.size + 2 := by simp
      refine ⟨F3.os.trans F2.os, F3.tape.trans F2.tape, F3.output.trans F2.output, Nat.le_trans F2.size F3.size, fun k hk a b d => ?_, fun k hk a b d => ?_, fun k hk a => ?_⟩
      · refine (F3.block k (by omega) a b fun n hn => ?_).trans (F2.block k hk a b d)
        rcases List.mem_append.1 hn with hn | hn
        · exact d n hn
        · obtain rfl := List.mem_singleton.1 hn
          show w.heap.size + 1 ≠ k
          omega
      · refine (F3.cell k (by omega) a b fun n hn j hj => ?_).trans (F2.cell k hk a b d)
        rcases List.mem_append.1 hn with hn | hn
        · exact d n hn j hj
        · obtain rfl := List.mem_singleton.1 hn
          intro e1
          have := congrArg Addr.block e1
          simp at this
          omega
      · exact (F3.frozen k (by omega) a).trans (F2.frozen k hk a)
    · rcases List.mem_append.1 (trim_sub _ _ hn) with hn | hn
      · exact .inl ⟨n, hn, rfl⟩
      · obtain rfl := List.mem_singleton.1 hn
        right
        show w.heap.size ≤ w.heap.size + 1
        omega

end Go.Proofs.YbulkeahyFmtR
