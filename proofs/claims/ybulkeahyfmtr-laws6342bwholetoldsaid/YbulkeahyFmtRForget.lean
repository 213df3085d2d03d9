/-
  THE METHODS forget, add, renew AND put.
-/
import Derived.Test.YbulkeahyFmtRTab
import Derived.Deep.RegionLaw
namespace Go.Proofs.YbulkeahyFmtR
open Go.RowKit

def trim {α : Type} (lim : Int) (X : List α) : List α := if lim = 0 then X else X.drop (X.length - lim.toNat)

def mapLen (w : World) (mb : Nat) : Nat := match w.heap[mb]? with | some (.map es _) => es.size | _ => 0
theorem mapLen_eq {w : World} {mb : Nat} {L : List Nd} {D : DataW Addr} (h : MapIs w mb L D) : mapLen w mb = L.length := by
  have hs := h.size
  obtain ⟨es, clock, hb, F, _, rfl⟩ := h.own
  rw [← hs]
  simp [mapLen, hb, Maps.size, length_sorted]

theorem cell_at {w w' : World} (h : ∀ k, k < w.heap.size → w'.heap[k]? = w.heap[k]?) {a : Addr} {v : Value} (c : w.cell? a = some v) : w'.cell? a = some v := by
  rw [World.cell?_of_block (h a.block (World.block_lt_of_cell? _ _ c))]; exact c
theorem seg_later {w w' : World} (h : ∀ k, k < w.heap.size → w'.heap[k]? = w.heap[k]?) {p q : Option (Nat × Nat)} {L : List Nd} (s : Seg w p L q) : Seg w' p L q := by
  induction L generalizing p with
  | nil => trivial
  | cons n L ih => exact ⟨cell_at h s.1, cell_at h s.2.1, ih s.2.2⟩
theorem Dat.later {w w' : World} (h : ∀ k, k < w.heap.size → w'.heap[k]? = w.heap[k]?) {n : Nd} (d : Dat w n) : Dat w' n :=
  ⟨cell_at h d.c, cell_at h d.q, cell_at h d.f, fun j hj => (World.frozen?_of_block (h n.b (World.block_lt_of_cell? _ _ d.c))).trans (d.fz j hj), d.len⟩
theorem own_lt {w : World} {mb n : Nat} {D : DataW Addr} (h : w.ownsMap Ybaf.prog 9 Rp mb n D) : mb < w.heap.size := by
  obtain ⟨es, clock, hb, _⟩ := h
  exact (Array.getElem?_eq_some_iff.1 hb).1
theorem Tab.later {w w' : World} {tb mb : Nat} {lim : Int} {L : List Nd} (T : Tab w tb mb lim L) (h : ∀ k, k < w.heap.size → w'.heap[k]? = w.heap[k]?) : Tab w' tb mb lim L := by
  have ht : tb < w.heap.size := World.block_lt_of_cell? _ _ T.lim
  obtain ⟨D, M⟩ := T.map
  exact ⟨cell_at h T.lim, cell_at h T.byid, (World.frozen?_of_block (h _ ht)).trans T.g2, (World.frozen?_of_block (h _ ht)).trans T.g3, ⟨seg_later h T.lnk.seg, cell_at h T.lnk.old, cell_at h T.lnk.new⟩, T.good,
    fun n hn => (T.dat n hn).later h, T.uniq, D, M.block (h _ (own_lt M.own))⟩

theorem step_delete {P : Program} {ops : Array Oper} {o : Oper} {a : Act} {w w2 : World} {K : Act → World → Prop} {Q : Exit → Act → World → Prop} {E : Prop} {t k : TypeId}
    (hg : o.guard = none) (m x : Operand) (hop : o.op = Op.call { callee := Callee.builtin Builtin.delete, args := #[m, x], argTypes := #[t, k] }) (b : Nat) (key : Value) (hm : a.eval m = .map (some b)) (hx : a.eval x = key)
    (hrun : (Builtin.delete_ #[t, k] o.type #[.map (some b), key]).run P w = .ok (.tuple #[]) w2) (hK : K (a.put o.dst (.tuple #[])) w2) :
    if Region.wanted o (yielded ops a.tmps) = true then Oper.wp P o a w K Q else E := by
  have hw : Region.wanted o (yielded ops a.tmps) = true := by simp [Region.wanted, hg]
  rw [if_pos hw]
  unfold Oper.wp
  simp [execOp, hop, resolve, invoke, builtin, hm, hx, hrun, Result.andThen]
  exact hK
theorem quiet_maplen {P : Program} {o : Oper} {a : Act} {C : World → Prop} {K : Act → Prop} (x : Operand) (t : TypeId) (hop : o.op = Op.call { callee := Callee.builtin Builtin.len, args := #[x], argTypes := #[t] }) (b : Nat) (v : Value)
    (hx : a.eval x = .map (some b)) (h : ∀ w, C w → (Builtin.len_ #[t] o.type #[.map (some b)]).run P w = .ok v w) (hk : K (a.put o.dst v)) : o.quiet P a C K := by
  refine ⟨v, fun w hw => ?_, hk⟩
  unfold Oper.quietAt
  simp [execOp, hop, resolve, invoke, builtin, hx, h w hw, Result.andThen, Oper.quietUpon]

theorem upd_clear (w : World) (b o : Nat) (v0 v1 v2 v3 v4 : Value) (k0 : w.cell? ⟨b, o, none⟩ = some v0) (k1 : w.cell? ⟨b, o + 1, none⟩ = some v1) (k2 : w.cell? ⟨b, o + 2, none⟩ = some v2) (k3 : w.cell? ⟨b, o + 3, none⟩ = some v3) (k4 : w.cell? ⟨b, o + 4, none⟩ = some v4) (u0 u1 u2 u3 u4 : Value) :
    Upd w (((((w.setCell ⟨b, o, none⟩ u0).setCell ⟨b, o + 1, none⟩ u1).setCell ⟨b, o + 2, none⟩ u2).setCell ⟨b, o + 3, none⟩ u3).setCell ⟨b, o + 4, none⟩ u4)
      [(⟨b, o + 4, none⟩, u4), (⟨b, o + 3, none⟩, u3), (⟨b, o + 2, none⟩, u2), (⟨b, o + 1, none⟩, u1), (⟨b, o, none⟩, u0)] := by
  have U0 := upd_set w b o u0 v0 k0
  have U1 := U0.set b (o + 1) u1 v1 (by rw [U0.cell]; simp [behind, k1])
  have U2 := U1.set b (o + 2) u2 v2 (by rw [U1.cell]; simp [behind, k2])
  have U3 := U2.set b (o + 3) u3 v3 (by rw [U2.cell]; simp [behind, k3])
  exact U3.set b (o + 4) u4 v4 (by rw [U3.cell]; simp [behind, k4])

/-- The table behind one turn of forget. -/
theorem forget_plain {w w1 w2 w3 : World} {tb mb : Nat} {lim : Int} {e : Nd} {C : List Nd} {D : DataW Addr} {ws wr : List (Addr × Value)} {n : Nat} (T : Tab w tb mb lim (e :: C)) (M : MapIs w mb (e :: C) D)
    (U : Upd w w1 ws) (hl : ∀ y ∈ ws, LinkCell tb C y.1) (LK : Lnk w1 tb C) (o2 : w2.ownsMap Ybaf.prog 9 Rp mb n (D.del (kl e.c))) (F2 : Fr tb mb [] w1.drew w2) (tu : w1.drew.mapTurned w2 mb)
    (U3 : Upd w2 w3 wr) (h3 : ∀ x ∈ wr, ∃ j, j < 5 ∧ x.1 = ⟨e.b, e.o + j, none⟩) : Tab w3 tb mb lim C ∧ Fr tb mb (e :: C) w w3 ∧ MapIs w3 mb C (D.del (kl e.c)) := by
  have eC : ∀ n ∈ C, Far e n := (List.pairwise_cons.1 T.good.far).1
  have ot : ∀ n ∈ C, n.b ≠ tb := fun n hn => T.good.off n (by simp [hn])
  have om : ∀ n ∈ C, n.b ≠ mb := fun n hn => own_off M.own (T.dat n (by simp [hn])).c
  have tm : tb ≠ mb := own_off M.own T.lim
  have em : e.b ≠ mb := own_off M.own (T.dat e (by simp)).c
  have five : ∀ n ∈ C, n.o % 5 = 0 := fun n hn => T.good.five n (by simp [hn])
  have fe := T.good.five e (by simp)
  have hs : w1.heap.size = w.heap.size := U.size
  have ct : ∀ j, w3.cell? ⟨tb, j, none⟩ = w1.cell? ⟨tb, j, none⟩ := by
    intro j
    rw [U3.miss _ fun x hx => by obtain ⟨i, _, q⟩ := h3 x hx; rw [q]; exact (tab_ne (T.good.off e (by simp))).symm]
    obtain ⟨es, clock, es', clock', hb, rfl⟩ := tu
    exact World.cell?_of_block (ChangeMaps.heap_setBlock_other hb _ tm)
  have cn : ∀ n ∈ C, ∀ j, j < 5 → w3.cell? ⟨n.b, n.o + j, none⟩ = w1.cell? ⟨n.b, n.o + j, none⟩ := by
    intro n hn j hj
    rw [U3.miss _ fun x hx => by obtain ⟨i, hi, q⟩ := h3 x hx; rw [q]; exact addr_ne (.inl (eC n hn).symm) (five n hn) fe hj hi]
    obtain ⟨es, clock, es', clock', hb, rfl⟩ := tu
    exact World.cell?_of_block (ChangeMaps.heap_setBlock_other hb _ (om n hn))
  have fr : ∀ a, w3.frozen? a = w.frozen? a := fun a => (U3.frozen a).trans ((tu.frozen a).trans (U.frozen a))
  have M3 : MapIs w3 mb C (D.del (kl e.c)) := by
    have : MapIs w2 mb ([] ++ C) (D.del (kl e.c)) := MapIs.drop (A := []) M (fun n hn => ((List.pairwise_cons.1 T.uniq).1 n hn).symm) o2
    exact MapIs.block this (U3.block mb fun x hx q => by obtain ⟨i, _, q'⟩ := h3 x hx; rw [q'] at q; exact em q)
  refine ⟨⟨?_, ?_, (fr _).trans T.g2, (fr _).trans T.g3, ⟨?_, (ct 2).trans LK.old, (ct 3).trans LK.new⟩, ⟨five, ot, (List.pairwise_cons.1 T.good.far).2⟩, ?_, (List.pairwise_cons.1 T.uniq).2, _, M3⟩, ?_, M3⟩
  · exact ((ct 0).trans (cell_link U hl ot (by decide))).trans T.lim
  · exact ((ct 1).trans (cell_link U hl ot (by decide))).trans T.byid
  · exact seg_frame (fun n hn => ⟨cn n hn 3 (by decide), cn n hn 4 (by decide)⟩) LK.seg
  · intro n hn
    have d := dat_link U hl five (five n hn) (ot n hn) (T.dat n (by simp [hn]))
    exact ⟨(cn n hn 0 (by decide)).trans d.c, (cn n hn 1 (by decide)).trans d.q, (cn n hn 2 (by decide)).trans d.f, fun j hj => (fr _).trans ((T.dat n (by simp [hn])).fz j hj), d.len⟩
  · have f0 : Fr tb mb (e :: C) w w1 := by
      refine Fr.of_upd U fun x hx => ?_
      rcases link_cells hl x hx with h | ⟨n, hn, r⟩
      · exact .inl h
      · exact .inr ⟨n, by simp [hn], r⟩
    have f1 : Fr tb mb (e :: C) w w1.drew := f0.trans ⟨rfl, rfl, rfl, Nat.le_refl _, fun _ _ _ _ _ => rfl, fun _ _ _ _ _ => rfl, fun _ _ _ => rfl⟩
    have f2 : Fr tb mb (e :: C) w1.drew w2 := F2.mono fun n hn => by cases hn
    have f3 : Fr tb mb (e :: C) w2 w3 := Fr.of_upd U3 fun x hx => .inr ⟨e, by simp, h3 x hx⟩
    exact (f1.trans f2).trans f3

theorem forget_any (tb mb : Nat) (lim : Int) (L : List Nd) (w : World) (h0 : 0 ≤ lim) (h1 : lim ≤ 18446744073709551615) (T : Tab w tb mb lim L) (hL : L.length ≤ 1000000) :
    Calls Ybaf.prog 15 #[.pointer (some ⟨tb, 0, none⟩)] w fun x w' =>
      x = .returned (.tuple #[]) ∧ Tab w' tb mb lim (trim lim L) ∧ Fr tb mb L w w' := by
  go_enter Ybaf.func15, Ybaf.ntmps15
  go_wp2
  go_loopw [] (fun wr => ∃ k : Nat, k ≤ L.length ∧ Tab wr tb mb lim (L.drop k) ∧ Fr tb mb L w wr ∧ Hid (k = 0 ∨ (0 < lim ∧ lim ≤ ((L.length - k : Nat) : Int)))) (fun wr => mapLen wr mb)
  case atStart => exact ⟨0, Nat.zero_le _, T, Fr.refl _ _ _ _, .inl rfl⟩
  case round =>
    obtain ⟨k, hk, T', F, hkk⟩ := hrel
    obtain ⟨D, M⟩ := T'.map
    have hlen : ∀ w', (∃ n, w' = wr.drewN n) → (Builtin.len_ #[47] 3 #[.map (some mb)]).run Ybaf.prog w' = .ok (.int .i64 ((L.length - k : Nat) : Int)) w' := by
      rintro w' ⟨n, rfl⟩
      have := (own_block (w' := wr.drewN n) M.own rfl).len (e := 31) Ybaf.underlying47 3
      rw [M.size, List.length_drop] at this
      exact this
    have c0 := T'.lim
    have c1 := T'.byid
    obtain ⟨m, hm⟩ : ∃ m : Nat, Hid (m = L.length - k) := ⟨_, rfl⟩
    rw [← hm.out] at hlen
    have hm1 : (m : Int) ≤ 1000000 := by have := hm.out; omega
    by_cases hz : lim = 0
    · subst hz
      have gz : decide ((0 : Int) < 0) = false := by decide
      go_wp2
      go_quiet (fail)
      go_wp2_with fail
      go_end0
      have e1 : trim 0 L = L.drop k := by
        unfold trim
        rw [if_pos rfl]
        rcases hkk.out with rfl | ⟨h2, _⟩
        · rfl
        · omega
      rw [e1]
      exact ⟨rfl, T'.later fun _ _ => rfl, F.trans ⟨rfl, rfl, rfl, Nat.le_refl _, fun _ _ _ _ _ => rfl, fun _ _ _ _ _ => rfl, fun _ _ _ => rfl⟩⟩
    · have hz' : 0 < lim := by omega
      by_cases hgt : lim < m
      · go_wp2
        refine wp_region_quiet_lit (by kernel_rfl) (by kernel_rfl) ?_
        repeat (go_big_quiet_step (fail))
        go_big_quiet_want
        refine quiet_maplen _ 47 rfl mb (.int .i64 (m : Int)) rfl hlen ?_
        simp only [Act.put, List.setIfInBounds_toArray, List.set_cons_succ, List.set_cons_zero]
        go_big_quiet_on
        repeat (go_big_quiet_step (fail))
        refine wpQuiet_nil ?_
        rintro _ ⟨nq, rfl⟩
        obtain ⟨e, C, hC⟩ : ∃ e C, L.drop k = e :: C := by
          cases hd : L.drop k with
          | nil => have := congrArg List.length hd; have := hm.out; simp at *; omega
          | cons e C => exact ⟨e, C, rfl⟩
        rw [hC] at T' M
        have TQ : Tab (wr.drewN nq) tb mb lim (e :: C) := T'.later fun _ _ => rfl
        have MQ : MapIs (wr.drewN nq) mb (e :: C) D := M.block rfl
        have c2 := T'.lnk.old
        simp only [hd, pv] at c2
        go_wp2_with fail
        refine (unlink_any tb [] C e _ TQ.lnk TQ.good (fun n hn => ⟨(TQ.dat n hn).fz 3 (by decide), (TQ.dat n hn).fz 4 (by decide)⟩) TQ.g2 TQ.g3).mono ?_
        rintro x w1 ⟨rfl, ws, U, hl, LK⟩
        rw [List.nil_append] at hl LK
        have b1 := (cell_link U hl (fun n hn => TQ.good.off n (by simp [hn])) (j := 1) (by decide)).trans TQ.byid
        have de : Dat w1 e := dat_link U hl (fun n hn => TQ.good.five n (by simp [hn])) (TQ.good.five e (by simp)) (TQ.good.off e (by simp)) (TQ.dat e (by simp))
        have bd := de.c
        have eC : ∀ n ∈ C, Far e n := (List.pairwise_cons.1 TQ.good.far).1
        have m34 : ∀ j, j < 5 → w1.cell? ⟨e.b, e.o + j, none⟩ = (wr.drewN nq).cell? ⟨e.b, e.o + j, none⟩ := by
          intro j hj
          refine U.miss _ fun x hx => ?_
          rcases hl x hx with q | q | ⟨n, hn, q | q⟩
          · rw [q]; exact tab_ne (TQ.good.off e (by simp))
          · rw [q]; exact tab_ne (TQ.good.off e (by simp))
          · rw [q]; exact addr_ne (.inl (eC n hn)) (TQ.good.five e (by simp)) (TQ.good.five n (by simp [hn])) hj (by decide)
          · rw [q]; exact addr_ne (.inl (eC n hn)) (TQ.good.five e (by simp)) (TQ.good.five n (by simp [hn])) hj (by decide)
        have d3 := (m34 3 (by decide)).trans TQ.lnk.seg.1
        have d4 := (m34 4 (by decide)).trans TQ.lnk.seg.2.1
        have mbo : ∀ x ∈ ws, x.1.block ≠ mb := by
          intro x hx
          rcases hl x hx with q | q | ⟨n, hn, q | q⟩
          · rw [q]; exact own_off MQ.own TQ.lim
          · rw [q]; exact own_off MQ.own TQ.lim
          · rw [q]; exact own_off MQ.own (TQ.dat n (by simp [hn])).c
          · rw [q]; exact own_off MQ.own (TQ.dat n (by simp [hn])).c
        have M1 : MapIs w1.drew mb (e :: C) D := MQ.block (U.block mb mbo)
        obtain ⟨w2, hrun, o2, tu⟩ := M1.own.drop keyed9 Ybaf.underlying47 (key9 de.len) 0
        have F2 : Fr tb mb [] w1.drew w2 := Fr.of_turned tu
        have eb : e.b ≠ mb := own_off MQ.own (TQ.dat e (by simp)).c
        have et : e.b ≠ tb := TQ.good.off e (by simp)
        have es : e.b < w1.drew.heap.size := World.block_lt_of_cell? _ _ bd
        have k0 := (F2.cell ⟨e.b, e.o, none⟩ es et eb (by simp)).trans de.c
        have k1 := (F2.cell ⟨e.b, e.o + 1, none⟩ es et eb (by simp)).trans de.q
        have k2 := (F2.cell ⟨e.b, e.o + 2, none⟩ es et eb (by simp)).trans de.f
        have k3 := (F2.cell ⟨e.b, e.o + 3, none⟩ es et eb (by simp)).trans d3
        have k4 := (F2.cell ⟨e.b, e.o + 4, none⟩ es et eb (by simp)).trans d4
        have z0 := (F2.frozen ⟨e.b, e.o, none⟩ es eb).trans (de.fz 0 (by decide))
        have z1 := (F2.frozen ⟨e.b, e.o + 1, none⟩ es eb).trans (de.fz 1 (by decide))
        have z2 := (F2.frozen ⟨e.b, e.o + 2, none⟩ es eb).trans (de.fz 2 (by decide))
        have z3 := (F2.frozen ⟨e.b, e.o + 3, none⟩ es eb).trans (de.fz 3 (by decide))
        have z4 := (F2.frozen ⟨e.b, e.o + 4, none⟩ es eb).trans (de.fz 4 (by decide))
        go_wp2_with fail
        go_region_law (refine step_delete rfl (.tmp 31) (.tmp 35) rfl mb (.string e.c) (by simp [Act.eval]) (by simp [Act.eval]) hrun ?_)
        go_wp2_with fail
        all_goals
          have U3 := upd_clear w2 e.b e.o _ _ _ _ _ k0 k1 k2 k3 k4 (Value.string { data := #[] }) (Value.int IntKind.u64 0) (Value.int IntKind.u64 0) (Value.pointer none) (Value.pointer none)
          obtain ⟨T3, F3, M3⟩ := forget_plain TQ MQ U hl LK o2 F2 tu U3 (by
            intro x hx
            simp at hx
            rcases hx with rfl | rfl | rfl | rfl | rfl
            · exact ⟨4, by decide, rfl⟩
            · exact ⟨3, by decide, rfl⟩
            · exact ⟨2, by decide, rfl⟩
            · exact ⟨1, by decide, rfl⟩
            · exact ⟨0, by decide, rfl⟩)
          have hC1 : L.drop (k + 1) = C := by rw [← List.drop_drop, hC]; rfl
          have hm2 := hm.out
          have FQ : Fr tb mb L wr (wr.drewN nq) := ⟨rfl, rfl, rfl, Nat.le_refl _, fun _ _ _ _ _ => rfl, fun _ _ _ _ _ => rfl, fun _ _ _ => rfl⟩
          refine ⟨⟨k + 1, by omega, by rw [hC1]; exact T3, (F.trans FQ).trans (F3.mono fun n hn => ⟨n, List.mem_of_mem_drop (i := k) (by rw [hC]; exact hn), rfl, rfl⟩), .inr ⟨hz', by omega⟩⟩, ?_⟩
          rw [mapLen_eq M3, mapLen_eq M]
          simp
      · go_wp2
        refine wp_region_quiet_lit (by kernel_rfl) (by kernel_rfl) ?_
        repeat (go_big_quiet_step (fail))
        go_big_quiet_want
        refine quiet_maplen _ 47 rfl mb (.int .i64 (m : Int)) rfl hlen ?_
        simp only [Act.put, List.setIfInBounds_toArray, List.set_cons_succ, List.set_cons_zero]
        go_big_quiet_on
        repeat (go_big_quiet_step (fail))
        refine wpQuiet_nil ?_
        rintro _ ⟨nq, rfl⟩
        go_wp2_with fail
        go_end0
        have hm2 := hm.out
        have e1 : trim lim L = L.drop k := by
          unfold trim
          rw [if_neg hz]
          rcases hkk.out with rfl | ⟨_, h2⟩
          · congr 1; omega
          · congr 1; omega
        rw [e1]
        exact ⟨rfl, T'.later fun _ _ => rfl, F.trans ⟨rfl, rfl, rfl, Nat.le_refl _, fun _ _ _ _ _ => rfl, fun _ _ _ _ _ => rfl, fun _ _ _ => rfl⟩⟩

end Go.Proofs.YbulkeahyFmtR
