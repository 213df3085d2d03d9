/-
  tableOf.
-/
import Derived.Test.YbulkeahyFmtRModel
import Derived.Carry
namespace Go.Proofs.YbulkeahyFmtR
open Go.RowKit

theorem trim_snoc {α : Type} (lim : Int) (X : List α) (y : α) (h0 : 0 ≤ lim) : trim lim (trim lim X ++ [y]) = trim lim (X ++ [y]) := by
  unfold trim
  by_cases hz : lim = 0
  · rw [if_pos hz, if_pos hz, if_pos hz]
  · rw [if_neg hz, if_neg hz, if_neg hz]
    have hp : 1 ≤ lim.toNat := by omega
    generalize lim.toNat = l at hp
    simp only [List.length_append, List.length_drop, List.length_cons, List.length_nil]
    by_cases hx : X.length ≤ l
    · rw [show X.length - l = 0 by omega]; rfl
    · rw [List.drop_append_of_le_length (by rw [List.length_drop]; omega), List.drop_append_of_le_length (by omega), List.drop_drop]
      congr 2
      omega
theorem trim_last {α : Type} (lim : Int) (X : List α) (y : α) (h0 : 0 ≤ lim) : y ∈ trim lim (X ++ [y]) := by
  unfold trim
  by_cases hz : lim = 0
  · rw [if_pos hz]; simp
  · rw [if_neg hz, List.drop_append_of_le_length (by simp; omega)]; simp

/-- The entries as the law lays them: one behind the other in one row. -/
structure Ents (w : World) (g : Nat) (E : List Nd) : Prop where
  at_ : ∀ k e, E[k]? = some e → e.b = g ∧ e.o = k * 5
  dat : ∀ e ∈ E, Dat w e ∧ w.cell? ⟨e.b, e.o + 3, none⟩ = some (.pointer none) ∧ w.cell? ⟨e.b, e.o + 4, none⟩ = some (.pointer none)
  ord : ∀ k d e, E[k]? = some d → E[k + 1]? = some e → d.f ≤ e.f
  uniq : E.Pairwise (fun n m => n.c ≠ m.c)
  num : ∀ e ∈ E, 0 ≤ e.f ∧ e.f ≤ 18446744073709551615

theorem Ents.far {w : World} {g : Nat} {E : List Nd} (h : Ents w g E) : E.Pairwise Far := by
  rw [List.pairwise_iff_getElem]
  intro i j hi hj hij e
  have a := h.at_ i _ (List.getElem?_eq_getElem hi)
  have b := h.at_ j _ (List.getElem?_eq_getElem hj)
  simp only [Prod.mk.injEq] at e
  omega

theorem make47 (n : Int) (w : World) : (Instr.makeMap 47 (some (.int .i64 n))).run Ybaf.prog w = .ok (.map (some w.heap.size)) (w.alloc (.map #[] 0)) := by
  simp [Instr.makeMap, run_underlying Ybaf.underlying47, asInt, asIntOf, Result.andThen]

def TPost (w : World) (lim : Int) (E : List Nd) (e : Ending) (w' : World) : Prop :=
  e = .returned (.tuple #[.pointer (some ⟨w.heap.size + 1, 0, none⟩), .nilIface]) ∧ Tab w' (w.heap.size + 1) w.heap.size lim (trim lim E) ∧ Fr (w.heap.size + 1) w.heap.size E w w'

theorem tab_new (w : World) (lim : Int) : Tab ((w.alloc (.map #[] 0)).alloc (.cells #[.int .u64 lim, .map (some w.heap.size), .pointer none, .pointer none] 49)) (w.heap.size + 1) w.heap.size lim [] := by
  have o := w.ownsMap_made Ybaf.prog 9 Rp
  have hs : w.heap.size < (w.alloc (.map #[] 0)).heap.size := by simp
  exact ⟨by simp, by simp, by simp, by simp, ⟨trivial, by simp [hd, pv], by simp [lst, pv]⟩, ⟨by simp, by simp, by simp⟩, by simp, by simp, .map [], own_block o (alloc_old _ _ _ hs), rfl, by simp [Maps.has], by simp⟩

set_option maxRecDepth 100000 in
set_option maxHeartbeats 1000000 in
theorem tableOf_any (g n cap : Nat) (lim : Int) (E : List Nd) (w : World) (h0 : 0 ≤ lim) (h1 : lim ≤ 18446744073709551615) (hE : Hid (n = E.length)) (hn : n ≤ 100000) (hg : g < w.heap.size) (H : Ents w g E) :
    Calls Ybaf.prog 6 #[.int .u64 lim, .slice (some ⟨g, 0, none⟩) n cap] w (TPost w lim E) := by
  have HH : Hid (Ents w g E) := H
  clear H
  go_enter Ybaf.func6, Ybaf.ntmps6
  have hmk := make47 n w
  go_wp2
  have T0 := tab_new w lim
  have F0 : Fr (w.heap.size + 1) w.heap.size [] w ((w.alloc (.map #[] 0)).alloc (.cells #[.int .u64 lim, .map (some w.heap.size), .pointer none, .pointer none] 49)) := (Fr.alloc _ _ _ w _).trans (Fr.alloc _ _ _ _ _)
  clear hmk
  go_loopw [19] (fun i wr => ∃ k : Nat, k ≤ n ∧ i = .int .i64 k ∧ Tab wr (w.heap.size + 1) w.heap.size lim (trim lim (E.take k)) ∧ Fr (w.heap.size + 1) w.heap.size (E.take k) w wr) (fun i _ => n - (intOf i).toNat)
  case atStart => exact ⟨0, Nat.zero_le _, rfl, by have e : trim lim (E.take 0) = [] := by simp [trim]
                                                   rw [e]; exact T0, F0⟩
  case round =>
    clear T0 F0
    obtain ⟨k, hk, rfl, T, F⟩ := hrel
    have hs := F.size
    by_cases hlt : k < n
    · obtain ⟨e, HX⟩ : ∃ e, Hid (E[k]? = some e) := ⟨E[k]'(by have := hE.out; omega), List.getElem?_eq_getElem _⟩
      have eE : e ∈ E := List.mem_of_getElem? HX.out
      have HT : Hid (E.take (k + 1) = E.take k ++ [e]) := by show _ = _; rw [List.take_add_one, HX.out]; rfl
      obtain ⟨eb, eo⟩ := HH.out.at_ k e HX.out
      have far0 := HH.out.far
      have unq0 := HH.out.uniq
      rw [← List.take_append_drop (k + 1) E, HT.out] at far0 unq0
      have far1 := (List.pairwise_append.1 far0).1
      have unq1 := (List.pairwise_append.1 unq0).1
      have far2 : ∀ d ∈ E.take k, Far d e := fun d hd => (List.pairwise_append.1 far1).2.2 d hd e (by simp)
      have unq2 : ∀ d ∈ E.take k, d.c ≠ e.c := fun d hd => (List.pairwise_append.1 unq1).2.2 d hd e (by simp)
      have five : ∀ d ∈ E, d.o % 5 = 0 := fun d hd => by
        obtain ⟨j, hj, rfl⟩ := List.getElem_of_mem hd
        have := (HH.out.at_ j _ (List.getElem?_eq_getElem hj)).2
        omega
      have inE : ∀ d ∈ E.take k, d ∈ E := fun d hd => List.mem_of_mem_take hd
      obtain ⟨de, p3, p4⟩ := HH.out.dat e eE
      have same : ∀ j, j < 5 → wr.cell? ⟨e.b, e.o + j, none⟩ = w.cell? ⟨e.b, e.o + j, none⟩ := fun j hj =>
        F.cell ⟨e.b, e.o + j, none⟩ (by show e.b < _; omega) (by show e.b ≠ _; omega) (by show e.b ≠ _; omega) fun d hd i hi => addr_ne (.inl (far2 d hd).symm) (five e eE) (five d (inE d hd)) hj hi
      have dr : Dat wr e := ⟨(same 0 (by decide)).trans de.c, (same 1 (by decide)).trans de.q, (same 2 (by decide)).trans de.f, fun j hj => (F.frozen ⟨e.b, e.o + j, none⟩ (by show e.b < _; omega) (by show e.b ≠ _; omega)).trans (de.fz j hj), de.len⟩
      have q3 := (same 3 (by decide)).trans p3
      have q4 := (same 4 (by decide)).trans p4
      obtain ⟨D, M⟩ := T.map
      have nh : Maps.has D (kl e.c) = false := by
        cases hh : Maps.has D (kl e.c)
        · rfl
        · obtain ⟨d, hd, hc⟩ := M.back _ hh
          exact absurd hc (unq2 d (trim_sub _ _ hd))
      obtain ⟨v, hr⟩ : ∃ v, ∀ n', (Instr.lookup 47 (.map (some w.heap.size)) (.string e.c) true).run Ybaf.prog (wr.drewN n') = .ok (.tuple #[v, .bool false]) (wr.drewN n') := by
        refine ⟨.pointer none, fun n' => ?_⟩
        obtain ⟨v, ps, hrun, hv⟩ := (Go.Proofs.YbulkeahyFmtR.own_block (w' := wr.drewN n') M.own rfl).look_ok keyed9 Ybaf.underlying47 (e := 31) (z := .pointer none) (by kernel_rfl) (zd := .nil) (zp := []) rfl (key9 de.len)
        rw [nh] at hrun
        rw [Maps.atKey_of_not_has nh] at hv
        obtain rfl : v = .pointer none := by
          cases v with
          | pointer a => cases a with
            | none => rfl
            | some a => simp [Rp] at hv
          | _ => simp [Rp] at hv
        exact hrun
      have hn0 := HH.out.num e eE
      obtain ⟨hf0, hf1⟩ := hn0
      have c1 := T.byid
      have r0 := dr.c
      have r2 := dr.f
      rw [eb, eo] at r0 r2
      have hki : (k : Int) < (n : Int) := by omega
      have hgw : g < wr.heap.size := by omega
      have htw : w.heap.size + 1 < wr.heap.size := World.block_lt_of_cell? _ _ T.lim
      have HD : Hid (Dat wr e) := dr
      have HA : Hid ((∀ d ∈ E.take k, Far d e) ∧ (∀ d ∈ E.take k, d.c ≠ e.c) ∧ (∀ d ∈ E, d.o % 5 = 0) ∧ E.Pairwise Far) := ⟨far2, unq2, five, HH.out.far⟩
      have HB : Hid (wr.cell? ⟨e.b, e.o + 3, none⟩ = some (.pointer none) ∧ wr.cell? ⟨e.b, e.o + 4, none⟩ = some (.pointer none)) := ⟨q3, q4⟩
      have HE : Hid (e.b = g ∧ e.o = k * 5) := ⟨eb, eo⟩
      have HI : Hid (e ∈ E) := eE
      clear far0 unq0 far1 unq1 far2 unq2 five inE same dr q3 q4 de p3 p4 nh M eE eb eo
      have fin : ∀ q, Calls Ybaf.prog 10 #[.pointer (some ⟨w.heap.size + 1, 0, none⟩), .pointer (some ⟨g, k * 5, none⟩)] (wr.drewN q) fun x w' =>
          x = .returned (.tuple #[]) ∧ Hid (Tab w' (w.heap.size + 1) w.heap.size lim (trim lim (E.take (k + 1))) ∧ Fr (w.heap.size + 1) w.heap.size (E.take (k + 1)) w w') := by
        intro q
        obtain ⟨far2, unq2, five, farE⟩ := HA.out
        obtain ⟨eb, eo⟩ := HE.out
        have TQ : Tab (wr.drewN q) (w.heap.size + 1) w.heap.size lim (trim lim (E.take k)) := T.later fun _ _ => rfl
        have DQ : Dat (wr.drewN q) e := Dat.later (w := wr) (w' := wr.drewN q) (fun _ _ => rfl) HD.out
        have inE : ∀ d ∈ E.take k, d ∈ E := fun d hd => List.mem_of_mem_take hd
        have gd : Good (w.heap.size + 1) (trim lim (E.take k) ++ [e]) := by
          refine ⟨fun d hd => ?_, fun d hd => ?_, List.pairwise_append.2 ⟨T.good.far, by simp, fun a ha b hb => ?_⟩⟩
          · rcases List.mem_append.1 hd with hd | hd
            · exact T.good.five d hd
            · obtain rfl := List.mem_singleton.1 hd
              exact five d HI.out
          · rcases List.mem_append.1 hd with hd | hd
            · exact T.good.off d hd
            · obtain rfl := List.mem_singleton.1 hd
              rw [eb]; omega
          · obtain rfl := List.mem_singleton.1 hb
            exact far2 a (trim_sub _ _ ha)
        have hl : (trim lim (E.take k)).length < 1000000 := by
          have := trim_le lim (E.take k)
          rw [List.length_take] at this
          omega
        have A := add_any (w.heap.size + 1) w.heap.size lim (trim lim (E.take k)) e (wr.drewN q) h0 h1 TQ hl gd (fun d hd => unq2 d (trim_sub _ _ hd)) DQ _ _ HB.out.1 HB.out.2
        rw [eb, eo] at A
        refine A.mono ?_
        rintro x w' ⟨rfl, T2, F2⟩
        refine ⟨rfl, ?_, ?_⟩
        · rw [HT.out, ← trim_snoc _ _ _ h0]; exact T2
        · have f1 : Fr (w.heap.size + 1) w.heap.size (E.take (k + 1)) w (wr.drewN q) := (F.mono fun d hd => ⟨d, by rw [HT.out]; simp [hd], rfl, rfl⟩).trans ⟨rfl, rfl, rfl, Nat.le_refl _, fun _ _ _ _ _ => rfl, fun _ _ _ _ _ => rfl, fun _ _ _ => rfl⟩
          refine f1.trans (F2.mono fun d hd => ⟨d, ?_, rfl, rfl⟩)
          rw [HT.out]
          rcases List.mem_append.1 hd with hd | hd
          · simp [trim_sub _ _ hd]
          · simp [List.mem_singleton.1 hd]
      by_cases hz : k = 0
      · have gz : decide (0 < k) = false := by simp [hz]
        clear hz
        go_wp2
        go_quiet (fail)
        go_wp2
        go_quiet (fail)
        go_wp2_with fail
        refine (fin _).mono ?_
        rintro x w1 ⟨rfl, HR⟩
        go_wp2
        go_roundw
        case rel => exact ⟨k + 1, by omega, by go_num, HR.out.1, HR.out.2⟩
        case measure => simp [intOf]; omega
      · obtain ⟨j, rfl⟩ : ∃ j, k = j + 1 := ⟨k - 1, by omega⟩
        obtain ⟨d, HDx⟩ : ∃ d, Hid (E[j]? = some d) := ⟨E[j]'(by have := hE.out; omega), List.getElem?_eq_getElem _⟩
        have dm : d ∈ trim lim (E.take (j + 1)) := by
          rw [List.take_add_one, HDx.out]
          exact trim_last _ _ _ h0
        have dd := (T.dat d dm).f
        obtain ⟨db, do_⟩ := HH.out.at_ j d HDx.out
        rw [db, do_] at dd
        have hle := HH.out.ord j d e HDx.out HX.out
        obtain ⟨hd0, hd1⟩ := HH.out.num d (List.mem_of_getElem? HDx.out)
        clear dm db do_ hz
        go_wp2
        go_quiet (fail)
        go_wp2
        go_quiet (fail)
        go_wp2_with fail
        refine (fin _).mono ?_
        rintro x w1 ⟨rfl, HR⟩
        go_wp2
        go_roundw
        case rel => exact ⟨j + 1 + 1, by omega, by go_num, HR.out.1, HR.out.2⟩
        case measure => simp [intOf]; omega
    · have eE : E.take k = E := List.take_of_length_le (by have := hE.out; omega)
      rw [eE] at T F
      go_wp2
      go_ret2
      exact ⟨rfl, T, F⟩

end Go.Proofs.YbulkeahyFmtR
