/-
  THE WALK OF '(*Log).notBefore'.
-/
import Derived.Test.YbulkeahkSmall
import Derived.Test.YbulkeahkPlain
namespace Go.Proofs.Ybulkeahk
open Go.RowKit Go.Deep

/-- WHAT notBefore READS: the counts, the ids, the entries, the event, the clocks. -/
structure NbAt (w : World) (rb ab mb blk evb h nr lo len : Nat) (e : Int) (host own : Int) (A M : Nat → Int) (R C : Nat → Ent) : Prop where
  at_ : ∀ j, j < h → w.cell? ⟨ab, j, none⟩ = some (.int .u64 (A j))
  met : ∀ j, j < h → w.cell? ⟨mb, j, none⟩ = some (.int .i64 (M j))
  ris : EntsAt w rb 0 R nr
  clk : EntsAt w blk lo C len
  evh : w.cell? ⟨evb, e.toNat * 5, none⟩ = some (.int .u32 host)
  evo : w.cell? ⟨evb, e.toNat * 5 + 2, none⟩ = some (.int .u64 own)
theorem NbAt.later {w w' : World} {rb ab mb blk evb h nr lo len : Nat} {e host own : Int} {A M : Nat → Int} {R C : Nat → Ent} (N : NbAt w rb ab mb blk evb h nr lo len e host own A M R C) (hb : Below w.heap.size w w') :
    NbAt w' rb ab mb blk evb h nr lo len e host own A M R C :=
  ⟨fun j hj => cell_later hb (N.at_ j hj), fun j hj => cell_later hb (N.met j hj), N.ris.later hb, N.clk.later hb, cell_later hb N.evh, cell_later hb N.evo⟩

def entObj (z : Ent) : Obj := .cells #[.int .i64 z.h, .int .u64 z.n] 64
def zeroP : Obj := .cells #[.int .i64 0, .int .i64 0, .int .i64 0, .int .u8 0] 60

theorem ret_u64 {a b : Int} (h : a = b) : Value.int .u64 a = .int .u64 b := by rw [h]
theorem ent_store {W : World} {g : Nat} {m z : Ent} (h : W.heap[g]? = some (entObj m)) :
    ((W.setCell ⟨g, 0, none⟩ (.int .i64 z.h)).setCell ⟨g, 1, none⟩ (.int .u64 z.n)).heap[g]? = some (entObj z) ∧ ∀ i, i ≠ g → ((W.setCell ⟨g, 0, none⟩ (.int .i64 z.h)).setCell ⟨g, 1, none⟩ (.int .u64 z.n)).heap[i]? = W.heap[i]? := by
  refine ⟨?_, fun i hi => ?_⟩
  · unfold entObj at h ⊢
    rw [setCell_eq_setRow W g 0 _ 64 (0, 0) _ h]
    rw [setCell_eq_setRow _ g 1 _ 64 (0, 0) _ (setRow_heap W g _ _ 64 _ h)]
    rw [setRow_heap _ g _ _ 64 _ (setRow_heap W g _ _ 64 _ h)]
    rfl
  · rw [Below.heap_setCell _ _ _ _ (by simpa using hi), Below.heap_setCell _ _ _ _ (by simpa using hi)]
/-- Behind the test, nothing stored: what the rest of the round wants of the world. -/
structure Rest (w wr wq : World) (m z : Ent) (evb eo : Nat) (host : Int) : Prop where
  more : Hid (wq.heap[w.heap.size + 1]? = some (entObj m))
  res : Hid (wq.heap[w.heap.size]? = some zeroP)
  bel : Below w.heap.size w wq
  ev : wq.cell? ⟨evb, eo, none⟩ = some (.int .u32 host)
  en0 : wq.cell? ⟨wr.heap.size, 0, none⟩ = some (.int .i64 z.h)
  en1 : wq.cell? ⟨wr.heap.size, 1, none⟩ = some (.int .u64 z.n)
theorem rest_keep {w wr : World} {m z : Ent} {evb eo q : Nat} {host : Int} (hs : w.heap.size + 1 < wr.heap.size) (HM : wr.heap[w.heap.size + 1]? = some (entObj m)) (HP : wr.heap[w.heap.size]? = some zeroP) (hB : Below w.heap.size w wr) (ce : wr.cell? ⟨evb, eo, none⟩ = some (.int .u32 host)) :
    Rest w wr ((wr.alloc (.cells #[.int .i64 z.h, .int .u64 z.n] 64)).drewN q) m z evb eo host := by
  refine ⟨(Below.heap_alloc wr _ _ hs).trans HM, (Below.heap_alloc wr _ _ (by omega)).trans HP, below_drewN (hB.alloc (by omega) _) q, cell_later (below_drewN ((Below.refl _ _).alloc (Nat.le_refl _) _) q) ce, ?_, ?_⟩
  · show (wr.alloc _).cell? _ = _; simp
  · show (wr.alloc _).cell? _ = _; simp
theorem rest_take {w wr : World} {m z : Ent} {evb eo q : Nat} {host : Int} (hs : w.heap.size + 1 < wr.heap.size) (HM : wr.heap[w.heap.size + 1]? = some (entObj m)) (HP : wr.heap[w.heap.size]? = some zeroP) (hB : Below w.heap.size w wr) (ce : wr.cell? ⟨evb, eo, none⟩ = some (.int .u32 host)) (hev : evb ≠ w.heap.size + 1) :
    Rest w wr ((((wr.alloc (.cells #[.int .i64 z.h, .int .u64 z.n] 64)).drewN q).setCell ⟨w.heap.size + 1, 0, none⟩ (.int .i64 z.h)).setCell ⟨w.heap.size + 1, 1, none⟩ (.int .u64 z.n)) z z evb eo host := by
  have R := rest_keep (z := z) (q := q) hs HM HP hB ce
  have S := ent_store (z := z) R.more.out
  refine ⟨S.1, (S.2 _ (by omega)).trans R.res.out, (R.bel.setCell (by simp) _).setCell (by simp) _, (World.cell?_of_block (S.2 _ hev)).trans R.ev, (World.cell?_of_block (S.2 _ (by simp; omega))).trans R.en0, (World.cell?_of_block (S.2 _ (by simp; omega))).trans R.en1⟩

theorem heap2_new (w : World) (A B : Obj) : ((w.alloc A).alloc B).heap[w.heap.size + 1]? = some B ∧ ((w.alloc A).alloc B).heap[w.heap.size]? = some A := by
  constructor
  · show ((w.heap.push A).push B)[w.heap.size + 1]? = _
    have e : w.heap.size + 1 = (w.heap.push A).size := by simp
    rw [e, Array.getElem?_push_size]
  · show ((w.heap.push A).push B)[w.heap.size]? = _
    simp [Array.getElem?_push]

/-- What notBefore answers. -/
def nbPost (m : Ent) (o : Int) (s : Bool) (own e f : Int) (x : Ending) : Prop :=
  (if 0 < m.n then x = .returned (.tuple #[.agg #[.int .i64 e, .int .i64 f, .int .i64 m.h, .int .u8 4], .bool true])
       else if o < own then x = .returned (.tuple #[.agg #[.int .i64 0, .int .i64 0, .int .i64 0, .int .u8 0], .bool false])
       else if s = true then x = .returned (.tuple #[.agg #[.int .i64 0, .int .i64 0, .int .i64 0, .int .u8 0], .bool false])
       else x = .returned (.tuple #[.agg #[.int .i64 e, .int .i64 f, .int .i64 (-1), .int .u8 5], .bool true]))
theorem nbPost1 {m : Ent} {o : Int} {s : Bool} {own e f : Int} (h : 0 < m.n) : nbPost m o s own e f (.returned (.tuple #[.agg #[.int .i64 e, .int .i64 f, .int .i64 m.h, .int .u8 4], .bool true])) := by
  unfold nbPost; rw [if_pos h]
theorem nbPost2 {m : Ent} {o : Int} {s : Bool} {own e f : Int} (h : ¬ 0 < m.n) (h2 : o < own ∨ s = true) : nbPost m o s own e f (.returned (.tuple #[.agg #[.int .i64 0, .int .i64 0, .int .i64 0, .int .u8 0], .bool false])) := by
  unfold nbPost
  rw [if_neg h]
  by_cases h3 : o < own
  · rw [if_pos h3]
  · rw [if_neg h3, if_pos (h2.resolve_left h3)]
theorem nbPost3 {m : Ent} {o : Int} {s : Bool} {own e f : Int} (h : ¬ 0 < m.n) (h2 : ¬ o < own) (h3 : s = false) : nbPost m o s own e f (.returned (.tuple #[.agg #[.int .i64 e, .int .i64 f, .int .i64 (-1), .int .u8 5], .bool true])) := by
  unfold nbPost
  rw [if_neg h, if_neg h2, if_neg (by rw [h3]; exact Bool.false_ne_true)]

set_option maxRecDepth 100000 in
set_option maxHeartbeats 4000000 in
theorem nb_core (m : Ent) (o : Int) (s : Bool) (lb mb h pb evb bb blk sb st n0 n1 rb ab nr lo len lo' len' : Nat) (e f : Int) (host own : Int) (A M : Nat → Int) (R C : Nat → Ent) (w : World)
    (L : LogAt w lb mb h pb evb bb blk sb st n0 n1) (N : NbAt w rb ab mb blk evb h nr lo len e host own A M R C) (hn : n0 + n1 ≤ 1048576) (hnr : nr ≤ 1048576) (h1 : 1 ≤ h)
    (he : e = 0 ∨ e = 1) (hf : (f = 0 ∧ lo = 0 ∧ len = n0) ∨ (f = 1 ∧ lo = n0 * 2 ∧ len = n1)) (he' : (e = 0 ∧ lo' = 0 ∧ len' = n0) ∨ (e = 1 ∧ lo' = n0 * 2 ∧ len' = n1))
    (hR : ∀ k, (R k).h < h) (hRn : ∀ k, 0 ≤ (R k).n ∧ (R k).n ≤ 18446744073709551615) (hC : ∀ k, (C k).h < h) (hCn : ∀ k, 0 ≤ (C k).n ∧ (C k).n ≤ 18446744073709551615)
    (hh0 : 0 ≤ host) (hh1 : host ≤ 4294967295)
    (HMo : Hid (m = mo A M R nr)) (HO : Hid (o = ow host R nr)) (HS : Hid (s = sm A (decide (len < len')) C len)) :
    Calls Yba.prog 5 #[.pointer (some ⟨lb, 0, none⟩), .int .i64 f, .slice (some ⟨rb, 0, none⟩) nr nr, .int .i64 e, .slice (some ⟨ab, 0, none⟩) h h] w fun x w' =>
      nbPost m o s own e f x ∧ Below w.heap.size w w' := by
  go_enter Yba.func5, Yba.ntmps5
  go_wp2_with fail
  refine (evat_any lb pb evb e _ he ?p1 ?p2).mono ?_
  case p1 => exact cell_later ((Below.refl _ _).alloc (Nat.le_refl _) _) L.pages
  case p2 => exact cell_later ((Below.refl _ _).alloc (Nat.le_refl _) _) L.page
  rintro x w1 ⟨rfl, rfl⟩
  go_wp2
  go_loopw [14, 27] (fun o i wr => ∃ k : Nat, k ≤ nr ∧ i = .int .i64 k ∧ o = .int .u64 (ow host R k) ∧ Hid (wr.heap[w.heap.size + 1]? = some (entObj (mo A M R k))) ∧ Hid (wr.heap[w.heap.size]? = some zeroP) ∧ Below w.heap.size w wr) (fun _ i _ => nr - (intOf i).toNat)
  case atStart => exact ⟨0, Nat.zero_le _, rfl, rfl, (heap2_new w _ _).1, (heap2_new w _ _).2, ((Below.refl _ _).alloc (Nat.le_refl _) _).alloc (by simp) _⟩
  case round =>
    obtain ⟨k, hk, rfl, rfl, HM, HP, hB⟩ := hrel
    have hs : w.heap.size + 1 < wr.heap.size := (Array.getElem?_eq_some_iff.1 HM.out).1
    by_cases hlt : k < nr
    · clear HMo HO HS
      obtain ⟨z, HZ⟩ : ∃ z, Hid (z = R k) := ⟨_, rfl⟩
      obtain ⟨m, HMo⟩ : ∃ m, Hid (m = mo A M R k) := ⟨_, rfl⟩
      have c0 : wr.cell? ⟨rb, k * 2, none⟩ = some (.int .i64 z.h) := by rw [HZ.out]; simpa using cell_later hB (N.ris k hlt).1
      have c1 : wr.cell? ⟨rb, k * 2 + 1, none⟩ = some (.int .u64 z.n) := by rw [HZ.out]; simpa using cell_later hB (N.ris k hlt).2
      have m0 : wr.cell? ⟨w.heap.size + 1, 0, none⟩ = some (.int .i64 m.h) := by rw [HMo.out]; have := HM.out; simp [World.cell?, this, entObj]
      have m1 : wr.cell? ⟨w.heap.size + 1, 1, none⟩ = some (.int .u64 m.n) := by rw [HMo.out]; have := HM.out; simp [World.cell?, this, entObj]
      have fz0 : wr.frozen? ⟨w.heap.size + 1, 0, none⟩ = false := by have := HM.out; simp [World.frozen?, this, entObj]
      have fz1 : wr.frozen? ⟨w.heap.size + 1, 1, none⟩ = false := by have := HM.out; simp [World.frozen?, this, entObj]
      have hzh : z.h < h := by rw [HZ.out]; exact hR k
      have hmh : m.h < h := by rw [HMo.out]; exact mo_lt h1 hR k
      obtain ⟨hz0, hz1⟩ : 0 ≤ z.n ∧ z.n ≤ 18446744073709551615 := by rw [HZ.out]; exact hRn k
      obtain ⟨hm0, hm1⟩ : 0 ≤ m.n ∧ m.n ≤ 18446744073709551615 := by rw [HMo.out]; exact mo_bd hRn k
      have ca : wr.cell? ⟨ab, z.h, none⟩ = some (.int .u64 (A z.h)) := cell_later hB (N.at_ _ hzh)
      have cm : wr.cell? ⟨mb, z.h, none⟩ = some (.int .i64 (M z.h)) := cell_later hB (N.met _ hzh)
      have cn : wr.cell? ⟨mb, m.h, none⟩ = some (.int .i64 (M m.h)) := cell_later hB (N.met _ hmh)
      have cl : wr.cell? ⟨lb, 3, none⟩ = some (.slice (some ⟨mb, 0, none⟩) h h) := cell_later hB L.met
      have ce : wr.cell? ⟨evb, e.toNat * 5, none⟩ = some (.int .u32 host) := cell_later hB N.evh
      have hzi : (z.h : Int) < (h : Int) := by omega
      have hmi : (m.h : Int) < (h : Int) := by omega
      have br : rb < wr.heap.size := World.block_lt_of_cell? _ _ c0
      have ba : ab < wr.heap.size := World.block_lt_of_cell? _ _ ca
      have bm : mb < wr.heap.size := World.block_lt_of_cell? _ _ cm
      have bl : lb < wr.heap.size := World.block_lt_of_cell? _ _ cl
      have be : evb < wr.heap.size := World.block_lt_of_cell? _ _ ce
      have NN : Hid (NbAt w rb ab mb blk evb h nr lo len e host own A M R C ∧ LogAt w lb mb h pb evb bb blk sb st n0 n1) := ⟨N, L⟩
      clear N L
      have hev : evb ≠ w.heap.size + 1 := fun e1 => by
        have := HM.out
        rw [← e1] at this
        simp [World.cell?, this, entObj] at ce
        have hee := he
        rcases hee with rfl | rfl <;> simp at ce
      by_cases hx : A z.h < z.n
      · have KX : Hid (A (R k).h < (R k).n) := by rw [← HZ.out]; exact hx
        by_cases hy : m.n = 0 ∨ M z.h < M m.h
        · have MOV : Hid (mo A M R (k + 1) = z) := by
            show _ = _
            rw [mo_take (M := M) KX.out (by rw [← HZ.out, ← HMo.out]; exact hy), HZ.out]
          cases hq : (m.n == 0)
          · have hy' : M z.h < M m.h := by simp at hq; omega
            clear hy
            go_wp2
            go_quiet (fail)
            go_wp2
            obtain ⟨wq, hwq⟩ : ∃ wq, wq = ((((wr.alloc (.cells #[.int .i64 z.h, .int .u64 z.n] 64)).drewN nq).setCell ⟨w.heap.size + 1, 0, none⟩ (.int .i64 z.h)).setCell ⟨w.heap.size + 1, 1, none⟩ (.int .u64 z.n)) := ⟨_, rfl⟩
            have RQ := rest_take (z := z) (q := nq) hs HM.out HP.out hB ce hev
            rw [← hwq] at RQ
            rw [← hwq]
            obtain ⟨HMq, HPq, hBq, ceq, en0, en1⟩ := RQ
            have hsq : wr.heap.size < wq.heap.size := World.block_lt_of_cell? _ _ en0
            have ceQ : ∀ q, (wq.drewN q).cell? ⟨evb, e.toNat * 5, none⟩ = some (.int .u32 host) := fun q => ceq
            clear hwq c0 c1 m0 m1 fz0 fz1 ca cm cn cl ce HM HP hB
            cases hh : ((z.h : Int) == host)
            all_goals
              go_quiet ((go_at_call 8; refine Calls.quiet_of_same (host_any evb (e.toNat * 5) host _ hh0 hh1 (ceQ _))))
              go_wp2
              go_roundw
              case rel => exact ⟨k + 1, by omega, by go_num, ret_u64 (by first | (rw [ow_hit (by rw [← HZ.out]; simpa using hh)]; rw [HZ.out]) | rw [ow_miss (by rw [← HZ.out]; simpa using hh)]), (by show _ = _; rw [MOV.out]; exact HMq.out), HPq.out, below_drewN hBq _⟩
              case measure => simp [intOf]; omega
          · clear hy
            go_wp2
            go_quiet (fail)
            go_wp2
            obtain ⟨wq, hwq⟩ : ∃ wq, wq = ((((wr.alloc (.cells #[.int .i64 z.h, .int .u64 z.n] 64)).drewN nq).setCell ⟨w.heap.size + 1, 0, none⟩ (.int .i64 z.h)).setCell ⟨w.heap.size + 1, 1, none⟩ (.int .u64 z.n)) := ⟨_, rfl⟩
            have RQ := rest_take (z := z) (q := nq) hs HM.out HP.out hB ce hev
            rw [← hwq] at RQ
            rw [← hwq]
            obtain ⟨HMq, HPq, hBq, ceq, en0, en1⟩ := RQ
            have hsq : wr.heap.size < wq.heap.size := World.block_lt_of_cell? _ _ en0
            have ceQ : ∀ q, (wq.drewN q).cell? ⟨evb, e.toNat * 5, none⟩ = some (.int .u32 host) := fun q => ceq
            clear hwq c0 c1 m0 m1 fz0 fz1 ca cm cn cl ce HM HP hB
            cases hh : ((z.h : Int) == host)
            all_goals
              go_quiet ((go_at_call 8; refine Calls.quiet_of_same (host_any evb (e.toNat * 5) host _ hh0 hh1 (ceQ _))))
              go_wp2
              go_roundw
              case rel => exact ⟨k + 1, by omega, by go_num, ret_u64 (by first | (rw [ow_hit (by rw [← HZ.out]; simpa using hh)]; rw [HZ.out]) | rw [ow_miss (by rw [← HZ.out]; simpa using hh)]), (by show _ = _; rw [MOV.out]; exact HMq.out), HPq.out, below_drewN hBq _⟩
              case measure => simp [intOf]; omega
        · have MOV : Hid (mo A M R (k + 1) = mo A M R k) := mo_keep2 (A := A) (M := M) (Z := R) (k := k) (by rw [← HMo.out]; omega) (by rw [← HZ.out, ← HMo.out]; omega)
          have hq : (m.n == 0) = false := by simp; omega
          have hy' : ¬ M z.h < M m.h := by omega
          clear hy
          go_wp2
          go_quiet (fail)
          go_wp2
          obtain ⟨wq, hwq⟩ : ∃ wq, wq = (wr.alloc (.cells #[.int .i64 z.h, .int .u64 z.n] 64)).drewN nq := ⟨_, rfl⟩
          have RQ := rest_keep (z := z) (q := nq) hs HM.out HP.out hB ce
          rw [← hwq] at RQ
          rw [← hwq]
          obtain ⟨HMq, HPq, hBq, ceq, en0, en1⟩ := RQ
          have hsq : wr.heap.size < wq.heap.size := World.block_lt_of_cell? _ _ en0
          have ceQ : ∀ q, (wq.drewN q).cell? ⟨evb, e.toNat * 5, none⟩ = some (.int .u32 host) := fun q => ceq
          clear hwq c0 c1 m0 m1 fz0 fz1 ca cm cn cl ce HM HP hB
          cases hh : ((z.h : Int) == host)
          all_goals
            go_quiet ((go_at_call 8; refine Calls.quiet_of_same (host_any evb (e.toNat * 5) host _ hh0 hh1 (ceQ _))))
            go_wp2
            go_roundw
            case rel => exact ⟨k + 1, by omega, by go_num, ret_u64 (by first | (rw [ow_hit (by rw [← HZ.out]; simpa using hh)]; rw [HZ.out]) | rw [ow_miss (by rw [← HZ.out]; simpa using hh)]), (by show _ = _; rw [MOV.out]; exact HMq.out), HPq.out, below_drewN hBq _⟩
            case measure => simp [intOf]; omega
      · have hd : decide (A z.h < z.n) = false := by simpa using hx
        have MOV : Hid (mo A M R (k + 1) = mo A M R k) := mo_keep (by rw [← HZ.out]; exact hx)
        clear hx
        go_wp2
        go_quiet (fail)
        go_wp2
        obtain ⟨wq, hwq⟩ : ∃ wq, wq = (wr.alloc (.cells #[.int .i64 z.h, .int .u64 z.n] 64)).drewN nq := ⟨_, rfl⟩
        have RQ := rest_keep (z := z) (q := nq) hs HM.out HP.out hB ce
        rw [← hwq] at RQ
        rw [← hwq]
        obtain ⟨HMq, HPq, hBq, ceq, en0, en1⟩ := RQ
        have hsq : wr.heap.size < wq.heap.size := World.block_lt_of_cell? _ _ en0
        have ceQ : ∀ q, (wq.drewN q).cell? ⟨evb, e.toNat * 5, none⟩ = some (.int .u32 host) := fun q => ceq
        clear hwq c0 c1 m0 m1 fz0 fz1 ca cm cn cl ce HM HP hB
        cases hh : ((z.h : Int) == host)
        all_goals
          go_quiet ((go_at_call 8; refine Calls.quiet_of_same (host_any evb (e.toNat * 5) host _ hh0 hh1 (ceQ _))))
          go_wp2
          go_roundw
          case rel => exact ⟨k + 1, by omega, by go_num, ret_u64 (by first | (rw [ow_hit (by rw [← HZ.out]; simpa using hh)]; rw [HZ.out]) | rw [ow_miss (by rw [← HZ.out]; simpa using hh)]), (by show _ = _; rw [MOV.out]; exact HMq.out), HPq.out, below_drewN hBq _⟩
          case measure => simp [intOf]; omega
    · obtain rfl : nr = k := by omega
      clear hlt hk
      rw [← HMo.out] at HM
      rw [← HO.out]
      have m0 : wr.cell? ⟨w.heap.size + 1, 0, none⟩ = some (.int .i64 m.h) := by have := HM.out; simp [World.cell?, this, entObj]
      have m1 : wr.cell? ⟨w.heap.size + 1, 1, none⟩ = some (.int .u64 m.n) := by have := HM.out; simp [World.cell?, this, entObj]
      have r0 : wr.cell? ⟨w.heap.size, 0, none⟩ = some (.int .i64 0) := by have := HP.out; simp [World.cell?, this, zeroP]
      have r1 : wr.cell? ⟨w.heap.size, 1, none⟩ = some (.int .i64 0) := by have := HP.out; simp [World.cell?, this, zeroP]
      have r2 : wr.cell? ⟨w.heap.size, 2, none⟩ = some (.int .i64 0) := by have := HP.out; simp [World.cell?, this, zeroP]
      have r3 : wr.cell? ⟨w.heap.size, 3, none⟩ = some (.int .u8 0) := by have := HP.out; simp [World.cell?, this, zeroP]
      have z0 : wr.frozen? ⟨w.heap.size, 0, none⟩ = false := by have := HP.out; simp [World.frozen?, this, zeroP]
      have z1 : wr.frozen? ⟨w.heap.size, 1, none⟩ = false := by have := HP.out; simp [World.frozen?, this, zeroP]
      have z2 : wr.frozen? ⟨w.heap.size, 2, none⟩ = false := by have := HP.out; simp [World.frozen?, this, zeroP]
      have z3 : wr.frozen? ⟨w.heap.size, 3, none⟩ = false := by have := HP.out; simp [World.frozen?, this, zeroP]
      obtain ⟨hm0, hm1⟩ : 0 ≤ m.n ∧ m.n ≤ 18446744073709551615 := by rw [HMo.out]; exact mo_bd hRn nr
      obtain ⟨ho2, ho3⟩ : 0 ≤ o ∧ o ≤ 18446744073709551615 := by rw [HO.out]; exact ow_bd hRn nr
      by_cases hpos : 0 < m.n
      · go_wp2
        refine bodyPost_ret (v := .tuple #[.agg #[.int .i64 e, .int .i64 f, .int .i64 m.h, .int .u8 4], .bool true]) (by simp [results, Yba.results5, go_sem, r0, r1, r2, r3]) rfl ⟨nbPost1 hpos, ?_⟩
        exact (((hB.setCell (Nat.le_refl _) _).setCell (Nat.le_refl _) _).setCell (Nat.le_refl _) _).setCell (Nat.le_refl _) _
      · have ce : wr.cell? ⟨evb, e.toNat * 5 + 2, none⟩ = some (.int .u64 own) := cell_later hB N.evo
        by_cases hlo : o < own
        · go_wp2
          refine bodyPost_ret (v := .tuple #[.agg #[.int .i64 0, .int .i64 0, .int .i64 0, .int .u8 0], .bool false]) (by simp [results, Yba.results5, go_sem, r0, r1, r2, r3]) rfl ⟨nbPost2 (by omega) (.inl hlo), ?_⟩
          exact (((hB.setCell (Nat.le_refl _) _).setCell (Nat.le_refl _) _).setCell (Nat.le_refl _) _).setCell (Nat.le_refl _) _
        · have Lr := L.later (hB.mono (Nat.le_refl _))
          go_wp2_with fail
          refine (clock_any lb mb h pb evb bb blk sb st n0 n1 lo len f _ Lr hn hf).mono ?_
          rintro x w1 ⟨⟨ad1, rfl, had1⟩, rfl⟩
          go_wp2_with fail
          refine (clock_any lb mb h pb evb bb blk sb st n0 n1 lo' len' e _ Lr hn he').mono ?_
          rintro x w1 ⟨⟨ad2, rfl, had2⟩, rfl⟩
          go_wp2_with fail
          refine (clock_any lb mb h pb evb bb blk sb st n0 n1 lo len f _ Lr hn hf).mono ?_
          rintro x w1 ⟨⟨ad, rfl, had⟩, rfl⟩
          go_wp2
          have Nr := N.later (hB.mono (Nat.le_refl _))
          have NN : Hid (NbAt w1 rb ab mb blk evb h nr lo len e host own A M R C) := Nr
          have HR : Hid (w1.heap[w.heap.size]? = some zeroP) := HP
          clear Nr N L Lr m0 m1 r0 r1 r2 r3 z0 z1 z2 z3 ce HM HP HMo HO hR hRn had1 had2
          go_loopw [17, 100] (fun v i wq => ∃ k : Nat, k ≤ len ∧ i = .int .i64 k ∧ v = .bool (sm A (decide (len < len')) C k) ∧ Below w1.heap.size w1 wq) (fun _ i _ => len - (intOf i).toNat)
          case atStart =>
            refine ⟨0, Nat.zero_le _, rfl, ?_, Below.refl _ _⟩
            simp [sm]
          case round =>
            obtain ⟨k, hk, rfl, rfl, hq⟩ := hrel
            by_cases hlt : k < len
            · obtain rfl := had (by omega)
              obtain ⟨z, HZ⟩ : ∃ z, Hid (z = C k) := ⟨_, rfl⟩
              have c0 : wr.cell? ⟨blk, lo + k * 2, none⟩ = some (.int .i64 z.h) := by rw [HZ.out]; exact cell_later hq (NN.out.clk k hlt).1
              have c1 : wr.cell? ⟨blk, lo + k * 2 + 1, none⟩ = some (.int .u64 z.n) := by rw [HZ.out]; exact cell_later hq (NN.out.clk k hlt).2
              have hzh : z.h < h := by rw [HZ.out]; exact hC k
              obtain ⟨hz0, hz1⟩ : 0 ≤ z.n ∧ z.n ≤ 18446744073709551615 := by rw [HZ.out]; exact hCn k
              have ca : wr.cell? ⟨ab, z.h, none⟩ = some (.int .u64 (A z.h)) := cell_later hq (NN.out.at_ _ hzh)
              have hzi : (z.h : Int) < (h : Int) := by omega
              have bb1 : blk < wr.heap.size := World.block_lt_of_cell? _ _ c0
              have ba : ab < wr.heap.size := World.block_lt_of_cell? _ _ ca
              have hsm : Hid (sm A (decide (len < len')) C (k + 1) = (sm A (decide (len < len')) C k || decide (z.n < A z.h))) := by rw [HZ.out]; rfl
              cases hs2 : sm A (decide (len < len')) C k
              · rw [hs2] at hsm
                go_wp2
                go_quiet (fail)
                go_wp2
                go_roundw
                case rel => exact ⟨k + 1, by omega, by go_num, by rw [hsm.out]; simp, below_drewN (hq.alloc hq.size _) _⟩
                case measure => simp [intOf]; omega
              · rw [hs2] at hsm
                go_wp2
                go_quiet (fail)
                go_wp2
                go_roundw
                case rel => exact ⟨k + 1, by omega, by go_num, by rw [hsm.out]; simp, below_drewN (hq.alloc hq.size _) _⟩
                case measure => simp [intOf]; omega
            · obtain rfl : len = k := by omega
              rw [← HS.out]
              have HPq := (hq.block w.heap.size (by omega)).trans HR.out
              have r0 : wr.cell? ⟨w.heap.size, 0, none⟩ = some (.int .i64 0) := by simp [World.cell?, HPq, zeroP]
              have r1 : wr.cell? ⟨w.heap.size, 1, none⟩ = some (.int .i64 0) := by simp [World.cell?, HPq, zeroP]
              have r2 : wr.cell? ⟨w.heap.size, 2, none⟩ = some (.int .i64 0) := by simp [World.cell?, HPq, zeroP]
              have r3 : wr.cell? ⟨w.heap.size, 3, none⟩ = some (.int .u8 0) := by simp [World.cell?, HPq, zeroP]
              have z0 : wr.frozen? ⟨w.heap.size, 0, none⟩ = false := by simp [World.frozen?, HPq, zeroP]
              have z1 : wr.frozen? ⟨w.heap.size, 1, none⟩ = false := by simp [World.frozen?, HPq, zeroP]
              have z2 : wr.frozen? ⟨w.heap.size, 2, none⟩ = false := by simp [World.frozen?, HPq, zeroP]
              have z3 : wr.frozen? ⟨w.heap.size, 3, none⟩ = false := by simp [World.frozen?, HPq, zeroP]
              have hBq : Below w.heap.size w wr := hB.trans (hq.mono (by omega))
              clear HPq HS
              cases s
              · go_wp2
                refine bodyPost_ret (v := .tuple #[.agg #[.int .i64 e, .int .i64 f, .int .i64 (-1), .int .u8 5], .bool true]) (by simp [results, Yba.results5, go_sem, r0, r1, r2, r3]) rfl ⟨nbPost3 (by omega) (by omega) rfl, ?_⟩
                exact (((hBq.setCell (Nat.le_refl _) _).setCell (Nat.le_refl _) _).setCell (Nat.le_refl _) _).setCell (Nat.le_refl _) _
              · go_wp2
                refine bodyPost_ret (v := .tuple #[.agg #[.int .i64 0, .int .i64 0, .int .i64 0, .int .u8 0], .bool false]) (by simp [results, Yba.results5, go_sem, r0, r1, r2, r3]) rfl ⟨nbPost2 (by omega) (.inr rfl), ?_⟩
                exact (((hBq.setCell (Nat.le_refl _) _).setCell (Nat.le_refl _) _).setCell (Nat.le_refl _) _).setCell (Nat.le_refl _) _


/-- What notBefore answers, by its four cells and its flag. -/
def nbVal (m : Ent) (o : Int) (s : Bool) (own e f p0 p1 p2 p3 : Int) (ok : Bool) : Prop :=
  (0 < m.n ∧ p0 = e ∧ p1 = f ∧ p2 = m.h ∧ p3 = 4 ∧ ok = true) ∨ (¬ 0 < m.n ∧ (o < own ∨ s = true) ∧ p0 = 0 ∧ p1 = 0 ∧ p2 = 0 ∧ p3 = 0 ∧ ok = false) ∨ (¬ 0 < m.n ∧ ¬ o < own ∧ s = false ∧ p0 = e ∧ p1 = f ∧ p2 = -1 ∧ p3 = 5 ∧ ok = true)
theorem nbVal_of {m : Ent} {o : Int} {s : Bool} {own e f : Int} {x : Ending} (h : nbPost m o s own e f x) :
    ∃ p0 p1 p2 p3 ok, x = .returned (.tuple #[.agg #[.int .i64 p0, .int .i64 p1, .int .i64 p2, .int .u8 p3], .bool ok]) ∧ Hid (nbVal m o s own e f p0 p1 p2 p3 ok) := by
  unfold nbPost at h
  by_cases h1 : 0 < m.n
  · rw [if_pos h1] at h
    exact ⟨_, _, _, _, _, h, .inl ⟨h1, rfl, rfl, rfl, rfl, rfl⟩⟩
  rw [if_neg h1] at h
  by_cases h2 : o < own
  · rw [if_pos h2] at h
    exact ⟨_, _, _, _, _, h, .inr (.inl ⟨h1, .inl h2, rfl, rfl, rfl, rfl, rfl⟩)⟩
  rw [if_neg h2] at h
  cases s
  · rw [if_neg (by decide)] at h
    exact ⟨_, _, _, _, _, h, .inr (.inr ⟨h1, h2, rfl, rfl, rfl, rfl, rfl, rfl⟩)⟩
  · rw [if_pos rfl] at h
    exact ⟨_, _, _, _, _, h, .inr (.inl ⟨h1, .inr rfl, rfl, rfl, rfl, rfl, rfl⟩)⟩
end Go.Proofs.Ybulkeahk
