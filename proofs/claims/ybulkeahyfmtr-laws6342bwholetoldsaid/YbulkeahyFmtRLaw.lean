/-
  THE WALK OF 'LawS6342BWhole' ITSELF, out of its callees' contracts.
-/
import Derived.Test.YbulkeahyFmtRState
namespace Go.Proofs.YbulkeahyFmtR
open Go.RowKit Go.Deep

theorem mput_fresh (lim : Int) (E : List Nd) (e : Nd) (h0 : 0 ≤ lim) (hne : ∀ d ∈ E, d.c ≠ e.c) : mput lim (trim lim (E.map Nd.it)) e.c e.q e.f = trim lim ((E ++ [e]).map Nd.it) := by
  rw [← trim_map, ← mput_add lim (trim lim E) e (fun n hn => hne n (trim_sub _ _ hn)), trim_snoc _ _ _ h0, trim_map]
theorem Below.grow {w w' : World} (h : Below w.heap.size w w') : w.grownBy w' none := ⟨h.os, h.tape, h.output, h.size, fun i hi _ => h.block i hi⟩

def LPost (w : World) (e : Ending) (w' : World) : Prop := e = .returned (.bool true) ∧ Below w.heap.size w w'

set_option maxRecDepth 100000 in
set_option maxHeartbeats 2000000 in
theorem law_walk (lim : Int) (a1 a2 : Option Addr) (n1 c1 n2 c2 b1 o1 b2 o2 : Nat) (cl : ByteArray) (sq sf : Int) (x C S F : Nat → Int) (w : World) (h0 : 0 ≤ lim) (h1 : lim ≤ 18446744073709551615)
    (hn1 : n1 ≤ 281474976710656) (hn2 : n2 ≤ 281474976710656) (hcl : cl.size ≤ maxLen)
    (hI : n1 = 0 ∨ (a1 = some ⟨b1, o1, none⟩ ∧ b1 < w.heap.size ∧ ∀ k, k < n1 → w.cell? ⟨b1, o1 + k, none⟩ = some (.int .u8 (x k)) ∧ 0 ≤ x k ∧ x k ≤ 255))
    (hO : n2 = 0 ∨ (a2 = some ⟨b2, o2, none⟩ ∧ b2 < w.heap.size ∧ ∀ k, k < n2 → w.cell? ⟨b2, o2 + k * 3, none⟩ = some (.int .u8 (C k)) ∧ w.cell? ⟨b2, o2 + k * 3 + 1, none⟩ = some (.int .u64 (S k)) ∧ w.cell? ⟨b2, o2 + k * 3 + 2, none⟩ = some (.int .u64 (F k)) ∧ 0 ≤ C k ∧ C k ≤ 255)) :
    Calls Ybaf.prog 3 #[.int .u64 lim, .slice a1 n1 c1, .slice a2 n2 c2, .string cl, .int .u64 sq, .int .u64 sf] w (LPost w) := by
  obtain ⟨i0, hi, hz0, hz1, hz2⟩ := info_parts Ybaf.info33
  have HI := show Hid _ from hI
  have HO := show Hid _ from hO
  clear hI hO
  by_cases hbig : 4096 < (n1 : Int) + (n2 : Int)
  · go_enter Ybaf.func3, Ybaf.ntmps3
    go_wp2
    go_ret
    exact ⟨rfl, Below.refl _ _⟩
  · go_enter Ybaf.func3, Ybaf.ntmps3
    go_wp2_with (at_make; refine wpList_make_own _ rfl _ _ 26 rfl w.heap.size 33 i0 _ 5 Ybaf.underlying26 hi hz0 hz1 .i64 .i64 _ n1 rfl rfl rfl (by rw [hz2]; omega) (by unfold maxLen; omega) (Nat.le_refl _) ?_)
    intro w1 hown hgr
    have hB1 : Below w.heap.size w w1 := (Below.refl _ _).grown hgr (Nat.le_refl _) (by simp)
    clear hgr
    go_wp2
    go_loopw [13, 14, 39] (fun v u i wr => ∃ (k m : Nat) (E : List Nd), k ≤ n1 ∧ m ≤ k ∧ Hid (m = E.length) ∧ i = .int .i64 k ∧ v = .slice (some ⟨w.heap.size, 0, none⟩) m n1 ∧ wr.ownsRow w.heap.size 33 5 (.slice (some ⟨w.heap.size, 0, none⟩) m n1) m (rowN E) ∧
      Laid w.heap.size k E ∧ Mod wr u (trim lim (E.map Nd.it)) (fun b => b ≠ w.heap.size ∧ w.heap.size ≤ b) ∧ Below w.heap.size w wr) (fun _ _ i _ => n1 - (intOf i).toNat)
    case atStart =>
      refine ⟨0, 0, [], Nat.zero_le _, Nat.le_refl _, rfl, rfl, rfl, hown, Laid.nil _ _, .inl ⟨by simp [trim], rfl⟩, hB1⟩
    case round =>
      clear hown hB1
      obtain ⟨k, m, E, hk, hm, HM, rfl, rfl, hown, hlaid, hmod, hB⟩ := hrel
      have hs : w.heap.size < wr.heap.size := (hown.lt _ rfl).2
      by_cases hlt : k < n1
      · rcases HI.out with h | ⟨rfl, hb1, hI⟩
        · omega
        · obtain ⟨g0, hx0, hx1⟩ := hI k hlt
          have g0 : wr.cell? ⟨b1, o1 + k, none⟩ = some (.int .u8 (x k)) := by rw [hB.cell (p := ⟨b1, o1 + k, none⟩) hb1]; exact g0
          have hbw : b1 < wr.heap.size := by omega
          have hki : (k : Int) < (n1 : Int) := by omega
          clear hI
          go_wp2_with fail
          refine (name_any (x k) _ hx0 hx1).mono ?_
          rintro e w2 ⟨rfl, rfl⟩
          obtain ⟨nm, HN⟩ : ∃ nm, Hid (nm = nameOf (x k)) := ⟨_, rfl⟩
          rw [← HN.out]
          have hnl : nm.size ≤ maxLen := by rw [HN.out]; exact nameOf_len _
          go_wp2
          have HC : Hid (∀ j e, E[j]? = some e → w2.cell? ⟨w.heap.size, j * 5, none⟩ = some (.string e.c)) := by
            intro j e hj
            have hl := (List.getElem?_eq_some_iff.1 hj).1
            have := hown.cellAt (j * 5) (by have := HM.out; omega)
            rw [this]
            exact rowN_at E j 0 e hj (by decide)
          have HL : Hid (Laid w.heap.size k E) := hlaid
          clear hlaid g0
          go_loopw [18, 19] (fun d i wr => ∃ j : Nat, j ≤ m ∧ d = .bool false ∧ i = .int .i64 j ∧ wr = w2 ∧ Hid (∀ i e, i < j → E[i]? = some e → e.c ≠ nm)) (fun _ i _ => m - (intOf i).toNat)
          case atStart => exact ⟨0, Nat.zero_le _, rfl, rfl, rfl, fun i e hi => absurd hi (Nat.not_lt_zero _)⟩
          case round =>
            obtain ⟨j, hj, rfl, rfl, rfl, HNE⟩ := hrel
            by_cases hjm : j < m
            · obtain ⟨e, HEj⟩ : ∃ e, Hid (E[j]? = some e) := ⟨E[j]'(by have := HM.out; omega), List.getElem?_eq_getElem _⟩
              have q0 := HC.out j e HEj.out
              have hji : (j : Int) < (m : Int) := by omega
              cases hc : (e.c.toList == nm.toList)
              · have HNE2 : Hid (∀ i e, i < j + 1 → E[i]? = some e → e.c ≠ nm) := by
                  intro i e' hi he'
                  by_cases hij : i = j
                  · subst hij
                    have := HEj.out.symm.trans he'
                    simp at this
                    subst this
                    exact (same_not _ _).1 hc
                  · exact HNE.out i e' (by omega) he'
                go_wp2
                go_roundw
                case rel => exact ⟨j + 1, by omega, rfl, by go_num, trivial, HNE2⟩
                case measure => simp [intOf]; omega
              · go_wp2
                go_roundw
                case rel => exact ⟨k + 1, m, E, by omega, by omega, HM, by go_num, rfl, hown, HL.out.mono (by omega), hmod, hB⟩
                case measure => simp [intOf]; omega
            · have HNE2 : Hid (∀ e ∈ E, e.c ≠ nm) := by
                intro e he
                obtain ⟨i, hi, rfl⟩ := List.getElem_of_mem he
                exact HNE.out i _ (by have := HM.out; omega) (List.getElem?_eq_getElem hi)
              clear HNE HC
              go_wp2_with (at_builtin; refine wpList_append_fits _ rfl (.tmp 65) (.tmp 69) 26 rfl w.heap.size 33 i0 5 Ybaf.underlying26 hi hz1 w.heap.size m n1 (rowN E) rfl ((hown.alloc _).alloc _) ⟨wr.heap.size + 1, 0, none⟩ 1 1 [.string nm, .int .u64 k, .int .u64 k, .pointer none, .pointer none] rfl rfl ?hcA ?h1A (by omega) ?_)
              case hcA => exact cells5_new (wr.alloc _) _ _ _ _ _ 33 _ (by simp)
              case h1A =>
                intro u hu
                simp at hu
                rcases hu with rfl | rfl | rfl | rfl | rfl <;> rfl
              intro w3 hown3 hgr
              have hs3 : w.heap.size < w3.heap.size := (hown3.lt _ rfl).2
              have s0 : w3.cell? ⟨wr.heap.size, 0, none⟩ = some (.int .u64 k) := hgr.cell (a := ⟨wr.heap.size, 0, none⟩) (by simp) (by simp; omega)
              have s1 : w3.cell? ⟨wr.heap.size, 1, none⟩ = some (.int .u64 k) := hgr.cell (a := ⟨wr.heap.size, 1, none⟩) (by simp) (by simp; omega)
              have hB3 : Below w.heap.size w w3 := ((hB.alloc (by omega) _).alloc (by simp; omega) _).grown hgr (by simp; omega) (by simp)
              have hz3 : wr.heap.size + 2 ≤ w3.heap.size := by have := hgr.size; simpa using this
              have hmod3 : Mod w3 u14 (trim lim (E.map Nd.it)) (fun _ => True) := hmod.mono (by omega) fun b hb ha => ⟨by
                rw [hgr.block b (by simp; omega) (by simp; omega), alloc_old _ _ _ (by simp; omega), alloc_old _ _ _ hb], trivial⟩
              have e3 : rowN E ++ [.string nm, .int .u64 k, .int .u64 k, .pointer none, .pointer none] = rowN (E ++ [⟨w.heap.size, E.length * 5, nm, k, k⟩]) := by rw [rowN_snoc]; rfl
              rw [e3] at hown3
              have HL2 : Hid (Laid w.heap.size (k + 1) (E ++ [⟨w.heap.size, E.length * 5, nm, k, k⟩])) := HL.out.snoc nm hnl HNE2.out
              have HM2 : Hid (m + 1 = (E ++ [(⟨w.heap.size, E.length * 5, nm, k, k⟩ : Nd)]).length) := by show _ = _; rw [List.length_append, ← HM.out]; rfl
              have HP : Hid (mput lim (trim lim (E.map Nd.it)) nm k k = trim lim ((E ++ [(⟨w.heap.size, E.length * 5, nm, k, k⟩ : Nd)]).map Nd.it)) := mput_fresh lim E ⟨w.heap.size, E.length * 5, nm, k, k⟩ h0 HNE2.out
              have hXl : (trim lim (E.map Nd.it)).length ≤ 1000000 := by
                have := trim_le lim (E.map Nd.it)
                rw [List.length_map, ← HM.out] at this
                omega
              clear hgr hown hmod e3
              go_wp2_with fail
              refine (mput_v u14 lim nm k k _ w3 hXl h0 h1 hmod3).mono ?_
              rintro e w4 ⟨v4, rfl, hmod4, hB4⟩
              rw [HP.out] at hmod4
              have hown4 := hown3.kept (Below.grow hB4) (.inr (by simp [Value.ownBlock]))
              have hB5 : Below w.heap.size w w4 := hB3.trans ⟨hB4.os, hB4.tape, hB4.output, hB4.size, fun i hi => hB4.block i (by omega)⟩
              go_wp2_with fail
              go_roundw
              case rel => exact ⟨k + 1, m + 1, _, by omega, by omega, HM2, by go_num, rfl, hown4, HL2.out, hmod4.mono (Nat.le_refl _) fun b _ hb => ⟨rfl, by omega, by omega⟩, hB5⟩
              case measure => simp [intOf]; omega
      · obtain rfl : n1 = k := by omega
        have HEn := show Hid (Ents wr w.heap.size E) from hlaid.ents (by omega) hown HM.out
        have hEl : E.length ≤ n1 := by have := HM.out; omega
        clear hlt hk hlaid hown HI
        go_wp2_with fail
        refine (tableOf_any w.heap.size m n1 lim E wr h0 h1 HM (by omega) hs HEn.out).mono ?_
        rintro e w2 ⟨rfl, T2, F2⟩
        have hs2 := F2.size
        have gE : ∀ e ∈ E, e.b = w.heap.size := fun e he => by
          obtain ⟨j, hj, rfl⟩ := List.getElem_of_mem he
          exact (HEn.out.at_ j _ (List.getElem?_eq_getElem hj)).1
        have ST : St w.heap.size w w2 (wr.heap.size + 1) wr.heap.size lim (trim lim E) u14 ((trim lim E).map Nd.it) := by
          refine ⟨T2, trim_len _ _ h0, ?_, ⟨by omega, by omega, fun n hn => by rw [gE n (trim_sub _ _ hn)]; exact Nat.le_refl _⟩, ?_⟩
          · rw [trim_map]
            refine hmod.mono hs2 fun b hb ha => ⟨F2.block b hb (by omega) (by omega) fun n hn => by rw [gE n hn]; exact fun e1 => ha.1 e1.symm, by omega, by omega, fun n hn => by rw [gE n (trim_sub _ _ hn)]; exact fun e1 => ha.1 e1.symm⟩
          · exact hB.trans ⟨F2.os, F2.tape, F2.output, F2.size, fun k hk => F2.block k (by omega) (by omega) (by omega) fun n hn => by rw [gE n hn]; omega⟩
        have hLl : (trim lim E).length ≤ n1 := Nat.le_trans (trim_le _ _) hEl
        obtain ⟨L, HL⟩ : ∃ L, Hid (L = trim lim E) := ⟨_, rfl⟩
        rw [← HL.out] at ST hLl
        obtain ⟨tb, htb⟩ : ∃ tb, Hid (tb = wr.heap.size + 1) := ⟨_, rfl⟩
        obtain ⟨mb, hmb⟩ : ∃ mb, Hid (mb = wr.heap.size) := ⟨_, rfl⟩
        rw [← htb.out, ← hmb.out] at ST
        rw [← htb.out]
        clear T2 F2 hs2 gE hmod HM HEn hEl hB hm HL
        go_wp2_with fail
        refine (check_v tb mb lim L u14 w2 ST.tab (by omega) ST.mod).mono ?_
        rintro e w3 ⟨rfl, q, rfl⟩
        have ST1 := ST.later (w' := w2.drewN q) ⟨rfl, rfl, rfl, Nat.le_refl _, fun _ _ => rfl⟩
        clear ST
        go_wp2_with fail
        obtain ⟨W, hW⟩ : ∃ W, W = w2.drewN q := ⟨_, rfl⟩
        rw [← hW] at ST1 ⊢
        clear hW
        go_loopw [14, 96] (fun v i wr => ∃ (k : Nat) (L : List Nd), k ≤ n2 ∧ i = .int .i64 k ∧ L.length ≤ n1 + k ∧ St w.heap.size w wr tb mb lim L v (L.map Nd.it)) (fun _ i _ => n2 - (intOf i).toNat)
        case atStart => exact ⟨0, L, Nat.zero_le _, rfl, hLl, ST1⟩
        case round =>
          clear ST1 hLl
          obtain ⟨k, L, hk, rfl, hLl, ST⟩ := hrel
          have tlt : tb < wr.heap.size := World.block_lt_of_cell? _ _ ST.tab.lim
          have mlt : mb < wr.heap.size := by obtain ⟨D, MM⟩ := ST.tab.map; exact own_lt MM.own
          have nlt : ∀ n ∈ L, n.b < wr.heap.size := fun n hn => World.block_lt_of_cell? _ _ (ST.tab.dat n hn).c
          have hwlt : w.heap.size < wr.heap.size := by have := ST.lo.1; omega
          have NL := show Hid _ from nlt
          clear nlt
          by_cases hlt : k < n2
          · rcases HO.out with h | ⟨rfl, hb2, hO⟩
            · omega
            · obtain ⟨g0, g1, g2, hx0, hx1⟩ := hO k hlt
              have old : ∀ o v, w.cell? ⟨b2, o, none⟩ = some v → wr.cell? ⟨b2, o, none⟩ = some v := fun o v h => by rw [ST.bel.cell (p := ⟨b2, o, none⟩) hb2]; exact h
              have g0 := old _ _ g0
              have g1 := old _ _ g1
              have g2 := old _ _ g2
              have hbw : b2 < wr.heap.size := by omega
              have hki : (k : Int) < (n2 : Int) := by omega
              clear hO old
              go_wp2_with fail
              refine (name_any (C k) _ hx0 hx1).mono ?_
              rintro e w4 ⟨rfl, rfl⟩
              obtain ⟨nm, HN⟩ : ∃ nm, Hid (nm = nameOf (C k)) := ⟨_, rfl⟩
              rw [← HN.out]
              have hnl : nm.size ≤ maxLen := by rw [HN.out]; exact nameOf_len _
              go_wp2_with fail
              have ST2 := ST.later (((Below.refl _ _).alloc (Nat.le_refl _) (.cells #[.int .u8 (C k), .int .u64 (S k), .int .u64 (F k)] 42)).alloc (by simp) (.cells #[.int .u64 (S k), .int .u64 (F k)] 30))
              have s0 : ((wr.alloc (.cells #[.int .u8 (C k), .int .u64 (S k), .int .u64 (F k)] 42)).alloc (.cells #[.int .u64 (S k), .int .u64 (F k)] 30)).cell? ⟨wr.heap.size + 1, 0, none⟩ = some (.int .u64 (S k)) := by simp
              have s1 : ((wr.alloc (.cells #[.int .u8 (C k), .int .u64 (S k), .int .u64 (F k)] 42)).alloc (.cells #[.int .u64 (S k), .int .u64 (F k)] 30)).cell? ⟨wr.heap.size + 1, 1, none⟩ = some (.int .u64 (F k)) := by simp
              obtain ⟨W2, hW2⟩ : ∃ W2, W2 = (wr.alloc (.cells #[.int .u8 (C k), .int .u64 (S k), .int .u64 (F k)] 42)).alloc (.cells #[.int .u64 (S k), .int .u64 (F k)] 30) := ⟨_, rfl⟩
              rw [← hW2] at ST2 s0 s1 ⊢
              clear hW2 g0 g1 g2
              refine (put_any tb mb lim (S k) (F k) nm L W2 h0 h1 ST2.tab (by omega) ST2.fit hnl).mono ?_
              rintro e w5 ⟨rfl, L2, P⟩
              have ST3 := ST2.put P
              have hb0 : w5.heap[wr.heap.size + 1]? = W2.heap[wr.heap.size + 1]? := P.fr.block _ (World.block_lt_of_cell? _ _ s0) (by omega) (by omega) fun n hn => by have := NL.out n hn; omega
              have s0 : w5.cell? ⟨wr.heap.size + 1, 0, none⟩ = some (.int .u64 (S k)) := (World.cell?_of_block (a := ⟨wr.heap.size + 1, 0, none⟩) hb0).trans s0
              have s1 : w5.cell? ⟨wr.heap.size + 1, 1, none⟩ = some (.int .u64 (F k)) := (World.cell?_of_block (a := ⟨wr.heap.size + 1, 1, none⟩) hb0).trans s1
              have hL2 : L2.length ≤ n1 + (k + 1) := by have := P.len; omega
              have HP := show Hid _ from P.it
              clear P hb0 ST ST2
              go_wp2_with fail
              refine (mput_v u14 lim nm (S k) (F k) (L.map Nd.it) w5 (by rw [List.length_map]; omega) h0 h1 ST3.mod).mono ?_
              rintro e w6 ⟨v6, rfl, M6, B6⟩
              rw [← HP.out] at M6
              have ST6 := ST3.mput B6 M6
              clear ST3 M6 B6 s0 s1 HP
              go_wp2_with fail
              refine (check_v tb mb lim L2 v6 w6 ST6.tab (by omega) ST6.mod).mono ?_
              rintro e w7 ⟨rfl, q7, rfl⟩
              have ST7 := ST6.later (w' := w6.drewN q7) ⟨rfl, rfl, rfl, Nat.le_refl _, fun _ _ => rfl⟩
              clear ST6
              go_wp2_with fail
              go_roundw
              case rel => exact ⟨k + 1, L2, by omega, by go_num, hL2, ST7⟩
              case measure => simp [intOf]; omega
          · clear HO
            have s0 : (wr.alloc (.cells #[.int .u64 sq, .int .u64 sf] 30)).cell? ⟨wr.heap.size, 0, none⟩ = some (.int .u64 sq) := by simp
            have s1 : (wr.alloc (.cells #[.int .u64 sq, .int .u64 sf] 30)).cell? ⟨wr.heap.size, 1, none⟩ = some (.int .u64 sf) := by simp
            have ST2 := ST.later ((Below.refl _ _).alloc (Nat.le_refl _) (.cells #[.int .u64 sq, .int .u64 sf] 30))
            go_wp2_with fail
            obtain ⟨W2, hW2⟩ : ∃ W2, W2 = wr.alloc (.cells #[.int .u64 sq, .int .u64 sf] 30) := ⟨_, rfl⟩
            rw [← hW2] at ST2 s0 s1 ⊢
            clear hW2
            refine (put_any tb mb lim sq sf cl L W2 h0 h1 ST2.tab (by omega) ST2.fit hcl).mono ?_
            rintro e w5 ⟨rfl, L2, P⟩
            have ST3 := ST2.put P
            have hb0 : w5.heap[wr.heap.size]? = W2.heap[wr.heap.size]? := P.fr.block _ (World.block_lt_of_cell? _ _ s0) (by omega) (by omega) fun n hn => by have := NL.out n hn; omega
            have s0 : w5.cell? ⟨wr.heap.size, 0, none⟩ = some (.int .u64 sq) := (World.cell?_of_block (a := ⟨wr.heap.size, 0, none⟩) hb0).trans s0
            have s1 : w5.cell? ⟨wr.heap.size, 1, none⟩ = some (.int .u64 sf) := (World.cell?_of_block (a := ⟨wr.heap.size, 1, none⟩) hb0).trans s1
            have hL2 : L2.length ≤ n1 + (k + 1) := by have := P.len; omega
            have HP := show Hid _ from P.it
            clear P hb0 ST ST2
            go_wp2_with fail
            refine (mput_v u14 lim cl sq sf (L.map Nd.it) w5 (by rw [List.length_map]; omega) h0 h1 ST3.mod).mono ?_
            rintro e w6 ⟨v6, rfl, M6, B6⟩
            rw [← HP.out] at M6
            have ST6 := ST3.mput B6 M6
            clear ST3 M6 B6 s0 s1 HP
            go_wp2_with fail
            refine (check_v tb mb lim L2 v6 w6 ST6.tab (by omega) ST6.mod).mono ?_
            rintro e w7 ⟨rfl, q7, rfl⟩
            have ST7 := ST6.later (w' := w6.drewN q7) ⟨rfl, rfl, rfl, Nat.le_refl _, fun _ _ => rfl⟩
            clear ST6
            go_wp2_with fail
            go_ret
            exact ⟨rfl, ST7.bel⟩

end Go.Proofs.YbulkeahyFmtR
