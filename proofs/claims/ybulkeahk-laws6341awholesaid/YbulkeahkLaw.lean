/-
  THE WALK OF 'LawS6341AWhole' ITSELF.
-/
import Derived.Test.YbulkeahkEnv
import Derived.Deep.DeepCutAuto
import Derived.Deep.LoopGhost
namespace Go.Proofs.Ybulkeahk
open Go.RowKit Go.Deep

/-- A slice of numbers that came in: empty, or its cells. -/
def IntsIn (w : World) (kd : IntKind) (a : Option Addr) (n : Nat) (f : Nat → Int) : Prop := n = 0 ∨ ∃ b off, a = some ⟨b, off, none⟩ ∧ b < w.heap.size ∧ ∀ k, k < n → w.cell? ⟨b, off + k, none⟩ = some (.int kd (f k))
/-- A slice of raw entries that came in. -/
def RawIn (w : World) (a : Option Addr) (n : Nat) (X Y : Nat → Int) : Prop := n = 0 ∨ ∃ b off, a = some ⟨b, off, none⟩ ∧ b < w.heap.size ∧ ∀ k, k < n → w.cell? ⟨b, off + k * 2, none⟩ = some (.int .u8 (X k)) ∧ w.cell? ⟨b, off + k * 2 + 1, none⟩ = some (.int .u64 (Y k))
theorem RawIn.later {w w' : World} {a : Option Addr} {n : Nat} {X Y : Nat → Int} (h : RawIn w a n X Y) (hb : Below w.heap.size w w') : RawIn w' a n X Y := by
  rcases h with h | ⟨b, off, ha, hlt, hc⟩
  · exact .inl h
  · exact .inr ⟨b, off, ha, by have := hb.size; omega, fun k hk => ⟨cell_later hb (hc k hk).1, cell_later hb (hc k hk).2⟩⟩

theorem mod_lt (x : Int) {h : Nat} (h1 : 1 ≤ h) : (x % (h : Int)).toNat < h := by
  have := Int.emod_lt_of_pos x (show 0 < (h : Int) by omega)
  have := Int.emod_nonneg x (show (h : Int) ≠ 0 by omega)
  omega
theorem row_adds {w : World} {b : Nat} {xs : List Value} {t : TypeId} {fr : Nat × Nat} (h : w.heap[b]? = some (.cells xs.toArray t fr)) : ∀ j u, xs[j]? = some u → w.cell? ((⟨b, 0, none⟩ : Addr).add j) = some u := by
  intro j u hj
  have : (⟨b, 0, none⟩ : Addr).add j = ⟨b, j, none⟩ := by unfold Addr.add; split <;> simp_all
  rw [this]
  simp [World.cell?, h, hj]
theorem rowE_one (Z : Nat → Ent) (n : Nat) : ∀ u ∈ rowE Z n, u.oneCell' = true := by
  intro u hu
  unfold rowE at hu
  obtain ⟨k, _, hk⟩ := List.mem_flatMap.1 hu
  simp [Ent.cells] at hk
  rcases hk with rfl | rfl <;> rfl

set_option maxRecDepth 100000 in
set_option maxHeartbeats 8000000 in
theorem law_walk (nh : Int) (am aa ar a0 a1 : Option Addr) (nm na nr n0 n1 cm ca cr c0 c1 h : Nat) (host0 own0 host1 own1 sel : Int) (MI AI XR YR X0 Y0 X1 Y1 : Nat → Int) (w : World)
    (hsum : nm + na + nr + n0 + n1 ≤ 1048576) (hnh0 : 0 ≤ nh) (hnh1 : nh ≤ 255) (hh : nh % 8 + 1 = (h : Int)) (h1 : 1 ≤ h) (h8 : h ≤ 8)
    (Hm : IntsIn w .i64 am nm MI) (Ha : IntsIn w .u64 aa na AI) (Hr : RawIn w ar nr XR YR) (H0 : RawIn w a0 n0 X0 Y0) (H1 : RawIn w a1 n1 X1 Y1)
    (hXR : ∀ k, 0 ≤ XR k ∧ XR k ≤ 255) (hX0 : ∀ k, 0 ≤ X0 k ∧ X0 k ≤ 255) (hX1 : ∀ k, 0 ≤ X1 k ∧ X1 k ≤ 255)
    (hYR : ∀ k, 0 ≤ YR k ∧ YR k ≤ 18446744073709551615) (hY0 : ∀ k, 0 ≤ Y0 k ∧ Y0 k ≤ 18446744073709551615) (hY1 : ∀ k, 0 ≤ Y1 k ∧ Y1 k ≤ 18446744073709551615)
    (hs0 : 0 ≤ sel) (hs1 : sel ≤ 255) (hh00 : 0 ≤ host0) (hh01 : host0 ≤ 4294967295) (hh10 : 0 ≤ host1) (hh11 : host1 ≤ 4294967295) (ho00 : 0 ≤ own0) (ho01 : own0 ≤ 18446744073709551615) (ho10 : 0 ≤ own1) (ho11 : own1 ≤ 18446744073709551615) (hAI : ∀ k, 0 ≤ AI k ∧ AI k ≤ 18446744073709551615) :
    Calls Yba.prog 3 #[.int .u8 nh, .slice am nm cm, .slice aa na ca, .slice ar nr cr, .slice a0 n0 c0, .slice a1 n1 c1, .int .u32 host0, .int .u64 own0, .int .u32 host1, .int .u64 own1, .int .u8 sel] w fun e w' => e = .returned (.bool true) ∧ Below w.heap.size w w' := by
  have hk3 := run_make_row' (P := Yba.prog) 22 3 (.int .i64 0) 8 Yba.underlying22 Yba.info3 rfl .i64 .i64 h (by omega) (by omega)
  have hk26 := run_make_row' (P := Yba.prog) 23 26 (.int .u64 0) 8 Yba.underlying23 Yba.info26 rfl .i64 .i64 h (by omega) (by omega)
  obtain ⟨M, HMdef⟩ : ∃ M, Hid (M = fun j => if j < nm then MI j else (j : Int)) := ⟨_, rfl⟩
  obtain ⟨A, HAdef⟩ : ∃ A, Hid (A = fun j => if j < na then AI j else 0) := ⟨_, rfl⟩
  have hA : ∀ j, 0 ≤ A j := fun j => by rw [HAdef.out]; simp only; split; exact (hAI j).1; exact Int.le_refl 0
  obtain ⟨R, HRd⟩ : ∃ R : Nat → Ent, Hid (R = fun k => ⟨(XR k % (h : Int)).toNat, YR k⟩) := ⟨_, rfl⟩
  obtain ⟨C0, HC0⟩ : ∃ R : Nat → Ent, Hid (R = fun k => ⟨(X0 k % (h : Int)).toNat, Y0 k⟩) := ⟨_, rfl⟩
  obtain ⟨C1, HC1⟩ : ∃ R : Nat → Ent, Hid (R = fun k => ⟨(X1 k % (h : Int)).toNat, Y1 k⟩) := ⟨_, rfl⟩
  obtain ⟨i0, hi, hz0, hz1, hz2⟩ := info_parts Yba.info64
  go_enter Yba.func3, Yba.ntmps3
  go_wp2
  go_loopw [27] (fun i wr => ∃ k : Nat, k ≤ h ∧ i = .int .i64 k ∧ Hid (Rows3 wr w.heap.size h (mid M k) (mid A k) (mid A k) w)) (fun i _ => h - (intOf i).toNat)
  case atStart => exact ⟨0, Nat.zero_le _, rfl, rows3_start w h M A⟩
  case round =>
    obtain ⟨k, hk, rfl, HR⟩ := hrel
    have hs : w.heap.size + 1 + 1 < wr.heap.size := (Array.getElem?_eq_some_iff.1 HR.out.atc).1
    by_cases hlt : k < h
    · as_aux_lemma =>
        have x0 := row_cell HR.out.met k hlt
        have x1 := row_cell HR.out.atv k hlt
        have x2 := row_cell HR.out.atc k hlt
        have y0 := row_free HR.out.met k
        have y1 := row_free HR.out.atv k
        have y2 := row_free HR.out.atc k
        by_cases hm : k < nm
        · rcases Hm with Hm | ⟨bm, om, rfl, hbm, Hm⟩
          · exfalso; omega
          have cM := cell_later (HR.out.bel) (Hm k hm)
          have hbm' : bm ≠ w.heap.size := by omega
          by_cases ha : k < na
          · rcases Ha with Ha | ⟨ba, oa, rfl, hba, Ha⟩
            · exfalso; omega
            have cA := cell_later (HR.out.bel) (Ha k ha)
            have hba0 : ba ≠ w.heap.size := by omega
            have hba1 : ba ≠ w.heap.size + 1 := by omega
            go_wp2
            go_roundw
            case rel =>
              have eM : M k = MI k := by rw [HMdef.out]; exact if_pos hm
              have eA : A k = AI k := by rw [HAdef.out]; exact if_pos ha
              exact ⟨k + 1, by omega, by go_num, (((HR.out.setM k k).setM k (MI k)).setA k (AI k)).setC k (AI k) |>.turn (fun j hj => (upd_upd _ _ h _ _ j hj).trans (mid_upd M k h _ (eM.symm) j hj)) (mid_upd A k h _ eA.symm) (mid_upd A k h _ eA.symm)⟩
            case measure => simp [intOf]; omega
          · go_wp2
            go_roundw
            case rel =>
              have eM : M k = MI k := by rw [HMdef.out]; exact if_pos hm
              have eA : A k = 0 := by rw [HAdef.out]; exact if_neg ha
              exact ⟨k + 1, by omega, by go_num, ((HR.out.setM k k).setM k (MI k)).turn (fun j hj => (upd_upd _ _ h _ _ j hj).trans (mid_upd M k h _ (eM.symm) j hj)) (mid_zero A k h eA) (mid_zero A k h eA)⟩
            case measure => simp [intOf]; omega
        · by_cases ha : k < na
          · rcases Ha with Ha | ⟨ba, oa, rfl, hba, Ha⟩
            · exfalso; omega
            have cA := cell_later (HR.out.bel) (Ha k ha)
            have hba0 : ba ≠ w.heap.size := by omega
            have hba1 : ba ≠ w.heap.size + 1 := by omega
            go_wp2
            go_roundw
            case rel =>
              have eM : M k = (k : Int) := by rw [HMdef.out]; exact if_neg hm
              have eA : A k = AI k := by rw [HAdef.out]; exact if_pos ha
              exact ⟨k + 1, by omega, by go_num, ((HR.out.setM k k).setA k (AI k)).setC k (AI k) |>.turn (mid_upd M k h _ eM.symm) (mid_upd A k h _ eA.symm) (mid_upd A k h _ eA.symm)⟩
            case measure => simp [intOf]; omega
          · go_wp2
            go_roundw
            case rel =>
              have eM : M k = (k : Int) := by rw [HMdef.out]; exact if_neg hm
              have eA : A k = 0 := by rw [HAdef.out]; exact if_neg ha
              exact ⟨k + 1, by omega, by go_num, (HR.out.setM k k).turn (mid_upd M k h _ eM.symm) (mid_zero A k h eA) (mid_zero A k h eA)⟩
            case measure => simp [intOf]; omega
    · obtain rfl : h = k := by omega
      clear hlt hk
      obtain ⟨wz, rfl⟩ : ∃ wz : World, wz = wr := ⟨_, rfl⟩
      have HT : Hid (Rows3 wz w.heap.size h M A A w) := HR.out.turn (fun j hj => by simp [mid, hj]) (fun j hj => by simp [mid, hj]) (fun j hj => by simp [mid, hj])
      have hB : Below w.heap.size w wz := HR.out.bel
      clear HR Hm Ha HMdef HAdef hk3 hk26
      go_wp2_with fail
      refine (conv_any ar nr cr h XR YR wz (by omega) h1 h8 hXR (Hr.later hB)).mono ?_
      rintro x w1 ⟨rfl, G1, hB1⟩
      rw [← HRd.out] at G1
      have g1 : Hid (w1.heap[wz.heap.size]? = some (.cells (rowE R nr).toArray 64 (0, 0))) := G1
      have hBw1 : Below w.heap.size w w1 := hB.trans (hB1.mono hB.size)
      have hs1' : wz.heap.size < w1.heap.size := (Array.getElem?_eq_some_iff.1 G1).1
      clear G1
      go_wp2_with fail
      refine (conv_any ar nr cr h XR YR w1 (by omega) h1 h8 hXR (Hr.later hBw1)).mono ?_
      rintro x w2 ⟨rfl, G2, hB2⟩
      rw [← HRd.out] at G2
      have g2 : Hid (w2.heap[w1.heap.size]? = some (.cells (rowE R nr).toArray 64 (0, 0))) := G2
      have hBw2 : Below w.heap.size w w2 := hBw1.trans (hB2.mono hBw1.size)
      have hs2' : w1.heap.size < w2.heap.size := (Array.getElem?_eq_some_iff.1 G2).1
      clear G2
      go_wp2_with fail
      refine (conv_any a0 n0 c0 h X0 Y0 w2 (by omega) h1 h8 hX0 (H0.later hBw2)).mono ?_
      rintro x w3 ⟨rfl, G3, hB3⟩
      rw [← HC0.out] at G3
      have g3 : Hid (w3.heap[w2.heap.size]? = some (.cells (rowE C0 n0).toArray 64 (0, 0))) := G3
      have hBw3 : Below w.heap.size w w3 := hBw2.trans (hB3.mono hBw2.size)
      have hs3' : w2.heap.size < w3.heap.size := (Array.getElem?_eq_some_iff.1 G3).1
      clear G3
      go_wp2_with fail
      refine (conv_any a1 n1 c1 h X1 Y1 w3 (by omega) h1 h8 hX1 (H1.later hBw3)).mono ?_
      rintro x w4 ⟨rfl, G4, hB4⟩
      rw [← HC1.out] at G4
      have g4 : Hid (w4.heap[w3.heap.size]? = some (.cells (rowE C1 n1).toArray 64 (0, 0))) := G4
      have hBw4 : Below w.heap.size w w4 := hBw3.trans (hB4.mono hBw3.size)
      have hs4' : w3.heap.size < w4.heap.size := (Array.getElem?_eq_some_iff.1 G4).1
      clear G4 Hr H0 H1
      go_wp2_with (at_make; refine wpList_make_own _ rfl _ _ 27 rfl w4.heap.size 64 i0 _ 2 Yba.underlying27 hi hz0 hz1 .i64 .i64 _ (n0 + n1) rfl rfl (by omega) (by rw [hz2]; omega) (by unfold maxLen; omega) (Nat.le_refl _) ?_)
      intro w5 hown5 hgr5
      have hB5 : Below w4.heap.size w4 w5 := (Below.refl _ _).grown hgr5 (Nat.le_refl _) (by simp)
      have hs5' : w4.heap.size < w5.heap.size := (hown5.lt _ rfl).2
      clear hgr5
      have g3' : Hid (w5.heap[w2.heap.size]? = some (.cells (rowE C0 n0).toArray 64 (0, 0))) := (hB5.block _ (by omega)).trans ((hB4.block _ (by omega)).trans g3.out)
      go_wp2_with (at_builtin; refine wpList_append_fits _ rfl (.tmp 138) (.tmp 139) 27 rfl w4.heap.size 64 i0 2 Yba.underlying27 hi hz1 w4.heap.size 0 (n0 + n1) [] rfl hown5 ⟨w2.heap.size, 0, none⟩ n0 n0 (rowE C0 n0) rfl ?hnA ?hcA ?h1A (by omega) ?_)
      case hnA => rw [rowE_length]
      case hcA => exact row_adds g3'.out
      case h1A => exact rowE_one C0 n0
      intro w6 hown6 hgr6
      have hB6 : Below w4.heap.size w4 w6 := hB5.grown hgr6 (by omega) (by simp)
      have hs6' : w4.heap.size < w6.heap.size := (hown6.lt _ rfl).2
      clear hgr6 hown5 hB5 hs5' g3'
      have g4' : Hid (w6.heap[w3.heap.size]? = some (.cells (rowE C1 n1).toArray 64 (0, 0))) := (hB6.block _ (by omega)).trans g4.out
      go_wp2_with (at_builtin; refine wpList_append_fits _ rfl (.tmp 141) (.tmp 142) 27 rfl w4.heap.size 64 i0 2 Yba.underlying27 hi hz1 w4.heap.size n0 (n0 + n1) (rowE C0 n0) rfl hown6 ⟨w3.heap.size, 0, none⟩ n1 n1 (rowE C1 n1) rfl ?hnB ?hcB ?h1B (by omega) ?_)
      case hnB => rw [rowE_length]
      case hcB => exact row_adds g4'.out
      case h1B => exact rowE_one C1 n1
      intro w7 hown7 hgr7
      have hB7 : Below w4.heap.size w4 w7 := hB6.grown hgr7 (by omega) (by simp)
      have hs7' : w4.heap.size < w7.heap.size := (hown7.lt _ rfl).2
      have g5 : Hid (w7.heap[w4.heap.size]? = some (.cells (rowE C0 n0 ++ rowE C1 n1).toArray 64 (0, 0))) := own_full hown7
      clear hgr7 hown6 hown7 hB6 hs6' g4'
      obtain ⟨e, He⟩ : ∃ e, Hid (e = sel % 2) := ⟨_, rfl⟩
      obtain ⟨f, Hf⟩ : ∃ f, Hid (f = sel / 2 % 2) := ⟨_, rfl⟩
      have he01 : e = 0 ∨ e = 1 := by rw [He.out]; omega
      have hf01 : f = 0 ∨ f = 1 := by rw [Hf.out]; omega
      go_wp2_with fail
      rw [← He.out, ← Hf.out]
      clear He Hf
      obtain ⟨loF, lenF, CF, bF, HF⟩ : ∃ (loF lenF : Nat) (CF : Nat → Ent) (bF : Nat), (f = 0 ∧ loF = 0 ∧ lenF = n0 ∧ CF = C0 ∧ bF = w2.heap.size) ∨ (f = 1 ∧ loF = n0 * 2 ∧ lenF = n1 ∧ CF = C1 ∧ bF = w3.heap.size) := by
        rcases hf01 with hf01 | hf01
        · exact ⟨_, _, _, _, .inl ⟨hf01, rfl, rfl, rfl, rfl⟩⟩
        · exact ⟨_, _, _, _, .inr ⟨hf01, rfl, rfl, rfl, rfl⟩⟩
      obtain ⟨loE, lenE, bE, hostE, ownE, HE⟩ : ∃ (loE lenE bE : Nat) (hostE ownE : Int), (e = 0 ∧ loE = 0 ∧ lenE = n0 ∧ bE = w2.heap.size ∧ hostE = host0 ∧ ownE = own0) ∨ (e = 1 ∧ loE = n0 * 2 ∧ lenE = n1 ∧ bE = w3.heap.size ∧ hostE = host1 ∧ ownE = own1) := by
        rcases he01 with he01 | he01
        · exact ⟨_, _, _, _, _, .inl ⟨he01, rfl, rfl, rfl, rfl, rfl⟩⟩
        · exact ⟨_, _, _, _, _, .inr ⟨he01, rfl, rfl, rfl, rfl, rfl⟩⟩
      have hBw7 : Below w.heap.size w w7 := hBw4.trans (hB7.mono hBw4.size)
      have LOG := callW_log w7 w.heap.size h w4.heap.size n0 n1 host0 own0 host1 own1
      have hB8 := callW_below w7 w.heap.size h w4.heap.size n0 n1 host0 own0 host1 own1
      obtain ⟨v0, v2, v5, v7⟩ := callW_evs w7 w.heap.size h w4.heap.size n0 n1 host0 own0 host1 own1
      change Calls Yba.prog 5 _ (callW w7 w.heap.size h w4.heap.size n0 n1 host0 own0 host1 own1) _
      obtain ⟨W, hW⟩ : ∃ W, W = callW w7 w.heap.size h w4.heap.size n0 n1 host0 own0 host1 own1 := ⟨_, rfl⟩
      rw [← hW] at LOG hB8 v0 v2 v5 v7 ⊢
      clear hW
      have hBW : Below w.heap.size w W := hBw7.trans (hB8.mono hBw7.size)
      have ENV : Env W w.heap.size h wz.heap.size w1.heap.size w2.heap.size w3.heap.size w4.heap.size w7.heap.size nr n0 n1 M A R C0 C1 host0 own0 host1 own1 := by
        have hb4 : Below w4.heap.size w4 W := hB7.trans (hB8.mono hB7.size)
        have hb3 : Below w3.heap.size w3 W := hB4.trans (hb4.mono hB4.size)
        have hb2 : Below w2.heap.size w2 W := hB3.trans (hb3.mono hB3.size)
        have hb1 : Below w1.heap.size w1 W := hB2.trans (hb2.mono hB2.size)
        have hbr : Below wz.heap.size wz W := hB1.trans (hb1.mono hB1.size)
        have q := entsAt_two g5.out
        exact ⟨fun j hj => cell_later hbr (row_cell HT.out.met j hj), fun j hj => cell_later hbr (row_cell HT.out.atv j hj), fun j hj => cell_later hbr (row_cell HT.out.atc j hj), (entsAt_row g1.out).later hb1, (entsAt_row g2.out).later hb2, (entsAt_row g3.out).later hb3, (entsAt_row g4.out).later hb4, q.1.later hB8, q.2.later hB8, v0, v2, v5, v7⟩
      have EH : Hid (Env W w.heap.size h wz.heap.size w1.heap.size w2.heap.size w3.heap.size w4.heap.size w7.heap.size nr n0 n1 M A R C0 C1 host0 own0 host1 own1) := ENV
      have hZR : ∀ k, (R k).h < h ∧ 0 ≤ (R k).n ∧ (R k).n ≤ 18446744073709551615 := fun k => by rw [HRd.out]; exact ⟨mod_lt (XR k) h1, hYR k⟩
      have hZ0 : ∀ k, (C0 k).h < h ∧ 0 ≤ (C0 k).n ∧ (C0 k).n ≤ 18446744073709551615 := fun k => by rw [HC0.out]; exact ⟨mod_lt (X0 k) h1, hY0 k⟩
      have hZ1 : ∀ k, (C1 k).h < h ∧ 0 ≤ (C1 k).n ∧ (C1 k).n ≤ 18446744073709551615 := fun k => by rw [HC1.out]; exact ⟨mod_lt (X1 k) h1, hY1 k⟩
      have hZF : ∀ k, (CF k).h < h ∧ 0 ≤ (CF k).n ∧ (CF k).n ≤ 18446744073709551615 := by
        rcases HF with ⟨_, _, _, rfl, _⟩ | ⟨_, _, _, rfl, _⟩
        · exact hZ0
        · exact hZ1
      have hHE : 0 ≤ hostE ∧ hostE ≤ 4294967295 := by rcases HE with ⟨_, _, _, _, rfl, _⟩ | ⟨_, _, _, _, rfl, _⟩ <;> omega
      have NB : NbAt W wz.heap.size (w.heap.size + 1) w.heap.size w4.heap.size w7.heap.size h nr loF lenF e hostE ownE A M R CF := by
        refine ⟨ENV.atv, ENV.met, ENV.r1, ?_, ?_, ?_⟩
        · rcases HF with ⟨_, rfl, rfl, rfl, _⟩ | ⟨_, rfl, rfl, rfl, _⟩
          · exact ENV.q0
          · exact ENV.q1
        · rcases HE with ⟨rfl, _, _, _, rfl, _⟩ | ⟨rfl, _, _, _, rfl, _⟩
          · exact ENV.e0
          · exact ENV.e5
        · rcases HE with ⟨rfl, _, _, _, _, rfl⟩ | ⟨rfl, _, _, _, _, rfl⟩
          · exact ENV.e2
          · exact ENV.e7
      clear ENV g1 g2 g3 g4 g5 HT v0 v2 v5 v7 hB8 hB7 hB4 hB3 hB2 hB1 hBw1 hBw2 hBw3 hBw4 hBw7 hB hXR hX0 hX1 hYR hY0 hY1 HRd HC0 HC1 hs
      obtain ⟨m, HMo⟩ : ∃ m, Hid (m = mo A M R nr) := ⟨_, rfl⟩
      obtain ⟨o, HO⟩ : ∃ o, Hid (o = ow hostE R nr) := ⟨_, rfl⟩
      obtain ⟨s, HS⟩ : ∃ s, Hid (s = sm A (decide (lenF < lenE)) CF lenF) := ⟨_, rfl⟩
      refine (nb_core m o s (w7.heap.size + 1 + 1 + 1 + 1 + 1) w.heap.size h (w7.heap.size + 1) w7.heap.size (w7.heap.size + 1 + 1) w4.heap.size (w7.heap.size + 1 + 1 + 1 + 1) (w7.heap.size + 1 + 1 + 1) n0 n1 wz.heap.size (w.heap.size + 1) nr loF lenF loE lenE e f hostE ownE A M R CF W LOG NB (by omega) (by omega) h1 he01 ?hF ?hE (fun k => (hZR k).1) (fun k => (hZR k).2) (fun k => (hZF k).1) (fun k => (hZF k).2) hHE.1 hHE.2 HMo HO HS).mono ?_
      case hF => rcases HF with ⟨a, b, c, _, _⟩ | ⟨a, b, c, _, _⟩; exact .inl ⟨a, b, c⟩; exact .inr ⟨a, b, c⟩
      case hE => rcases HE with ⟨a, b, c, _⟩ | ⟨a, b, c, _⟩; exact .inl ⟨a, b, c⟩; exact .inr ⟨a, b, c⟩
      rintro x W1 ⟨hx, hbW⟩
      obtain ⟨p0, p1, p2, p3, ok, rfl, HV⟩ := nbVal_of hx
      clear hx NB LOG
      go_upto_if 185 with fail
      obtain ⟨W2, hW2⟩ : ∃ W2, W2 = W1.alloc (.cells #[.int .i64 p0, .int .i64 p1, .int .i64 p2, .int .u8 p3] 60) := ⟨_, rfl⟩
      have y0 : W2.cell? ⟨W1.heap.size, 0, none⟩ = some (.int .i64 p0) := by rw [hW2]; simp
      have y1 : W2.cell? ⟨W1.heap.size, 1, none⟩ = some (.int .i64 p1) := by rw [hW2]; simp
      have y2 : W2.cell? ⟨W1.heap.size, 2, none⟩ = some (.int .i64 p2) := by rw [hW2]; simp
      have y3 : W2.cell? ⟨W1.heap.size, 3, none⟩ = some (.int .u8 p3) := by rw [hW2]; simp
      have hb2 : Below W.heap.size W W2 := by rw [hW2]; exact hbW.alloc hbW.size _
      rw [← hW2]
      clear hW2
      have YH : Hid (W2.cell? ⟨W1.heap.size, 0, none⟩ = some (.int .i64 p0) ∧ W2.cell? ⟨W1.heap.size, 1, none⟩ = some (.int .i64 p1) ∧ W2.cell? ⟨W1.heap.size, 2, none⟩ = some (.int .i64 p2) ∧ W2.cell? ⟨W1.heap.size, 3, none⟩ = some (.int .u8 p3)) := ⟨y0, y1, y2, y3⟩
      clear y0 y1 y2 y3
      have E2 : Hid (Env W2 w.heap.size h wz.heap.size w1.heap.size w2.heap.size w3.heap.size w4.heap.size w7.heap.size nr n0 n1 M A R C0 C1 host0 own0 host1 own1) := EH.out.later hb2
      have HEF : Hid (((e = 0 ∧ loE = 0 ∧ lenE = n0 ∧ bE = w2.heap.size ∧ hostE = host0 ∧ ownE = own0) ∨ (e = 1 ∧ loE = n0 * 2 ∧ lenE = n1 ∧ bE = w3.heap.size ∧ hostE = host1 ∧ ownE = own1)) ∧ ((f = 0 ∧ loF = 0 ∧ lenF = n0 ∧ CF = C0 ∧ bF = w2.heap.size) ∨ (f = 1 ∧ loF = n0 * 2 ∧ lenF = n1 ∧ CF = C1 ∧ bF = w3.heap.size))) := ⟨HE, HF⟩
      have HEF01 : Hid ((e = 0 ∨ e = 1) ∧ (f = 0 ∨ f = 1)) := ⟨he01, hf01⟩
      have hlF : lenF ≤ 1048576 := by rcases HF with ⟨_, _, x, _⟩ | ⟨_, _, x, _⟩ <;> omega
      have hlE : lenE ≤ 1048576 := by rcases HE with ⟨_, _, x, _⟩ | ⟨_, _, x, _⟩ <;> omega
      clear HE HF he01 hf01 EH
      go_cut [39] from 184 to 186 (fun v wx => v = .slice (some ⟨bE, 0, none⟩) lenE lenE ∧ wx = W2)
      case first =>
        rcases HEF.out.1 with ⟨rfl, _, rfl, rfl, _, _⟩ | ⟨rfl, _, rfl, rfl, _, _⟩
        all_goals
          go_wp2
          go_meet
          exact ⟨rfl, rfl⟩
      case rest =>
        obtain ⟨rfl, rfl⟩ := hcut
        go_upto_if 188 with fail
        go_cut [40] from 187 to 189 (fun v wx => v = .slice (some ⟨bF, 0, none⟩) lenF lenF ∧ wx = wc)
        case first =>
          rcases HEF.out.2 with ⟨rfl, _, rfl, _, rfl⟩ | ⟨rfl, _, rfl, _, rfl⟩
          all_goals
            go_wp2
            go_meet
            exact ⟨rfl, rfl⟩
        case rest =>
          obtain ⟨rfl, rfl⟩ := hcut
          have he0 : 0 ≤ e := by rcases HEF01.out.1 with h | h <;> omega
          have he2 : e < 2 := by rcases HEF01.out.1 with h | h <;> omega
          have hHE0 : 0 ≤ hostE := hHE.1
          have hHE1 : hostE ≤ 4294967295 := hHE.2
          have u0 : wc.cell? ⟨w7.heap.size, e.toNat * 5, none⟩ = some (.int .u32 hostE) := by
            rcases HEF.out.1 with ⟨rfl, _, _, _, rfl, _⟩ | ⟨rfl, _, _, _, rfl, _⟩
            · exact E2.out.e0
            · exact E2.out.e5
          have u2 : wc.cell? ⟨w7.heap.size, e.toNat * 5 + 2, none⟩ = some (.int .u64 ownE) := by
            rcases HEF.out.1 with ⟨rfl, _, _, _, _, rfl⟩ | ⟨rfl, _, _, _, _, rfl⟩
            · exact E2.out.e2
            · exact E2.out.e7
          go_upto_region 35 with fail
          go_cut [218] from 201 to 218 (fun v wx => v = .bool false ∧ wx = wc)
          case first =>
            have t0 := E2.out.e0
            have t2 := E2.out.e2
            clear u0 u2
            rcases HEF01.out.1 with rfl | rfl
            all_goals
              go_wp2
              go_meet
              exact ⟨rfl, rfl⟩
          case rest =>
            obtain ⟨rfl, rfl⟩ := hcut
            go_upto_region 37 with fail
            go_cut [236] from 219 to 236 (fun v wx => v = .bool false ∧ wx = wc)
            case first =>
              have t5 := E2.out.e5
              have t7 := E2.out.e7
              clear u0 u2
              rcases HEF01.out.1 with rfl | rfl
              all_goals
                go_wp2
                go_meet
                exact ⟨rfl, rfl⟩
            case rest =>
              obtain ⟨rfl, rfl⟩ := hcut
              clear u0 u2
              go_wp2
              obtain ⟨wo, rfl⟩ : ∃ wo : World, wo = wc := ⟨_, rfl⟩
              obtain ⟨W3, hW3⟩ : ∃ W3, W3 = wo.alloc (.cells #[.int .i64 0, .int .i64 0, .int .i64 0, .int .u8 0] 60) := ⟨_, rfl⟩
              have Z3 : Hid (W3.heap[wo.heap.size]? = some zeroP) := by rw [hW3]; exact heap_alloc_new _ _
              have hb3 : Below wo.heap.size wo W3 := by rw [hW3]; exact (Below.refl _ _).alloc (Nat.le_refl _) _
              have hs3 : wo.heap.size < W3.heap.size := (Array.getElem?_eq_some_iff.1 Z3.out).1
              rw [← hW3]
              clear hW3
              have E3 : Hid (Env W3 w.heap.size h wz.heap.size w1.heap.size w2.heap.size w3.heap.size w4.heap.size w7.heap.size nr n0 n1 M A R C0 C1 host0 own0 host1 own1) := E2.out.later hb3
              go_loopw [45, 46, 239] (fun fo mm i wq => ∃ k : Nat, k ≤ nr ∧ i = .int .i64 k ∧ fo = .bool (fd A R k) ∧ mm = .int .i64 (mn A M R k) ∧ Below W3.heap.size W3 wq) (fun _ _ i _ => nr - (intOf i).toNat)
              case atStart => exact ⟨0, Nat.zero_le _, rfl, rfl, rfl, Below.refl _ _⟩
              case round =>
                obtain ⟨k, hk, rfl, rfl, rfl, hq⟩ := hrel
                by_cases hlt : k < nr
                · obtain ⟨z, HZ⟩ : ∃ z, Hid (z = R k) := ⟨_, rfl⟩
                  have E4 := E3.out.later hq
                  obtain ⟨d0, d1⟩ := E4.r2 k hlt
                  rw [← HZ.out] at d0 d1
                  simp only [Nat.zero_add] at d0 d1
                  have hzh : z.h < h := by rw [HZ.out]; exact (hZR k).1
                  have hz0' : 0 ≤ z.n := by rw [HZ.out]; exact (hZR k).2.1
                  have hz1' : z.n ≤ 18446744073709551615 := by rw [HZ.out]; exact (hZR k).2.2
                  have dc := E4.atc _ hzh
                  have dm := E4.met _ hzh
                  have hzi : (z.h : Int) < (h : Int) := by omega
                  have bd := World.block_lt_of_cell? _ _ d0
                  have bc := World.block_lt_of_cell? _ _ dc
                  have bm := World.block_lt_of_cell? _ _ dm
                  simp only at bd bc bm
                  clear E4
                  by_cases hx : A z.h < z.n
                  · as_aux_lemma =>
                      have KX : Hid (A (R k).h < (R k).n) := by rw [← HZ.out]; exact hx
                      cases hfd : fd A R k
                      · go_wp2
                        go_quiet (fail)
                        go_wp2
                        go_roundw
                        case rel => exact ⟨k + 1, by omega, by go_num, by rw [fd_hit KX.out], by rw [mn_take KX.out (.inl hfd), HZ.out], below_drewN (hq.alloc hq.size _) _⟩
                        case measure => simp [intOf]; omega
                      · by_cases hl : M z.h < mn A M R k
                        · go_wp2
                          go_quiet (fail)
                          go_wp2
                          go_roundw
                          case rel => exact ⟨k + 1, by omega, by go_num, by rw [fd_hit KX.out], by rw [mn_take KX.out (.inr (by rw [← HZ.out]; exact hl)), HZ.out], below_drewN (hq.alloc hq.size _) _⟩
                          case measure => simp [intOf]; omega
                        · go_wp2
                          go_quiet (fail)
                          go_wp2
                          go_roundw
                          case rel => exact ⟨k + 1, by omega, by go_num, by rw [fd_hit KX.out], by rw [mn_keep2 hfd (by rw [← HZ.out]; omega)], below_drewN (hq.alloc hq.size _) _⟩
                          case measure => simp [intOf]; omega
                  · as_aux_lemma =>
                      have hxd : decide (A z.h < z.n) = false := by simpa using hx
                      have KX : Hid (¬ A (R k).h < (R k).n) := by rw [← HZ.out]; exact hx
                      clear hx
                      go_wp2
                      go_quiet (fail)
                      go_wp2
                      go_roundw
                      case rel => exact ⟨k + 1, by omega, by go_num, by rw [fd_miss (by have := KX.out; omega)], by rw [mn_keep (by have := KX.out; omega)], below_drewN (hq.alloc hq.size _) _⟩
                      case measure => simp [intOf]; omega
                · obtain rfl : nr = k := by omega
                  go_upto_if 268 with fail
                  have HFD := fd_mo (M := M) (Z := R) hA nr
                  have hpos : Hid (0 < m.n ↔ fd A R nr = true) := by rw [HMo.out]; exact HFD.1.symm
                  have W3q : Below W3.heap.size W3 wr := hq
                  have hs4 : wo.heap.size < wr.heap.size := by have := hq.size; omega
                  have Zr := (hq.block wo.heap.size hs3).trans Z3.out
                  have E4 : Hid (Env wr w.heap.size h wz.heap.size w1.heap.size w2.heap.size w3.heap.size w4.heap.size w7.heap.size nr n0 n1 M A R C0 C1 host0 own0 host1 own1) := E3.out.later hq
                  have j0 : wr.cell? ⟨wo.heap.size, 0, none⟩ = some (.int .i64 0) := by simp [World.cell?, Zr, zeroP]
                  have j1 : wr.cell? ⟨wo.heap.size, 1, none⟩ = some (.int .i64 0) := by simp [World.cell?, Zr, zeroP]
                  have j2 : wr.cell? ⟨wo.heap.size, 2, none⟩ = some (.int .i64 0) := by simp [World.cell?, Zr, zeroP]
                  have j3 : wr.cell? ⟨wo.heap.size, 3, none⟩ = some (.int .u8 0) := by simp [World.cell?, Zr, zeroP]
                  have JH : Hid (wr.heap[wo.heap.size]? = some zeroP) := Zr
                  clear Zr
                  go_cut [44, 45, 46] from 268 to 344 (fun v _ _ wx => v = .bool ok ∧ wx.cell? ⟨wo.heap.size, 0, none⟩ = some (.int .i64 p0) ∧ wx.cell? ⟨wo.heap.size, 1, none⟩ = some (.int .i64 p1) ∧ wx.cell? ⟨wo.heap.size, 2, none⟩ = some (.int .i64 p2) ∧ wx.cell? ⟨wo.heap.size, 3, none⟩ = some (.int .u8 p3) ∧ Below wo.heap.size wo wx)
                  case first =>
                    have f0 : wr.frozen? ⟨wo.heap.size, 0, none⟩ = false := by have := JH.out; simp [World.frozen?, this, zeroP]
                    have f1 : wr.frozen? ⟨wo.heap.size, 1, none⟩ = false := by have := JH.out; simp [World.frozen?, this, zeroP]
                    have f2 : wr.frozen? ⟨wo.heap.size, 2, none⟩ = false := by have := JH.out; simp [World.frozen?, this, zeroP]
                    have f3 : wr.frozen? ⟨wo.heap.size, 3, none⟩ = false := by have := JH.out; simp [World.frozen?, this, zeroP]
                    have FH : Hid ((wr.cell? ⟨wo.heap.size, 0, none⟩ = some (.int .i64 0) ∧ wr.cell? ⟨wo.heap.size, 1, none⟩ = some (.int .i64 0) ∧ wr.cell? ⟨wo.heap.size, 2, none⟩ = some (.int .i64 0) ∧ wr.cell? ⟨wo.heap.size, 3, none⟩ = some (.int .u8 0)) ∧ wr.frozen? ⟨wo.heap.size, 0, none⟩ = false ∧ wr.frozen? ⟨wo.heap.size, 1, none⟩ = false ∧ wr.frozen? ⟨wo.heap.size, 2, none⟩ = false ∧ wr.frozen? ⟨wo.heap.size, 3, none⟩ = false) := ⟨⟨j0, j1, j2, j3⟩, f0, f1, f2, f3⟩
                    have bwo : Below wo.heap.size wo wr := hb3.trans (hq.mono (by omega))
                    clear j0 j1 j2 j3 f0 f1 f2 f3 E2 E3 YH Z3 hBW hbW hb2 hb3 hq W3q
                    cases hfd : fd A R nr
                    · as_aux_lemma =>
                        have hneg : ¬ 0 < m.n := fun x => by have := hpos.out.1 x; rw [hfd] at this; cases this
                        obtain ⟨s0, HS0⟩ : ∃ s0, Hid (s0 = decide (lenF < lenE)) := ⟨_, rfl⟩
                        have HS' : Hid (s = sm A s0 CF lenF) := by rw [HS0.out]; exact HS.out
                        clear HS
                        have KF : Hid (EntsAt wr bF 0 CF lenF) := by
                          rcases HEF.out.2 with ⟨_, _, rfl, rfl, rfl⟩ | ⟨_, _, rfl, rfl, rfl⟩
                          · exact E4.out.k0
                          · exact E4.out.k1
                        clear hpos HFD
                        obtain ⟨wp, rfl⟩ : ∃ wp : World, wp = wr := ⟨_, rfl⟩
                        go_wp2
                        go_loop [51, 52] (fun ov i => ∃ k : Nat, k ≤ nr ∧ i = .int .i64 ((k : Int) - 1) ∧ ov = .int .u64 0 ∧ Hid (∀ j, k ≤ j → j < nr → ¬ ((R j).h : Int) = hostE)) (fun _ i => (intOf i + 1).toNat)
                        case atStart => exact ⟨nr, Nat.le_refl _, rfl, rfl, fun j h2 h3 => absurd h3 (by omega)⟩
                        case round =>
                          obtain ⟨k, hk, rfl, rfl, HN⟩ := hrel
                          by_cases hk0 : k = 0
                          · have ho : Hid (o = 0) := by show o = 0; rw [HO.out]; exact ow_none fun j hj => HN.out j (by omega) hj
                            subst hk0
                            have ho' : o = 0 := ho.out
                            clear HN
                            by_cases hlo : 0 < ownE
                            · obtain ⟨rfl, rfl, rfl, rfl, rfl⟩ : p0 = 0 ∧ p1 = 0 ∧ p2 = 0 ∧ p3 = 0 ∧ ok = false := by
                                rcases HV.out with ⟨x, _⟩ | ⟨_, _, a, b, c, d, y⟩ | ⟨_, x, _⟩
                                · exact absurd x (by omega)
                                · exact ⟨a, b, c, d, y⟩
                                · exact absurd (by rw [ho.out]; exact hlo) x
                              obtain ⟨⟨j0, j1, j2, j3⟩, f0, f1, f2, f3⟩ := FH.out
                              go_wp2
                              go_meet
                              case rel => exact ⟨rfl, j0, j1, j2, j3, bwo⟩
                            · as_aux_lemma =>
                                obtain ⟨⟨j0, j1, j2, j3⟩, f0, f1, f2, f3⟩ := FH.out
                                have bwp : wo.heap.size < wp.heap.size := World.block_lt_of_cell? _ _ j0
                                clear j0 j1 j2 j3 f0 f1 f2 f3
                                go_wp2
                                go_loopw [53, 327] (fun v i wq => ∃ k : Nat, k ≤ lenF ∧ i = .int .i64 k ∧ v = .bool (sm A s0 CF k) ∧ Below wp.heap.size wp wq) (fun _ i _ => lenF - (intOf i).toNat)
                                case atStart => exact ⟨0, Nat.zero_le _, rfl, by simp [sm, HS0.out], Below.refl _ _⟩
                                case round =>
                                  obtain ⟨k, hk, rfl, rfl, hq⟩ := hrel
                                  by_cases hlt : k < lenF
                                  · obtain ⟨z, HZ⟩ : ∃ z, Hid (z = CF k) := ⟨_, rfl⟩
                                    obtain ⟨d0, d1⟩ := KF.out.later hq k hlt
                                    rw [← HZ.out] at d0 d1
                                    simp only [Nat.zero_add] at d0 d1
                                    have hzh : z.h < h := by rw [HZ.out]; exact (hZF k).1
                                    have hz0' : 0 ≤ z.n := by rw [HZ.out]; exact (hZF k).2.1
                                    have hz1' : z.n ≤ 18446744073709551615 := by rw [HZ.out]; exact (hZF k).2.2
                                    have dc := (E4.out.later hq).atc _ hzh
                                    have hzi : (z.h : Int) < (h : Int) := by omega
                                    have bd := World.block_lt_of_cell? _ _ d0
                                    have bc := World.block_lt_of_cell? _ _ dc
                                    simp only at bd bc
                                    have hsm : Hid (sm A s0 CF (k + 1) = (sm A s0 CF k || decide (z.n < A z.h))) := by rw [HZ.out]; rfl
                                    by_cases hx : z.n < A z.h
                                    · go_wp2
                                      go_quiet (fail)
                                      go_wp2
                                      go_roundw
                                      case rel => exact ⟨k + 1, by omega, by go_num, by rw [hsm.out]; simp [hx], below_drewN (hq.alloc hq.size _) _⟩
                                      case measure => simp [intOf]; omega
                                    · as_aux_lemma =>
                                        have hsk : Hid (sm A s0 CF (k + 1) = sm A s0 CF k) := by
                                          have h2 := hsm.out
                                          rw [decide_eq_false hx, Bool.or_false] at h2
                                          exact h2
                                        go_wp2
                                        go_quiet (fail)
                                        go_wp2
                                        go_roundw
                                        case rel => exact ⟨k + 1, by omega, by go_num, by rw [hsk.out], below_drewN (hq.alloc hq.size _) _⟩
                                        case measure => simp [intOf]; omega
                                  · obtain rfl : lenF = k := by omega
                                    rw [← HS'.out]
                                    have HH : wr.heap[wo.heap.size]? = some zeroP := (hq.block _ bwp).trans JH.out
                                    have bwr : Below wo.heap.size wo wr := bwo.trans (hq.mono (by omega))
                                    obtain ⟨⟨j0, j1, j2, j3⟩, f0, f1, f2, f3⟩ := FH.out
                                    have j0 := cell_later hq j0
                                    have j1 := cell_later hq j1
                                    have j2 := cell_later hq j2
                                    have j3 := cell_later hq j3
                                    have f0 := (hq.frozen (p := ⟨wo.heap.size, 0, none⟩) bwp).trans f0
                                    have f1 := (hq.frozen (p := ⟨wo.heap.size, 1, none⟩) bwp).trans f1
                                    have f2 := (hq.frozen (p := ⟨wo.heap.size, 2, none⟩) bwp).trans f2
                                    have f3 := (hq.frozen (p := ⟨wo.heap.size, 3, none⟩) bwp).trans f3
                                    have HHh : Hid (wr.heap[wo.heap.size]? = some zeroP) := HH
                                    clear HH
                                    cases hsv : s
                                    · obtain ⟨rfl, rfl, rfl, rfl, rfl⟩ : p0 = e ∧ p1 = f ∧ p2 = -1 ∧ p3 = 5 ∧ ok = true := by
                                        rcases HV.out with ⟨x, _⟩ | ⟨_, x, _⟩ | ⟨_, _, _, a, b, c, d, y⟩
                                        · exact absurd x (by omega)
                                        · rcases x with x | x
                                          · exact absurd x (by omega)
                                          · rw [hsv] at x; cases x
                                        · exact ⟨a, b, c, d, y⟩
                                      go_wp2
                                      go_meet
                                      case rel =>
                                        have G := want4 HHh.out bwr p0 p1 (-1) 5
                                        exact ⟨rfl, G.1, G.2.1, G.2.2.1, G.2.2.2.1, G.2.2.2.2⟩
                                    · obtain ⟨rfl, rfl, rfl, rfl, rfl⟩ : p0 = 0 ∧ p1 = 0 ∧ p2 = 0 ∧ p3 = 0 ∧ ok = false := by
                                        rcases HV.out with ⟨x, _⟩ | ⟨_, _, a, b, c, d, y⟩ | ⟨_, _, x, _⟩
                                        · exact absurd x (by omega)
                                        · exact ⟨a, b, c, d, y⟩
                                        · rw [hsv] at x; cases x
                                      go_wp2
                                      go_meet
                                      case rel => exact ⟨rfl, j0, j1, j2, j3, bwr⟩
                          · obtain ⟨j, rfl⟩ : ∃ j, k = j + 1 := ⟨k - 1, by omega⟩
                            have ej : (((j + 1 : Nat) : Int) - 1) = (j : Int) := by omega
                            rw [ej]
                            obtain ⟨z, HZ⟩ : ∃ z, Hid (z = R j) := ⟨_, rfl⟩
                            obtain ⟨d0, d1⟩ := E4.out.r2 j (by omega)
                            rw [← HZ.out] at d0 d1
                            simp only [Nat.zero_add] at d0 d1
                            have hji : (j : Int) < (nr : Int) := by omega
                            clear ej
                            cases hm : ((z.h : Int) == hostE)
                            · have KN : Hid (∀ i, j ≤ i → i < nr → ¬ ((R i).h : Int) = hostE) := fun i h2 h3 => by
                                by_cases ei : i = j
                                · subst ei; rw [← HZ.out]; simpa using hm
                                · exact HN.out i (by omega) h3
                              clear HN
                              go_wp2
                              go_round
                              case rel => exact ⟨j, by omega, rfl, rfl, KN⟩
                              case measure => simp [intOf] <;> omega
                            · have ho : Hid (o = z.n) := by show o = z.n; rw [HO.out, HZ.out]; exact ow_last (by omega) (by rw [← HZ.out]; simpa using hm) fun i h2 h3 => HN.out i (by omega) h3
                              have hz0' : 0 ≤ z.n := by rw [HZ.out]; exact (hZR j).2.1
                              have hz1' : z.n ≤ 18446744073709551615 := by rw [HZ.out]; exact (hZR j).2.2
                              clear HN
                              obtain ⟨ov, HOV⟩ : ∃ ov, Hid (ov = z.n) := ⟨_, rfl⟩
                              rw [← HOV.out] at d1 hz0' hz1' ho
                              have ho' : o = ov := ho.out
                              subst ho'
                              by_cases hlo : o < ownE
                              · obtain ⟨rfl, rfl, rfl, rfl, rfl⟩ : p0 = 0 ∧ p1 = 0 ∧ p2 = 0 ∧ p3 = 0 ∧ ok = false := by
                                  rcases HV.out with ⟨x, _⟩ | ⟨_, _, a, b, c, d, y⟩ | ⟨_, x, _⟩
                                  · exact absurd x (by omega)
                                  · exact ⟨a, b, c, d, y⟩
                                  · exact absurd (show o < ownE by omega) x
                                obtain ⟨⟨j0, j1, j2, j3⟩, f0, f1, f2, f3⟩ := FH.out
                                go_wp2
                                go_meet
                                case rel => exact ⟨rfl, j0, j1, j2, j3, bwo⟩
                              · as_aux_lemma =>
                                  obtain ⟨⟨j0, j1, j2, j3⟩, f0, f1, f2, f3⟩ := FH.out
                                  have bwp : wo.heap.size < wp.heap.size := World.block_lt_of_cell? _ _ j0
                                  clear j0 j1 j2 j3 f0 f1 f2 f3
                                  go_wp2
                                  go_loopw [53, 327] (fun v i wq => ∃ k : Nat, k ≤ lenF ∧ i = .int .i64 k ∧ v = .bool (sm A s0 CF k) ∧ Below wp.heap.size wp wq) (fun _ i _ => lenF - (intOf i).toNat)
                                  case atStart => exact ⟨0, Nat.zero_le _, rfl, by simp [sm, HS0.out], Below.refl _ _⟩
                                  case round =>
                                    obtain ⟨k, hk, rfl, rfl, hq⟩ := hrel
                                    by_cases hlt : k < lenF
                                    · obtain ⟨z, HZ⟩ : ∃ z, Hid (z = CF k) := ⟨_, rfl⟩
                                      obtain ⟨d0, d1⟩ := KF.out.later hq k hlt
                                      rw [← HZ.out] at d0 d1
                                      simp only [Nat.zero_add] at d0 d1
                                      have hzh : z.h < h := by rw [HZ.out]; exact (hZF k).1
                                      have hz0' : 0 ≤ z.n := by rw [HZ.out]; exact (hZF k).2.1
                                      have hz1' : z.n ≤ 18446744073709551615 := by rw [HZ.out]; exact (hZF k).2.2
                                      have dc := (E4.out.later hq).atc _ hzh
                                      have hzi : (z.h : Int) < (h : Int) := by omega
                                      have bd := World.block_lt_of_cell? _ _ d0
                                      have bc := World.block_lt_of_cell? _ _ dc
                                      simp only at bd bc
                                      have hsm : Hid (sm A s0 CF (k + 1) = (sm A s0 CF k || decide (z.n < A z.h))) := by rw [HZ.out]; rfl
                                      by_cases hx : z.n < A z.h
                                      · go_wp2
                                        go_quiet (fail)
                                        go_wp2
                                        go_roundw
                                        case rel => exact ⟨k + 1, by omega, by go_num, by rw [hsm.out]; simp [hx], below_drewN (hq.alloc hq.size _) _⟩
                                        case measure => simp [intOf]; omega
                                      · as_aux_lemma =>
                                          have hsk : Hid (sm A s0 CF (k + 1) = sm A s0 CF k) := by
                                            have h2 := hsm.out
                                            rw [decide_eq_false hx, Bool.or_false] at h2
                                            exact h2
                                          go_wp2
                                          go_quiet (fail)
                                          go_wp2
                                          go_roundw
                                          case rel => exact ⟨k + 1, by omega, by go_num, by rw [hsk.out], below_drewN (hq.alloc hq.size _) _⟩
                                          case measure => simp [intOf]; omega
                                    · obtain rfl : lenF = k := by omega
                                      rw [← HS'.out]
                                      have HH : wr.heap[wo.heap.size]? = some zeroP := (hq.block _ bwp).trans JH.out
                                      have bwr : Below wo.heap.size wo wr := bwo.trans (hq.mono (by omega))
                                      obtain ⟨⟨j0, j1, j2, j3⟩, f0, f1, f2, f3⟩ := FH.out
                                      have j0 := cell_later hq j0
                                      have j1 := cell_later hq j1
                                      have j2 := cell_later hq j2
                                      have j3 := cell_later hq j3
                                      have f0 := (hq.frozen (p := ⟨wo.heap.size, 0, none⟩) bwp).trans f0
                                      have f1 := (hq.frozen (p := ⟨wo.heap.size, 1, none⟩) bwp).trans f1
                                      have f2 := (hq.frozen (p := ⟨wo.heap.size, 2, none⟩) bwp).trans f2
                                      have f3 := (hq.frozen (p := ⟨wo.heap.size, 3, none⟩) bwp).trans f3
                                      have HHh : Hid (wr.heap[wo.heap.size]? = some zeroP) := HH
                                      clear HH
                                      cases hsv : s
                                      · obtain ⟨rfl, rfl, rfl, rfl, rfl⟩ : p0 = e ∧ p1 = f ∧ p2 = -1 ∧ p3 = 5 ∧ ok = true := by
                                          rcases HV.out with ⟨x, _⟩ | ⟨_, x, _⟩ | ⟨_, _, _, a, b, c, d, y⟩
                                          · exact absurd x (by omega)
                                          · rcases x with x | x
                                            · exact absurd x (by omega)
                                            · rw [hsv] at x; cases x
                                          · exact ⟨a, b, c, d, y⟩
                                        go_wp2
                                        go_meet
                                        case rel =>
                                          have G := want4 HHh.out bwr p0 p1 (-1) 5
                                          exact ⟨rfl, G.1, G.2.1, G.2.2.1, G.2.2.2.1, G.2.2.2.2⟩
                                      · obtain ⟨rfl, rfl, rfl, rfl, rfl⟩ : p0 = 0 ∧ p1 = 0 ∧ p2 = 0 ∧ p3 = 0 ∧ ok = false := by
                                          rcases HV.out with ⟨x, _⟩ | ⟨_, _, a, b, c, d, y⟩ | ⟨_, _, x, _⟩
                                          · exact absurd x (by omega)
                                          · exact ⟨a, b, c, d, y⟩
                                          · rw [hsv] at x; cases x
                                        go_wp2
                                        go_meet
                                        case rel => exact ⟨rfl, j0, j1, j2, j3, bwr⟩
                    · as_aux_lemma =>
                        have hp : 0 < m.n := hpos.out.2 hfd
                        obtain ⟨rfl, rfl, rfl, rfl, rfl⟩ : p0 = e ∧ p1 = f ∧ p2 = m.h ∧ p3 = 4 ∧ ok = true := by
                          rcases HV.out with ⟨_, a, b, c, d, x⟩ | ⟨x, _⟩ | ⟨x, _⟩
                          · exact ⟨a, b, c, d, x⟩
                          · exact absurd hp x
                          · exact absurd hp x
                        have FIRST : Hid (∃ j, j < nr ∧ m = R j ∧ A (R j).h < (R j).n ∧ (∀ i, i < j → A (R i).h < (R i).n → M (R j).h < M (R i).h) ∧ mn A M R nr = M (R j).h) := by
                          obtain ⟨j, hj, hm, hxj, hb, _⟩ := mo_first (M := M) hA nr hfd
                          exact ⟨j, hj, by rw [HMo.out]; exact hm, hxj, hb, by rw [HFD.2 hfd, hm]⟩
                        clear hpos HFD HV
                        obtain ⟨mnv, HMN⟩ : ∃ v, Hid (v = mn A M R nr) := ⟨_, rfl⟩
                        rw [← HMN.out]
                        rw [← HMN.out] at FIRST
                        obtain ⟨wp, rfl⟩ : ∃ wp : World, wp = wr := ⟨_, rfl⟩
                        go_wp2
                        go_loopw [271] (fun i wq => ∃ k : Nat, k ≤ nr ∧ i = .int .i64 k ∧ Hid (∀ j, j < k → ¬ (A (R j).h < (R j).n ∧ M (R j).h = mnv)) ∧ Below wp.heap.size wp wq) (fun i _ => nr - (intOf i).toNat)
                        case atStart => exact ⟨0, Nat.zero_le _, rfl, fun j hj => absurd hj (Nat.not_lt_zero _), Below.refl _ _⟩
                        case round =>
                          obtain ⟨k, hk, rfl, HN, hq⟩ := hrel
                          by_cases hlt : k < nr
                          · obtain ⟨z, HZ⟩ : ∃ z, Hid (z = R k) := ⟨_, rfl⟩
                            have E5 := E4.out.later hq
                            obtain ⟨d0, d1⟩ := E5.r2 k hlt
                            rw [← HZ.out] at d0 d1
                            simp only [Nat.zero_add] at d0 d1
                            have hzh : z.h < h := by rw [HZ.out]; exact (hZR k).1
                            have hz0' : 0 ≤ z.n := by rw [HZ.out]; exact (hZR k).2.1
                            have hz1' : z.n ≤ 18446744073709551615 := by rw [HZ.out]; exact (hZR k).2.2
                            have dc := E5.atc _ hzh
                            have dm := E5.met _ hzh
                            have hzi : (z.h : Int) < (h : Int) := by omega
                            have bd := World.block_lt_of_cell? _ _ d0
                            have bc := World.block_lt_of_cell? _ _ dc
                            have bm := World.block_lt_of_cell? _ _ dm
                            simp only at bd bc bm
                            clear E5
                            by_cases hx : A z.h < z.n
                            · as_aux_lemma =>
                                cases hm : (M z.h == mnv)
                                · have KN : Hid (∀ j, j < k + 1 → ¬ (A (R j).h < (R j).n ∧ M (R j).h = mnv)) := fun j hj hh2 => by
                                    by_cases ej : j = k
                                    · subst ej; rw [← HZ.out] at hh2; simp at hm; exact hm hh2.2
                                    · exact HN.out j (by omega) hh2
                                  clear HN
                                  go_wp2
                                  go_quiet (fail)
                                  go_wp2
                                  go_roundw
                                  case rel => exact ⟨k + 1, by omega, by go_num, KN, below_drewN (hq.alloc hq.size _) _⟩
                                  case measure => simp [intOf]; omega
                                · have hzm : Hid (z.h = m.h) := by
                                    obtain ⟨j, hj, hmj, hxj, hb, hv⟩ := FIRST.out
                                    have hm' : M (R k).h = mnv := by rw [← HZ.out]; simpa using hm
                                    have hkj : k = j := by
                                      have h1 : ¬ k < j := fun hlt2 => by
                                        have := hb k hlt2 (by rw [← HZ.out]; exact hx)
                                        omega
                                      have h2 : ¬ j < k := fun hlt2 => HN.out j hlt2 ⟨hxj, by omega⟩
                                      omega
                                    show z.h = m.h
                                    rw [hmj, HZ.out, hkj]
                                  clear HN FIRST
                                  obtain ⟨⟨j0, j1, j2, j3⟩, f0, f1, f2, f3⟩ := FH.out
                                  have bwp : wo.heap.size < wp.heap.size := World.block_lt_of_cell? _ _ j0
                                  have j0 := cell_later hq j0
                                  have j1 := cell_later hq j1
                                  have j2 := cell_later hq j2
                                  have j3 := cell_later hq j3
                                  have f0 := (hq.frozen (p := ⟨wo.heap.size, 0, none⟩) bwp).trans f0
                                  have f1 := (hq.frozen (p := ⟨wo.heap.size, 1, none⟩) bwp).trans f1
                                  have f2 := (hq.frozen (p := ⟨wo.heap.size, 2, none⟩) bwp).trans f2
                                  have f3 := (hq.frozen (p := ⟨wo.heap.size, 3, none⟩) bwp).trans f3
                                  have bwr : wo.heap.size < wr.heap.size := by have := hq.size; omega
                                  go_wp2
                                  go_quiet (fail)
                                  go_wp2
                                  go_meet
                                  case rel =>
                                    have HH : ((wr.alloc (.cells #[.int .i64 z.h, .int .u64 z.n] 64)).drewN nq).heap[wo.heap.size]? = some zeroP := (Below.heap_alloc wr _ _ bwr).trans ((hq.block _ bwp).trans JH.out)
                                    have G := want4 HH (below_drewN ((bwo.trans (hq.mono (by omega))).alloc (by omega) _) nq) p0 p1 z.h 4
                                    rw [← hzm.out]
                                    exact ⟨rfl, G.1, G.2.1, G.2.2.1, G.2.2.2.1, G.2.2.2.2⟩
                            · as_aux_lemma =>
                                have hxd : decide (A z.h < z.n) = false := by simpa using hx
                                have KN : Hid (∀ j, j < k + 1 → ¬ (A (R j).h < (R j).n ∧ M (R j).h = mnv)) := fun j hj hh2 => by
                                  by_cases ej : j = k
                                  · subst ej; rw [← HZ.out] at hh2; exact hx hh2.1
                                  · exact HN.out j (by omega) hh2
                                clear hx HN
                                go_wp2
                                go_quiet (fail)
                                go_wp2
                                go_roundw
                                case rel => exact ⟨k + 1, by omega, by go_num, KN, below_drewN (hq.alloc hq.size _) _⟩
                                case measure => simp [intOf]; omega
                          · exfalso
                            obtain ⟨j, hj, hmj, hxj, hb, hv⟩ := FIRST.out
                            exact HN.out j (by omega) ⟨hxj, hv.symm⟩
                  case rest =>
                    as_aux_lemma =>
                      obtain ⟨rfl, k0, k1, k2, k3, hbx⟩ := hcut
                      have E5 : Hid (Env wc w.heap.size h wz.heap.size w1.heap.size w2.heap.size w3.heap.size w4.heap.size w7.heap.size nr n0 n1 M A R C0 C1 host0 own0 host1 own1) := E2.out.later hbx
                      have y0 := cell_later hbx YH.out.1
                      have y1 := cell_later hbx YH.out.2.1
                      have y2 := cell_later hbx YH.out.2.2.1
                      have y3 := cell_later hbx YH.out.2.2.2
                      have hBc : Below w.heap.size w wc := hBW.trans ((hb2.trans (hbx.mono hb2.size)).mono hBW.size)
                      clear j0 j1 j2 j3 JH E4 hpos HFD W3q hs4 hq E3 Z3 hb3 hs3 YH E2
                      go_wp2_with fail
                      refine (eq_any ⟨wz.heap.size, 0, none⟩ wz.heap.size 0 w1.heap.size 0 nr nr nr R wc (by omega) (fun _ => rfl) E5.out.r1 E5.out.r2).mono ?_
                      rintro x W6 ⟨rfl, q6, rfl⟩
                      clear y0 y1 y2 y3 k0 k1 k2 k3
                      go_wp2
                      go_loopw [56] (fun i wq => ∃ k q : Nat, k ≤ h ∧ i = .int .i64 k ∧ wq = wc.drewN q) (fun i _ => h - (intOf i).toNat)
                      case atStart => exact ⟨0, _, Nat.zero_le _, rfl, rfl⟩
                      case round =>
                        obtain ⟨k, q, hk, rfl, rfl⟩ := hrel
                        by_cases hlt : k < h
                        · as_aux_lemma =>
                            have t0 := E5.out.atv k hlt
                            have t1 := E5.out.atc k hlt
                            have hki : (k : Int) < (h : Int) := by omega
                            go_wp2
                            go_quiet (fail)
                            go_wp2
                            go_roundw
                            case rel => exact ⟨k + 1, _, by omega, by go_num, rfl⟩
                            case measure => simp [intOf]; omega
                        · as_aux_lemma =>
                            have E6 : Env (wc.drewN q) w.heap.size h wz.heap.size w1.heap.size w2.heap.size w3.heap.size w4.heap.size w7.heap.size nr n0 n1 M A R C0 C1 host0 own0 host1 own1 := E5.out.later (below_drewN (Below.refl _ _) q)
                            have E6h : Hid (Env (wc.drewN q) w.heap.size h wz.heap.size w1.heap.size w2.heap.size w3.heap.size w4.heap.size w7.heap.size nr n0 n1 M A R C0 C1 host0 own0 host1 own1) := E6
                            have hB6 : Below w.heap.size w (wc.drewN q) := below_drewN hBc q
                            clear E6 E5
                            obtain ⟨W6, hW6⟩ : ∃ W6, W6 = wc.drewN q := ⟨_, rfl⟩
                            rw [← hW6] at E6h hB6 ⊢
                            clear hW6
                            go_wp2_with fail
                            refine (eq_any ⟨w4.heap.size, 0, none⟩ w4.heap.size 0 w2.heap.size 0 n0 (n0 + n1) n0 C0 W6 (by omega) (fun _ => rfl) E6h.out.q0 E6h.out.k0).mono ?_
                            rintro x W7 ⟨rfl, q7, rfl⟩
                            have E7 : Hid (Env (W6.drewN q7) w.heap.size h wz.heap.size w1.heap.size w2.heap.size w3.heap.size w4.heap.size w7.heap.size nr n0 n1 M A R C0 C1 host0 own0 host1 own1) := E6h.out.later (below_drewN (Below.refl _ _) q7)
                            have hB7 : Below w.heap.size w (W6.drewN q7) := below_drewN hB6 q7
                            obtain ⟨W7, hW7⟩ : ∃ W7, W7 = W6.drewN q7 := ⟨_, rfl⟩
                            rw [← hW7] at E7 hB7 ⊢
                            clear hW7 E6h
                            have t0 := E7.out.e0
                            have t2 := E7.out.e2
                            have t5 := E7.out.e5
                            have t7 := E7.out.e7
                            rcases Nat.eq_zero_or_pos n1 with hn1 | hn1
                            · go_wp2_with fail
                              refine (eq_empty (some ⟨w4.heap.size, 0, none⟩) (some ⟨w3.heap.size, 0, none⟩) 0 0 W7).mono ?_
                              rintro x W8 ⟨rfl, rfl⟩
                              go_wp2
                              go_ret
                              exact ⟨rfl, hB7⟩
                            · have hn1' : ¬ n0 + n1 = n0 := by omega
                              go_wp2_with fail
                              refine (eq_any ⟨w4.heap.size, n0 * 2, none⟩ w4.heap.size (n0 * 2) w3.heap.size 0 n1 n1 n1 C1 W7 (by omega) (fun _ => rfl) E7.out.q1 E7.out.k1).mono ?_
                              rintro x W8 ⟨rfl, q8, rfl⟩
                              go_wp2
                              go_ret
                              exact ⟨rfl, below_drewN hB7 q8⟩

end Go.Proofs.Ybulkeahk
