/-
  THE MODEL's put: zzs6342bput.
-/
import Derived.Test.YbulkeahyFmtRCheck
import Derived.Laws.StructEq
import Derived.Deep.OwnRows
namespace Go.Proofs.YbulkeahyFmtR
open Go.RowKit Go.Deep

theorem Ybaf.info46 : (Ybaf.prog.info? 46).map (fun i => (i.zero, i.size, i.bytes)) = some (some (.agg #[.string ⟨#[]⟩, .int .u64 0, .int .u64 0]), 3, 32) := by kernel_rfl

def itCells (x : It) : List Value := [.string x.1, .int .u64 x.2.1, .int .u64 x.2.2]
def rowI (Y : List It) : List Value := Y.flatMap itCells
theorem rowI_snoc (Y : List It) (x : It) : rowI (Y ++ [x]) = rowI Y ++ itCells x := by simp [rowI]
theorem rowI_len (Y : List It) : (rowI Y).length = Y.length * 3 := by
  induction Y with
  | nil => rfl
  | cons x Y ih => show (itCells x ++ rowI Y).length = _; rw [List.length_append, ih]; simp [itCells]; omega
theorem rowI_at (Y : List It) (j i : Nat) (x : It) (h : Y[j]? = some x) (hi : i < 3) : (rowI Y)[j * 3 + i]? = (itCells x)[i]? := by
  induction Y generalizing j with
  | nil => simp at h
  | cons y Y ih =>
    show (itCells y ++ rowI Y)[j * 3 + i]? = _
    cases j with
    | zero =>
      simp at h
      subst h
      rw [List.getElem?_append_left (by simp [itCells]; omega), Nat.zero_mul, Nat.zero_add]
    | succ j =>
      rw [List.getElem?_append_right (by simp [itCells]; omega)]
      have e : (j + 1) * 3 + i - (itCells y).length = j * 3 + i := by simp [itCells]; omega
      rw [e]
      exact ih j (by simpa using h)
theorem items_own {w : World} {base g n cap : Nat} {Y : List It} (h : w.ownsRow base 46 3 (.slice (some ⟨g, 0, none⟩) n cap) n (rowI Y)) (hn : n = Y.length) : Items w g 0 Y := by
  intro j x hj
  have hl : j < Y.length := (List.getElem?_eq_some_iff.1 hj).1
  have e : ∀ i, i < 3 → w.cell? ⟨g, j * 3 + i, none⟩ = (itCells x)[i]? := fun i hi => by
    rw [h.cellAt (j * 3 + i) (by omega)]
    exact rowI_at Y j i x hj hi
  rw [Nat.zero_add]
  exact ⟨e 0 (by decide), e 1 (by decide), e 2 (by decide)⟩
theorem Items.later {w w' : World} {b o : Nat} {X : List It} (h : Items w b o X) (hh : w'.heap[b]? = w.heap[b]?) : Items w' b o X := by
  intro j x hj
  obtain ⟨a0, a1, a2⟩ := h j x hj
  exact ⟨(World.cell?_of_block (a := ⟨b, _, none⟩) hh).trans a0, (World.cell?_of_block (a := ⟨b, _, none⟩) hh).trans a1, (World.cell?_of_block (a := ⟨b, _, none⟩) hh).trans a2⟩
theorem Items.drop {w : World} {b o : Nat} {X : List It} (h : Items w b o X) (s : Nat) : Items w b (o + s * 3) (X.drop s) := by
  intro j x hj
  rw [List.getElem?_drop] at hj
  have := h (s + j) x hj
  rw [show o + s * 3 + j * 3 = o + (s + j) * 3 by omega]
  exact this

theorem cells3_new (W : World) (v0 v1 v2 : Value) (t : TypeId) (g : Nat) (hg : g = W.heap.size) : ∀ j u, [v0, v1, v2][j]? = some u → (W.alloc (.cells #[v0, v1, v2] t)).cell? ((⟨g, 0, none⟩ : Addr).add j) = some u := by
  subst hg
  intro j u hj
  match j, hj with
  | 0, hj => simp at hj; subst hj; simp [Addr.add]
  | 1, hj => simp at hj; subst hj; simp [Addr.add]
  | 2, hj => simp at hj; subst hj; simp [Addr.add]
  | j + 3, hj => simp at hj
theorem one3 (x : It) : ∀ u ∈ itCells x, u.oneCell' = true := by
  intro u hu
  simp [itCells] at hu
  rcases hu with rfl | rfl | rfl <;> rfl

def slen : Value → Nat
  | .slice _ n _ => n
  | _ => 0
def notC (c : ByteArray) (x : It) : Bool := !(x.1.toList == c.toList)

/-- What zzs6342bput leaves: a new row that holds the new model. -/
def MPost (w : World) (X : List It) (e : Ending) (w' : World) : Prop :=
  ∃ o cap, e = .returned (.slice (some ⟨w.heap.size + 1, o, none⟩) X.length cap) ∧ Items w' (w.heap.size + 1) o X ∧ w.heap.size + 1 < w'.heap.size ∧ Below w.heap.size w w'

set_option maxRecDepth 100000 in
set_option maxHeartbeats 1000000 in
theorem mput_any (a : Option Addr) (n cp : Nat) (lim : Int) (c : ByteArray) (q f : Int) (X : List It) (w : World) (hX : Hid (n = X.length)) (hn : n ≤ 1000000) (h0 : 0 ≤ lim) (h1 : lim ≤ 18446744073709551615)
    (hcase : n = 0 ∨ ∃ b off, a = some ⟨b, off, none⟩ ∧ b < w.heap.size ∧ Items w b off X) :
    Calls Ybaf.prog 5 #[.slice a n cp, .int .u64 lim, .string c, .agg #[.int .u64 q, .int .u64 f]] w (MPost w (mput lim X c q f)) := by
  obtain ⟨i0, hi, hz0, hz1, hz2⟩ := info_parts Ybaf.info46
  rcases (show Hid (n = 0) ∨ _ from hcase) with hcase | ⟨b, off, rfl, hbb, hcase⟩
  all_goals
    go_enter Ybaf.func5, Ybaf.ntmps5
    go_wp2_with (at_make; refine wpList_make_own _ rfl _ _ 27 rfl (w.heap.size + 1) 46 i0 _ 3 Ybaf.underlying27 hi hz0 hz1 .i64 .i64 _ (n + 1) rfl rfl (by omega) (by rw [hz2]; omega) (by unfold maxLen; omega) (by simp) ?_)
    intro w1 hown hgr
    have hB1 : Below (w.heap.size + 1) (w.alloc (.cells #[.int .u64 q, .int .u64 f] 30)) w1 := (Below.refl _ _).grown hgr (by simp) (by simp)
    clear hgr
    have hsb : w1.cell? ⟨w.heap.size, 0, none⟩ = some (.int .u64 q) ∧ w1.cell? ⟨w.heap.size, 1, none⟩ = some (.int .u64 f) := by
      constructor
      · rw [hB1.cell (p := ⟨w.heap.size, 0, none⟩) (by show w.heap.size < _; omega)]; simp
      · rw [hB1.cell (p := ⟨w.heap.size, 1, none⟩) (by show w.heap.size < _; omega)]; simp
    go_wp2
    go_loopw [9, 18] (fun v i wr => ∃ k m : Nat, k ≤ n ∧ m ≤ k ∧ i = .int .i64 k ∧ Hid (m = ((X.take k).filter (notC c)).length) ∧ v = .slice (some ⟨w.heap.size + 1, 0, none⟩) m (n + 1) ∧
      wr.ownsRow (w.heap.size + 1) 46 3 (.slice (some ⟨w.heap.size + 1, 0, none⟩) m (n + 1)) m (rowI ((X.take k).filter (notC c))) ∧ Below (w.heap.size + 1) (w.alloc (.cells #[.int .u64 q, .int .u64 f] 30)) wr) (fun _ i _ => n - (intOf i).toNat)
    case atStart => exact ⟨0, 0, Nat.zero_le _, Nat.le_refl _, rfl, by simp [Hid], rfl, hown, hB1⟩
    case round =>
      clear hown hB1 hsb
      obtain ⟨k, m, hk, hm, rfl, HM, rfl, hown, hB⟩ := hrel
      have hs : w.heap.size + 1 < wr.heap.size := (hown.lt _ rfl).2
      by_cases hlt : k < n
      · first
        | (exfalso; have h0 := hcase.out; omega)
        | (obtain ⟨⟨y, qx, fx⟩, HX⟩ : ∃ x, Hid (X[k]? = some x) := ⟨X[k]'(by have := hX.out; omega), List.getElem?_eq_getElem _⟩
           have old : ∀ o v, w.cell? ⟨b, o, none⟩ = some v → wr.cell? ⟨b, o, none⟩ = some v := fun o v h => by rw [hB.cell (p := ⟨b, o, none⟩) (by show b < _; omega), World.cell?_alloc_past _ _ _ hbb]; exact h
           obtain ⟨g0, g1, g2⟩ := hcase k _ HX.out
           have g0 := old _ _ g0
           have g1 := old _ _ g1
           have g2 := old _ _ g2
           have hbw : b < wr.heap.size := by omega
           have HT : Hid (X.take (k + 1) = X.take k ++ [(y, qx, fx)]) := by show _ = _; rw [List.take_add_one, HX.out]; rfl
           have hki : (k : Int) < (n : Int) := by omega
           clear old
           cases hc : (y.toList == c.toList)
           · have HF : Hid ((X.take (k + 1)).filter (notC c) = (X.take k).filter (notC c) ++ [(y, qx, fx)]) := by
               show _ = _
               rw [HT.out, List.filter_append, List.filter_cons, if_pos (by rw [notC, hc]; rfl)]
               rfl
             go_wp2_with (at_builtin; refine wpList_append_fits _ rfl (.tmp 26) (.tmp 28) 27 rfl (w.heap.size + 1) 46 i0 3 Ybaf.underlying27 hi hz1 (w.heap.size + 1) m (n + 1) (rowI ((X.take k).filter (notC c))) rfl ((hown.alloc _).alloc _) ⟨wr.heap.size + 1, 0, none⟩ 1 1 [.string y, .int .u64 qx, .int .u64 fx] rfl rfl ?hcA ?h1A (by omega) ?_)
             case h1A => exact ⟨rfl, rfl, rfl⟩
             intro w2 hown2 hgr
             have hB2 : Below (w.heap.size + 1) (w.alloc (.cells #[.int .u64 q, .int .u64 f] 30)) w2 := ((hB.alloc (by omega) _).alloc (by simp; omega) _).grown hgr (by simp; omega) (by simp)
             have e2 : rowI ((X.take k).filter (notC c)) ++ [.string y, .int .u64 qx, .int .u64 fx] = rowI ((X.take (k + 1)).filter (notC c)) := by rw [HF.out, rowI_snoc]; rfl
             rw [e2] at hown2
             clear hgr hown g0 g1 g2 e2
             go_wp2
             go_roundw
             case rel => exact ⟨k + 1, m + 1, by omega, by omega, by go_num, by show _ = _; rw [HF.out, List.length_append, ← HM.out]; rfl, rfl, hown2, hB2⟩
             case measure => simp [intOf]; omega
           · have HF : Hid ((X.take (k + 1)).filter (notC c) = (X.take k).filter (notC c)) := by
               show _ = _
               rw [HT.out, List.filter_append, List.filter_cons, if_neg (by rw [notC, hc]; simp)]
               simp
             go_wp2
             go_roundw
             case rel => exact ⟨k + 1, m, by omega, by omega, by go_num, by show _ = _; rw [HF.out, ← HM.out], rfl, by rw [HF.out]; exact hown.alloc _, hB.alloc (by omega) _⟩
             case measure => simp [intOf]; omega)
      · obtain rfl : n = k := by omega
        have eX : X.take n = X := List.take_of_length_le (by have := hX.out; omega)
        rw [eX] at HM hown
        obtain ⟨Y, HY⟩ : ∃ Y, Hid (Y = X.filter (notC c)) := ⟨_, rfl⟩
        rw [← HY.out] at HM hown
        have b0 : wr.cell? ⟨w.heap.size, 0, none⟩ = some (.int .u64 q) := by
          rw [hB.cell (p := ⟨w.heap.size, 0, none⟩) (by show w.heap.size < _; omega)]; simp
        have b1 : wr.cell? ⟨w.heap.size, 1, none⟩ = some (.int .u64 f) := by
          rw [hB.cell (p := ⟨w.heap.size, 1, none⟩) (by show w.heap.size < _; omega)]; simp
        clear hk hlt hcase eX
        go_wp2_with (at_builtin; refine wpList_append_fits _ rfl (.tmp 31) (.tmp 35) 27 rfl (w.heap.size + 1) 46 i0 3 Ybaf.underlying27 hi hz1 (w.heap.size + 1) m (n + 1) (rowI Y) rfl (hown.alloc _) ⟨wr.heap.size, 0, none⟩ 1 1 [.string c, .int .u64 q, .int .u64 f] rfl rfl ?hcB ?h1B (by omega) ?_)
        case hcB => exact cells3_new wr _ _ _ 46 _ rfl
        case h1B => exact one3 (c, q, f)
        intro w2 hown2 hgr
        have hB2 : Below (w.heap.size + 1) (w.alloc (.cells #[.int .u64 q, .int .u64 f] 30)) w2 := (hB.alloc (by omega) _).grown hgr (by simp; omega) (by simp)
        have hs2 : w.heap.size + 1 < w2.heap.size := (hown2.lt _ rfl).2
        have e2 : rowI Y ++ [.string c, .int .u64 q, .int .u64 f] = rowI (Y ++ [(c, q, f)]) := by rw [rowI_snoc]; rfl
        rw [e2] at hown2
        obtain ⟨Z, HZ⟩ : ∃ Z, Hid (Z = Y ++ [(c, q, f)]) := ⟨_, rfl⟩
        rw [← HZ.out] at hown2
        have hZl : Hid (m + 1 = Z.length) := by show _ = _; rw [HZ.out, HM.out]; simp
        have IZ := items_own hown2 hZl.out
        have HP : Hid (mput lim X c q f = trim lim Z) := by show _ = _; rw [HZ.out, HY.out]; rfl
        have hB3 : Below w.heap.size w w2 := ((Below.refl _ _).alloc (Nat.le_refl _) _).trans ⟨hB2.os, hB2.tape, hB2.output, hB2.size, fun k hk => hB2.block k (by omega)⟩
        clear hgr hown hown2 b0 b1 e2 hB hB2 HM
        obtain ⟨M, hM⟩ : ∃ M, Hid (M = m + 1) := ⟨_, rfl⟩
        have hMn : M ≤ n + 1 := by have := hM.out; omega
        rw [← hM.out] at hZl ⊢
        obtain ⟨N, hN⟩ : ∃ N, Hid (N = n + 1) := ⟨_, rfl⟩
        have hNn : N ≤ 1000001 := by have := hN.out; omega
        have hMN : M ≤ N := by have := hN.out; omega
        rw [← hN.out]
        go_wp2
        go_loopw [9] (fun v wr => ∃ s : Nat, s ≤ M ∧ v = .slice (some ⟨w.heap.size + 1, s * 3, none⟩) (M - s) (N - s) ∧ wr = w2 ∧ Hid (s = 0 ∨ (0 < lim ∧ lim ≤ ((M - s : Nat) : Int)))) (fun v _ => slen v)
        case atStart => exact ⟨0, Nat.zero_le _, rfl, rfl, .inl rfl⟩
        case round =>
          obtain ⟨s, hsM, rfl, rfl, hss⟩ := hrel
          obtain ⟨mm, hmm⟩ : ∃ mm, Hid (mm = M - s) := ⟨_, rfl⟩
          obtain ⟨nn, hnn⟩ : ∃ nn, Hid (nn = N - s) := ⟨_, rfl⟩
          rw [← hmm.out, ← hnn.out]
          have hmn : mm ≤ nn := by have := hmm.out; have := hnn.out; omega
          have hnb : nn ≤ 1000001 := by have := hnn.out; omega
          have fin : (lim = 0 ∨ (mm : Int) ≤ lim) → Hid (mput lim X c q f = Z.drop s ∧ (Z.drop s).length = mm) := by
            intro h
            have hl := hZl.out
            have e1 := hmm.out
            refine ⟨?_, by rw [List.length_drop]; omega⟩
            rw [HP.out]
            unfold trim
            split
            · rcases hss.out with rfl | ⟨h2, _⟩
              · rfl
              · omega
            · congr 1
              rcases hss.out with rfl | ⟨_, h2⟩
              · omega
              · rw [← e1] at h2; omega
          by_cases hz : lim = 0
          · subst hz
            have gz : decide ((0 : Int) < 0) = false := by decide
            have fin2 := fin (.inl rfl)
            clear fin
            go_wp2
            go_ret
            refine ⟨s * 3, nn, ?_, ?_, hs2, hB3⟩
            · rw [fin2.out.1, fin2.out.2]; rfl
            · rw [fin2.out.1]; simpa using IZ.drop s
          · have hz' : 0 < lim := by omega
            by_cases hgt : lim < mm
            · clear fin
              have h2m : (2 : Int) ≤ mm := by omega
              have h2 : 2 ≤ nn := by omega
              go_wp2
              have q1 := hmm.out
              have q2 := hnn.out
              refine ⟨⟨s + 1, by omega, ?_, trivial, .inr ⟨hz', by omega⟩⟩, by simp only [slen]; omega⟩
              rw [show s * 3 + 3 = (s + 1) * 3 by omega, show mm - 1 = M - (s + 1) by omega, show nn - 1 = N - (s + 1) by omega]
            · have fin2 := fin (.inr (by omega))
              clear fin
              go_wp2
              go_ret
              refine ⟨s * 3, nn, ?_, ?_, hs2, hB3⟩
              · rw [fin2.out.1, fin2.out.2]; rfl
              · rw [fin2.out.1]; simpa using IZ.drop s

end Go.Proofs.YbulkeahyFmtR
