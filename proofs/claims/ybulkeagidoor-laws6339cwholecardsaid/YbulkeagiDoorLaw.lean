/-
  THE WALK OF 'LawS6339CWhole' ITSELF, out of its callees' contracts.
-/
import Derived.Test.YbulkeagiDoorSmall
import Derived.Test.YbulkeagiDoorCopy
import Derived.Laws.StructEq
import Derived.Deep.OwnRows
namespace Go.Proofs.YbulkeagiDoor
open Go.RowKit Go.Deep

structure Tok where
  k : Int
  t : ByteArray
  kw : Bool
  x : Int
  l : Int
  c : Int
def Tok.text (z : Tok) : ByteArray := if z.kw then kwAt (z.x % 18).toNat else z.t
def Tok.cells (z : Tok) : List Value := [.int .u8 z.k, .string z.text, .int .i64 z.l, .int .i64 z.c]
def rowOf (Z : Nat → Tok) (n : Nat) : List Value := (List.range n).flatMap fun i => (Z i).cells
theorem rowOf_succ (Z : Nat → Tok) (n : Nat) : rowOf Z (n + 1) = rowOf Z n ++ (Z n).cells := by
  unfold rowOf
  rw [List.range_succ, List.flatMap_append]
  simp
theorem rowOf_length (Z : Nat → Tok) (n : Nat) : (rowOf Z n).length = n * 4 := by
  induction n with
  | zero => rfl
  | succ n ih => rw [rowOf_succ, List.length_append, ih]; simp [Tok.cells]; omega
theorem rowOf_at (Z : Nat → Tok) (n i j : Nat) (hi : i < n) (hj : j < 4) : (rowOf Z n)[i * 4 + j]? = (Z i).cells[j]? := by
  induction n with
  | zero => omega
  | succ n ih =>
    rw [rowOf_succ]
    by_cases h : i < n
    · rw [List.getElem?_append_left (by rw [rowOf_length]; omega)]
      exact ih h
    · obtain rfl : i = n := by omega
      rw [List.getElem?_append_right (by rw [rowOf_length]; omega), rowOf_length]
      congr 1
      omega

theorem Ybad.info32 : (Ybad.prog.info? 32).map (fun i => (i.zero, i.size, i.bytes)) = some (some (.agg #[.int .u8 0, .string ⟨#[]⟩, .int .i64 0, .int .i64 0]), 4, 40) := by kernel_rfl
theorem Ybad.size32 : (Ybad.prog.info? 32).map (·.size) = some 4 := by kernel_rfl

theorem own_block {w : World} {base : Nat} {e : TypeId} {size g n cap : Nat} {xs : List Value} (h : w.ownsRow base e size (.slice (some ⟨g, 0, none⟩) n cap) n xs) :
    ∃ cur, w.heap[g]? = some (.cells cur e (0, 0)) ∧ cur.size = cap * size ∧ cur.toList.take (n * size) = xs := by
  obtain ⟨_, ⟨h1, _⟩ | ⟨g', cap', cur, h1, _, h2, _, _, h3, h4⟩⟩ := h
  · cases h1
  · simp only [Value.slice.injEq, Option.some.injEq, Addr.mk.injEq] at h1
    obtain ⟨⟨rfl, -⟩, -, rfl⟩ := h1
    exact ⟨cur, h2, h3, h4⟩

theorem cells4_new (W : World) (v0 v1 v2 v3 : Value) (t : TypeId) (g : Nat) (hg : g = W.heap.size) : ∀ j u, [v0, v1, v2, v3][j]? = some u → (W.alloc (.cells #[v0, v1, v2, v3] t)).cell? ((⟨g, 0, none⟩ : Addr).add j) = some u := by
  subst hg
  intro j u hj
  match j, hj with
  | 0, hj => simp at hj; subst hj; simp [Addr.add]
  | 1, hj => simp at hj; subst hj; simp [Addr.add]
  | 2, hj => simp at hj; subst hj; simp [Addr.add]
  | 3, hj => simp at hj; subst hj; simp [Addr.add]
  | j + 4, hj => simp at hj

theorem one4 (z : Tok) : ∀ u ∈ z.cells, u.oneCell' = true := by
  intro u hu
  simp [Tok.cells] at hu
  rcases hu with rfl | rfl | rfl | rfl <;> rfl

theorem add_plain' (b off i : Nat) : (⟨b, off, none⟩ : Addr).add i = ⟨b, off + i, none⟩ := by
  unfold Addr.add
  split
  · subst_vars; rfl
  · rfl

theorem idx_bd (i : Int) (n : Nat) (hn : n ≤ 1048576) : 0 ≤ wrap64 ((IntKind.u64.wrap i).tmod ((n : Int) + 1)) ∧ wrap64 ((IntKind.u64.wrap i).tmod ((n : Int) + 1)) < (n : Int) + 1 := by
  have h0 : 0 ≤ IntKind.u64.wrap i := by
    simp [IntKind.wrap, IntKind.signed, IntKind.bits]
    omega
  have h1 : (IntKind.u64.wrap i).tmod ((n : Int) + 1) = (IntKind.u64.wrap i) % ((n : Int) + 1) := Int.tmod_eq_emod_of_nonneg h0
  rw [h1]
  have h2 := Int.emod_nonneg (IntKind.u64.wrap i) (show ((n : Int) + 1) ≠ 0 by omega)
  have h3 := Int.emod_lt_of_pos (IntKind.u64.wrap i) (show 0 < ((n : Int) + 1) by omega)
  unfold wrap64
  omega

def Four (w : World) (g k : Nat) (z : Tok) : Prop :=
  w.cell? ⟨g, k * 4, none⟩ = some (.int .u8 z.k) ∧ w.cell? ⟨g, k * 4 + 1, none⟩ = some (.string z.text) ∧ w.cell? ⟨g, k * 4 + 2, none⟩ = some (.int .i64 z.l) ∧ w.cell? ⟨g, k * 4 + 3, none⟩ = some (.int .i64 z.c)
theorem four_of {w : World} {g n : Nat} {Z : Nat → Tok} (h : ∀ j u, (rowOf Z n)[j]? = some u → w.cell? ⟨g, j, none⟩ = some u) {k : Nat} (hk : k < n) : Four w g k (Z k) := by
  refine ⟨h _ _ ?_, h _ _ ?_, h _ _ ?_, h _ _ ?_⟩
  · exact rowOf_at Z n k 0 hk (by omega)
  · exact rowOf_at Z n k 1 hk (by omega)
  · exact rowOf_at Z n k 2 hk (by omega)
  · exact rowOf_at Z n k 3 hk (by omega)
theorem Four.later {w w' : World} {g k : Nat} {z : Tok} (h : Four w g k z) (hb : Below w.heap.size w w') : Four w' g k z :=
  ⟨cell_later hb h.1, cell_later hb h.2.1, cell_later hb h.2.2.1, cell_later hb h.2.2.2⟩

set_option maxRecDepth 100000 in
set_option maxHeartbeats 2000000 in
theorem law_walk (file : ByteArray) (a : Option Addr) (n c : Nat) (i : Int) (Z : Nat → Tok) (w : World) (bm : Nat) (hn : n ≤ 1048576)
    (hE : (Z n).cells = [.int .u8 0, .string ⟨#[]⟩, .int .i64 0, .int .i64 0]) (hx : ∀ k, 0 ≤ (Z k).x ∧ (Z k).x ≤ 255)
    (hcase : n = 0 ∨ ∃ b off, a = some ⟨b, off, none⟩ ∧ b < w.heap.size ∧ ∀ k, k < n → w.cell? ⟨b, off + k * 6, none⟩ = some (.int .u8 (Z k).k) ∧ w.cell? ⟨b, off + k * 6 + 1, none⟩ = some (.string (Z k).t) ∧ w.cell? ⟨b, off + k * 6 + 2, none⟩ = some (.bool (Z k).kw) ∧
      w.cell? ⟨b, off + k * 6 + 3, none⟩ = some (.int .u8 (Z k).x) ∧ w.cell? ⟨b, off + k * 6 + 4, none⟩ = some (.int .i64 (Z k).l) ∧ w.cell? ⟨b, off + k * 6 + 5, none⟩ = some (.int .i64 (Z k).c))
    (hm : w.cell? ⟨0, 0, none⟩ = some (.map (some bm)))
    (hT : ∀ k, (Z k).text.size ≤ maxLen) (hlook : ∀ s, s.size ≤ maxLen → ∃ r, ∀ w', Below w.heap.size w w' → (Instr.lookup 43 (.map (some bm)) (.string s) true).run Ybad.prog w' = .ok (.tuple #[.int .u8 r, .bool (isKw s)]) w') :
    Calls Ybad.prog 3 #[.string file, .slice a n c, .int .i64 i] w fun e w' => e = .returned (.bool true) ∧ Below w.heap.size w w' := by
  obtain ⟨i0, hi, hz0, hz1, hz2⟩ := info_parts Ybad.info32
  rcases (show Hid (n = 0) ∨ _ from hcase) with hcase | ⟨b, off, rfl, hbb, hcase⟩
  all_goals
    go_enter Ybad.func3, Ybad.ntmps3
    go_wp2_with fail
    refine (kw_any w).mono ?_
    rintro e w1 ⟨rfl, rfl⟩
    go_wp2_with (at_make; refine wpList_make_own _ rfl _ _ 25 rfl (w.heap.size + 1) 32 i0 _ 4 Ybad.underlying25 hi hz0 hz1 .i64 .i64 _ (n + 1) rfl rfl (by omega) (by rw [hz2]; omega) (by unfold maxLen; omega) (by simp) ?_)
    intro w1 hown hgr
    have hB1 : Below (w.heap.size + 1) (w.alloc (.cells kwVals 9)) w1 := (Below.refl _ _).grown hgr (by simp) (by simp)
    have hs1 : w.heap.size + 1 < w1.heap.size := by have := (hown.lt _ rfl).2; simpa using this
    clear hgr
    go_wp2
    go_loopw [8, 29] (fun v i wr => ∃ k : Nat, k ≤ n ∧ i = .int .i64 k ∧ v = .slice (some ⟨w.heap.size + 1, 0, none⟩) k (n + 1) ∧ wr.ownsRow (w.heap.size + 1) 32 4 (.slice (some ⟨w.heap.size + 1, 0, none⟩) k (n + 1)) k (rowOf Z k) ∧
      Below (w.heap.size + 1) (w.alloc (.cells kwVals 9)) wr) (fun _ i _ => n - (intOf i).toNat)
    case atStart => exact ⟨0, Nat.zero_le _, rfl, rfl, hown, hB1⟩
    case round =>
      clear hown hB1 hs1
      obtain ⟨k, hk, rfl, rfl, hown, hB⟩ := hrel
      have hs : w.heap.size + 1 < wr.heap.size := (hown.lt _ rfl).2
      by_cases hlt : k < n
      · first
        | (exfalso; have h0 := hcase.out; omega)
        | (have old : ∀ o v, w.cell? ⟨b, o, none⟩ = some v → wr.cell? ⟨b, o, none⟩ = some v := fun o v h => by rw [hB.cell (p := ⟨b, o, none⟩) (by show b < _; omega), World.cell?_alloc_past _ _ _ hbb]; exact h
           obtain ⟨g0, g1, g2, g3, g4, g5⟩ := hcase k hlt
           have g0 := old _ _ g0
           have g1 := old _ _ g1
           have g2 := old _ _ g2
           have g3 := old _ _ g3
           have g4 := old _ _ g4
           have g5 := old _ _ g5
           obtain ⟨hx0, hx1⟩ := hx k
           have hkc : wr.cell? ⟨w.heap.size, ((Z k).x % 18).toNat, none⟩ = some (.string (kwAt ((Z k).x % 18).toNat)) := by
             rw [hB.cell (p := ⟨w.heap.size, _, none⟩) (by show w.heap.size < _; omega)]
             simp [kwVals_at ((Z k).x % 18).toNat (by omega)]
           have hbw : b < wr.heap.size := by omega
           have hsw : w.heap.size < wr.heap.size := by omega
           obtain ⟨T, HT⟩ : ∃ T, Hid (T = (Z k).text) := ⟨_, rfl⟩
           have HC : Hid ((Z k).cells = [.int .u8 (Z k).k, .string T, .int .i64 (Z k).l, .int .i64 (Z k).c]) := by show _ = _; rw [HT.out]; rfl
           clear old hcase hE hm hlook
           cases hkw : (Z k).kw
           · rw [hkw] at g2
             obtain rfl : T = (Z k).t := by rw [HT.out, Tok.text, hkw]; rfl
             clear hkw
             go_wp2_with (at_builtin; refine wpList_append_fits _ rfl (.tmp 46) (.tmp 56) 25 rfl (w.heap.size + 1) 32 i0 4 Ybad.underlying25 hi hz1 (w.heap.size + 1) k (n + 1) (rowOf Z k) rfl ((hown.alloc _).alloc _) ⟨wr.heap.size + 1, 0, none⟩ 1 1 [.int .u8 (Z k).k, .string (Z k).t, .int .i64 (Z k).l, .int .i64 (Z k).c] rfl rfl ?hcA ?h1A (by omega) ?_)
             case hcA => exact cells4_new (wr.alloc _) _ _ _ _ 32 _ (by simp)
             case h1A => rw [← HC.out]; exact one4 _
             intro w2 hown2 hgr
             have hB2 : Below (w.heap.size + 1) (w.alloc (.cells kwVals 9)) w2 := ((hB.alloc (by omega) _).alloc (by simp; omega) _).grown hgr (by simp; omega) (by simp)
             rw [← HC.out, ← rowOf_succ] at hown2
             clear hgr hown g0 g1 g2 g3 g4 g5 hkc
             go_wp2
             go_roundw
             case rel => exact ⟨k + 1, by omega, by go_num, rfl, hown2, hB2⟩
             case measure => simp [intOf]; omega
           · rw [hkw] at g2
             obtain rfl : T = kwAt ((Z k).x % 18).toNat := by rw [HT.out, Tok.text, hkw]; rfl
             clear hkw
             go_wp2_with (at_builtin; refine wpList_append_fits _ rfl (.tmp 46) (.tmp 56) 25 rfl (w.heap.size + 1) 32 i0 4 Ybad.underlying25 hi hz1 (w.heap.size + 1) k (n + 1) (rowOf Z k) rfl ((hown.alloc _).alloc _) ⟨wr.heap.size + 1, 0, none⟩ 1 1 [.int .u8 (Z k).k, .string (kwAt ((Z k).x % 18).toNat), .int .i64 (Z k).l, .int .i64 (Z k).c] rfl rfl ?hcB ?h1B (by omega) ?_)
             case hcB => exact cells4_new (wr.alloc _) _ _ _ _ 32 _ (by simp)
             case h1B => rw [← HC.out]; exact one4 _
             intro w2 hown2 hgr
             have hB2 : Below (w.heap.size + 1) (w.alloc (.cells kwVals 9)) w2 := ((hB.alloc (by omega) _).alloc (by simp; omega) _).grown hgr (by simp; omega) (by simp)
             rw [← HC.out, ← rowOf_succ] at hown2
             clear hgr hown g0 g1 g2 g3 g4 g5 hkc
             go_wp2
             go_roundw
             case rel => exact ⟨k + 1, by omega, by go_num, rfl, hown2, hB2⟩
             case measure => simp [intOf]; omega)
      · obtain rfl : n = k := by omega
        clear hlt hk
        go_wp2_with (at_builtin; refine wpList_append_fits _ rfl (.tmp 59) (.tmp 61) 25 rfl (w.heap.size + 1) 32 i0 4 Ybad.underlying25 hi hz1 (w.heap.size + 1) n (n + 1) (rowOf Z n) rfl (hown.alloc _) ⟨wr.heap.size, 0, none⟩ 1 1 [.int .u8 0, .string ⟨#[]⟩, .int .i64 0, .int .i64 0] rfl rfl ?hcE ?h1E (by omega) ?_)
        case hcE => exact cells4_new wr _ _ _ _ 32 _ rfl
        case h1E => rw [← hE]; exact one4 _
        intro w2 hown2 hgr
        have hB2 : Below (w.heap.size + 1) (w.alloc (.cells kwVals 9)) w2 := (hB.alloc (by omega) _).grown hgr (by simp; omega) (by simp)
        rw [← hE, ← rowOf_succ] at hown2
        clear hgr hown hB hs
        have hs2 : w.heap.size + 1 < w2.heap.size := (hown2.lt _ rfl).2
        go_wp2_with (at_make; refine wpList_make_full _ rfl _ _ 25 rfl (w.heap.size + 2) 32 i0 _ 4 Ybad.underlying25 hi hz0 hz1 .i64 .i64 _ _ (n + 1) rfl rfl (by omega) (by omega) (by rw [hz2]; omega) (by unfold maxLen; omega) (by omega) ?_)
        intro w3 hown3 hgr
        have hB3 : Below (w.heap.size + 1) (w.alloc (.cells kwVals 9)) w3 := hB2.grown hgr (by omega) (by simp)
        have hown3' := hown2.kept hgr (.inr (by simp [Value.ownBlock]))
        obtain ⟨cur, hcur, hcs, -⟩ := own_block hown3
        have hs3 : w2.heap.size < w3.heap.size := (Array.getElem?_eq_some_iff.1 hcur).1
        clear hgr hown3 hown2 hB2
        have hidx := idx_bd i n hn
        generalize wrap64 ((IntKind.u64.wrap i).tmod ((n : Int) + 1)) = idx at hidx ⊢
        obtain ⟨hidx0, hidx1⟩ := hidx
        go_wp2_with (refine wpList_copy_wide rfl (.tmp 73) (.tmp 74) 25 25 rfl 32 4 Ybad.underlying25 Ybad.size32 w2.heap.size (n + 1) (n + 1) ⟨w.heap.size + 1, 0, none⟩ (n + 1) (n + 1) rfl rfl cur 32 hcur (rowOf Z (n + 1)) ?hnC ?hsrcC ?hfitC ?h1C (w.heap.size + 1) (w.alloc (.cells kwVals 9)) hB3 (by omega) ?_)
        case hnC => rw [rowOf_length]; simp
        case hsrcC => exact hown3'.cells rfl
        case hfitC => rw [rowOf_length, hcs]
        case h1C =>
          intro v hv
          unfold rowOf at hv
          obtain ⟨k, _, hk⟩ := List.mem_flatMap.1 hv
          exact one4 _ v hk
        intro w4 HG4 hgr hB4
        have hown4 := hown3'.kept hgr (.inr (by simp [Value.ownBlock]; omega))
        have hs4 : w2.heap.size < w4.heap.size := (Array.getElem?_eq_some_iff.1 HG4.out).1
        have FA : ∀ k, k < n + 1 → Four w4 (w.heap.size + 1) k (Z k) := fun k hk => four_of (fun j u hu => by have := hown4.cells rfl j u hu; rwa [add_plain', Nat.zero_add] at this) hk
        have FB : ∀ k, k < n + 1 → Four w4 w2.heap.size k (Z k) := fun k hk => four_of (fun j u hu => by have h := HG4.out; simp [World.cell?, h, hu]) hk
        have kwc : ∀ j, j < 18 → w4.cell? ⟨w.heap.size, j, none⟩ = some (.string (kwAt j)) := fun j hj => by
          rw [hB4.cell (p := ⟨w.heap.size, j, none⟩) (by show w.heap.size < _; omega)]
          simp [kwVals_at j hj]
        have hB4' : Below w.heap.size w w4 := ((Below.refl _ _).alloc (Nat.le_refl _) _).trans (hB4.mono (by omega))
        have hm4 := cell_later hB4' hm
        have HF : Hid ((∀ k, k < n + 1 → Four w4 (w.heap.size + 1) k (Z k)) ∧ (∀ k, k < n + 1 → Four w4 w2.heap.size k (Z k)) ∧ (∀ j, j < 18 → w4.cell? ⟨w.heap.size, j, none⟩ = some (.string (kwAt j)))) := ⟨FA, FB, kwc⟩
        obtain ⟨r, hr⟩ := hlook (Z idx.toNat).text (hT _)
        clear hgr hown3' hown4 hcur hcs FA FB kwc HG4 hE hx hm hlook hB4 hB3
        go_wp2_with fail
        refine (atName_any w4.heap.size (w.heap.size + 1) (n + 1) bm idx (Z idx.toNat).k (Z idx.toNat).l (Z idx.toNat).c r (Z idx.toNat).text (isKw (Z idx.toNat).text) _ hidx0 (by omega) (by simp) (by simp; omega) (by simp) (by simp) (by simp) ?f0 ?f1 ?f2 ?f3 ?fm ?fl).mono ?_
        case f0 => exact cell_later ((Below.refl _ _).alloc (Nat.le_refl _) _) (HF.out.1 idx.toNat (by omega)).1
        case f1 => exact cell_later ((Below.refl _ _).alloc (Nat.le_refl _) _) (HF.out.1 idx.toNat (by omega)).2.1
        case f2 => exact cell_later ((Below.refl _ _).alloc (Nat.le_refl _) _) (HF.out.1 idx.toNat (by omega)).2.2.1
        case f3 => exact cell_later ((Below.refl _ _).alloc (Nat.le_refl _) _) (HF.out.1 idx.toNat (by omega)).2.2.2
        case fm => exact cell_later ((Below.refl _ _).alloc (Nat.le_refl _) _) hm4
        case fl => exact fun w' hb' => hr w' ((hB4'.alloc hB4'.size _).trans (hb'.mono (by have := hB4'.size; simp; omega)))
        rintro e w6 ⟨rfl, hb6⟩
        have hP1 : w6.cell? ⟨w4.heap.size, 0, none⟩ = some (.string file) := cell_later hb6 (by simp)
        have hP2 : w6.cell? ⟨w4.heap.size, 1, none⟩ = some (.slice (some ⟨w.heap.size + 1, 0, none⟩) (n + 1) (n + 1)) := cell_later hb6 (by simp)
        have hP3 : w6.cell? ⟨w4.heap.size, 2, none⟩ = some (.int .i64 idx) := cell_later hb6 (by simp)
        have hb46 : Below w4.heap.size w4 w6 := ((Below.refl _ _).alloc (Nat.le_refl _) _).trans (hb6.mono (by simp))
        have hs6 : w4.heap.size < w6.heap.size := by have := hb6.size; simp at this; omega
        obtain ⟨q0, q1, q2, q3⟩ := (HF.out.2.1 idx.toNat (by omega)).later hb46
        have hs62 : w2.heap.size < w6.heap.size := by omega
        have hs61 : w.heap.size + 1 < w6.heap.size := by omega
        have hb6' : Below w.heap.size w w6 := hB4'.trans (hb46.mono hB4'.size)
        have hkw6 : ∀ o, ∀ j, j < 18 → (w6.alloc o).cell? ⟨w.heap.size, j, none⟩ = some (.string (kwAt j)) := fun o j hj => cell_later ((Below.refl _ _).alloc (Nat.le_refl _) o) (cell_later hb46 (HF.out.2.2 j hj))
        clear hr hb6
        generalize (Z idx.toNat).k = K at q0 ⊢
        generalize (Z idx.toNat).text = T at q1 ⊢
        generalize (Z idx.toNat).l = L at q2 ⊢
        generalize (Z idx.toNat).c = C at q3 ⊢
        cases hk : (K == 1)
        rotate_left
        · obtain rfl : K = 1 := by simpa using hk
          clear hk
          go_wp2_with fail
          refine (iskw_any w.heap.size T _ (hkw6 _)).mono ?_
          rintro e w7 ⟨rfl, rfl⟩
          cases isKw T
          all_goals
            go_wp2
            go_loopw [18] (fun i wq => ∃ k : Nat, k ≤ n + 1 ∧ i = .int .i64 k ∧ Below w6.heap.size w6 wq) (fun i _ => n + 1 - (intOf i).toNat)
            case atStart => exact ⟨0, Nat.zero_le _, rfl, (Below.refl _ _).alloc (Nat.le_refl _) _⟩
            case round =>
              obtain ⟨k, hk', rfl, hbq⟩ := hrel
              by_cases hlt : k < n + 1
              · obtain ⟨a0, a1, a2, a3⟩ := ((HF.out.1 k hlt).later hb46).later hbq
                obtain ⟨b0, b1, b2, b3⟩ := ((HF.out.2.1 k hlt).later hb46).later hbq
                have hPq := cell_later hbq hP2
                clear hP1 hP2 hP3 q0 q1 q2 q3 hkw6 hm4
                have hlt' : (k : Int) < (n : Int) + 1 := by omega
                go_wp2
                go_quiet (fail)
                go_wp2
                go_roundw
                case rel => exact ⟨k + 1, by omega, by go_num, below_drewN hbq _⟩
                case measure => simp [intOf]; omega
              · go_wp2
                go_ret
                exact ⟨rfl, hb6'.trans (hbq.mono hb6'.size)⟩
        · go_wp2
          go_loopw [18] (fun i wq => ∃ k : Nat, k ≤ n + 1 ∧ i = .int .i64 k ∧ Below w6.heap.size w6 wq) (fun i _ => n + 1 - (intOf i).toNat)
          case atStart => exact ⟨0, Nat.zero_le _, rfl, (Below.refl _ _).alloc (Nat.le_refl _) _⟩
          case round =>
            obtain ⟨k, hk', rfl, hbq⟩ := hrel
            by_cases hlt : k < n + 1
            · obtain ⟨a0, a1, a2, a3⟩ := ((HF.out.1 k hlt).later hb46).later hbq
              obtain ⟨b0, b1, b2, b3⟩ := ((HF.out.2.1 k hlt).later hb46).later hbq
              have hPq := cell_later hbq hP2
              clear hP1 hP2 hP3 q0 q1 q2 q3 hkw6 hm4
              have hlt' : (k : Int) < (n : Int) + 1 := by omega
              go_wp2
              go_quiet (fail)
              go_wp2
              go_roundw
              case rel => exact ⟨k + 1, by omega, by go_num, below_drewN hbq _⟩
              case measure => simp [intOf]; omega
            · go_wp2
              go_ret
              exact ⟨rfl, hb6'.trans (hbq.mono hb6'.size)⟩

/-- Too many tokens: true at once. -/
theorem law_early (file : ByteArray) (a : Option Addr) (n c : Nat) (i : Int) (w : World) (h : 1048576 < n) (_hn : n ≤ 9223372036854775807) :
    Calls Ybad.prog 3 #[.string file, .slice a n c, .int .i64 i] w fun e w' => e = .returned (.bool true) ∧ w' = w := by
  go_enter Ybad.func3, Ybad.ntmps3
  go_wp2
  go_ret
  exact ⟨rfl, rfl⟩
end Go.Proofs.YbulkeagiDoor
