/-
  'Rows.LawS6342BWholeToldSaid', PROVED: the arguments opened; from the walk to the told card.
-/
import Derived.Test.YbulkeahyFmtRCards
import Derived.Test.YbulkeahyFmtRLaw
import Derived.ProofKit
import Derived.ChangeSlices
import Derived.ChangeSame
import Derived.ChangeMaps5
import Derived.JoinedOf
import Derived.Carry
import Derived.Stop.JoinedAt
import Derived.Stop.Texts
import Derived.Stop.JoinedTold
import Derived.SizedLaws
import Derived.OpenShut
import Derived.Deep.Slices
import Derived.SevenToldRow
namespace Go.Proofs.YbulkeahyFmtR
open Go.ChangeShapes Go.WideShapes Go.ChangeAt Go.RowKit Go.Kit
open Go.ChangeMaps (open_string shut_string)
open Go.Extern.Stop Go.Stop Go.Extern

theorem Ybaf.own : ownKnob Ybaf.prog.godebug = none := by kernel_rfl
theorem Ybaf.laidOut : laidOutB Ybaf.pinned.checked.prog = true := by kernel_rfl
theorem Ybaf.cells5 : Ybaf.prog.cellsOf 5 = 1 := by kernel_rfl
theorem Ybaf.cells22 : Ybaf.prog.cellsOf 22 = 1 := by kernel_rfl
theorem Ybaf.cells42 : Ybaf.prog.cellsOf 42 = 3 := by kernel_rfl
theorem Ybaf.bytes5 : Ybaf.prog.bytesOf 5 = 1 := by kernel_rfl
theorem Ybaf.bytes42 : Ybaf.prog.bytesOf 42 = 24 := by kernel_rfl
theorem Ybaf.stops : Rows.lawS6342BWholeRow.stops = Ybaf.pinned.checked.prog.stops := by kernel_rfl
theorem Ybaf.stopKnobs : Ybaf.pinned.checked.prog.stopKnobs = [] := by kernel_rfl
theorem Ybaf.quiet (os : Os) : Stop.quiet Ybaf.pinned.checked.prog os := by
  intro k hk
  rw [Ybaf.stopKnobs] at hk
  cases hk

theorem add_plain' (b off i : Nat) : (⟨b, off, none⟩ : Addr).add i = ⟨b, off + i, none⟩ := by
  unfold Addr.add
  split
  · subst_vars; rfl
  · rfl

/-- The bytes. -/
theorem bytes_in {H : Type} {enc : TypeId × Value → H} {W : World} {a : Option Addr} {n c : Nat} {d : DataW H} {p : List MemPlace} (h : DataW.Trod enc Ybaf.prog W 0 (fun _ => true) true 23 (.slice a n c) d p) :
    ∃ (b o : Nat) (x : Nat → Int), (n = 0 ∨ (a = some ⟨b, o, none⟩ ∧ b < W.heap.size ∧ ∀ k, k < n → W.cell? ⟨b, o + k, none⟩ = some (.int .u8 (x k)) ∧ 0 ≤ x k ∧ x k ≤ 255)) ∧ (n = 0 ∨ ∃ elems spare, d = .slice elems spare ∧ elems.length = n) := by
  obtain ⟨fuel, hf⟩ := h
  rcases open_ints Ybaf.underlying23 Ybaf.underlying5 Ybaf.cells5 hf with ⟨hcs, _⟩ | ⟨a', len', cap', zs, hcs, _, hl, hm, hz, hx, hcell, hwz⟩
  · simp [Value.cells] at hcs
    obtain ⟨rfl, rfl, rfl⟩ := hcs
    exact ⟨0, 0, fun _ => 0, .inl rfl, .inl rfl⟩
  · simp [Value.cells] at hcs
    obtain ⟨rfl, rfl, rfl⟩ := hcs
    simp only [if_true] at hz
    simp only [Prod.mk.injEq] at hx
    by_cases h0 : n = 0
    · exact ⟨0, 0, fun _ => 0, .inl h0, .inl h0⟩
    obtain ⟨b, off, spot⟩ := a'
    have hspot : spot = none := by simpa [Addr.add] using World.cell?_spot (hcell 0 (by omega))
    subst hspot
    refine ⟨b, off, fun k => zs.getD k 0, .inr ⟨rfl, World.block_lt_of_cell? W ⟨b, off, none⟩ (by simpa [Addr.add] using hcell 0 (by omega)), fun k hk => ⟨?_, ?_⟩⟩, .inr ⟨_, _, hx.1, by simp [lits]; omega⟩⟩
    · rw [← add_plain']
      exact hcell k (by omega)
    · have hkz : k < zs.length := by omega
      have : (Lit.int .u8 (zs.getD k 0)).wf = true := by
        simp only [List.getD, List.getElem?_eq_getElem hkz, Option.getD_some]
        exact hwz _ (List.getElem_mem hkz)
      exact bounds_u8 this

/-- The puts of the script. -/
theorem ops_in {H : Type} {enc : TypeId × Value → H} {W : World} {a : Option Addr} {n c : Nat} {d : DataW H} {p : List MemPlace} (h : DataW.Trod enc Ybaf.prog W 0 (fun _ => true) true 24 (.slice a n c) d p) :
    ∃ (b o : Nat) (C S F : Nat → Int), (n = 0 ∨ (a = some ⟨b, o, none⟩ ∧ b < W.heap.size ∧ ∀ k, k < n → W.cell? ⟨b, o + k * 3, none⟩ = some (.int .u8 (C k)) ∧ W.cell? ⟨b, o + k * 3 + 1, none⟩ = some (.int .u64 (S k)) ∧ W.cell? ⟨b, o + k * 3 + 2, none⟩ = some (.int .u64 (F k)) ∧ 0 ≤ C k ∧ C k ≤ 255)) ∧
      (n = 0 ∨ ∃ elems spare, d = .slice elems spare ∧ elems.length = n) := by
  obtain ⟨fuel, hf⟩ := h
  rcases Deep.open_slice Ybaf.underlying24 hf with ⟨hcs, _⟩ | ⟨a', len, cap, m, k0, D, Pl, hcs, hb, hl, hm, hmm, hd, hx⟩
  · simp [Value.cells] at hcs
    obtain ⟨rfl, rfl, rfl⟩ := hcs
    exact ⟨0, 0, fun _ => 0, fun _ => 0, fun _ => 0, .inl rfl, .inl rfl⟩
  · simp [Value.cells] at hcs
    obtain ⟨rfl, rfl, rfl⟩ := hcs
    simp only [Prod.mk.injEq] at hd
    have hlm : n ≤ m := by rw [hmm]; split <;> omega
    by_cases h0 : n = 0
    · exact ⟨0, 0, fun _ => 0, fun _ => 0, fun _ => 0, .inl h0, .inl h0⟩
    have each : ∀ i, i < n → ∃ z : Int × Int × Int, (W.cell? (a'.add (i * 3)) = some (.int .u8 z.1) ∧ W.cell? (a'.add (i * 3 + 1)) = some (.int .u64 z.2.1) ∧ W.cell? (a'.add (i * 3 + 2)) = some (.int .u64 z.2.2)) ∧ 0 ≤ z.1 ∧ z.1 ≤ 255 := by
      intro i hi
      obtain ⟨cs', h1, h2⟩ := hx i (by omega)
      rw [Ybaf.cells42] at h1
      obtain ⟨_, hlen, hcell⟩ := World.cells?_some h1
      obtain ⟨xs, k, hk, hxy, _, hxl, hf⟩ := DataW.trod_struct Ybaf.underlying42 h2
      match xs, hxl, cs', hlen with
      | [y0, y1, y2], _, [v0, v1, v2], _ =>
        have g0 := hf 0 _ rfl
        have g1 := hf 1 _ rfl
        have g2 := hf 2 _ rfl
        simp [Ybaf.cells5, Ybaf.cells22] at g0 g1 g2
        obtain ⟨k0, e0, _, w0⟩ := DataW.trod_int Ybaf.underlying5 g0
        obtain ⟨k1, e1, _, _⟩ := DataW.trod_int Ybaf.underlying22 g1
        obtain ⟨k2, e2, _, _⟩ := DataW.trod_int Ybaf.underlying22 g2
        simp at e0 e1 e2
        subst e0 e1 e2
        have f0 := hcell 0 (by omega)
        have f1 := hcell 1 (by omega)
        have f2 := hcell 2 (by omega)
        rw [Deep.add_add] at f0 f1 f2
        exact ⟨(k0, k1, k2), ⟨by simpa using f0, by simpa using f1, by simpa using f2⟩, bounds_u8 w0⟩
    obtain ⟨Z, hZ⟩ := @Deep.choose_lt (Int × Int × Int) ⟨(0, 0, 0)⟩ _ _ each
    obtain ⟨b, off, spot⟩ := a'
    have hspot : spot = none := by simpa [Addr.add] using World.cell?_spot (hZ 0 (by omega)).1.1
    subst hspot
    refine ⟨b, off, fun k => (Z k).1, fun k => (Z k).2.1, fun k => (Z k).2.2, .inr ⟨rfl, World.block_lt_of_cell? W ⟨b, off, none⟩ (by simpa [Addr.add] using (hZ 0 (by omega)).1.1), fun k hk => ?_⟩, .inr ⟨_, _, hd.1, by simp⟩⟩
    obtain ⟨⟨z0, z1, z2⟩, z3⟩ := hZ k hk
    rw [add_plain'] at z0 z1 z2
    exact ⟨z0, z1, z2, z3⟩

/-- The reach bounds a slice's length. -/
theorem len_le {H : Type} {ts : List TypeId} {ds : List (DataW H)} (hsz : (DataW.weightsEach Ybaf.prog ts ds).all (· ≤ reachBytes) = true) {j n : Nat} {t e : TypeId} {d : DataW H} (b : Nat) (hb : Ybaf.prog.bytesOf e = b + 1) (ht : ts[j]? = some t) (hd : ds[j]? = some d) (hu : Ybaf.prog.underlying t = some (.slice e))
    (h : n = 0 ∨ ∃ elems spare, d = .slice elems spare ∧ elems.length = n) : n ≤ 140737488351232 := by
  rcases h with h | ⟨elems, spare, rfl, hl⟩
  · omega
  · have := sized_slice hsz ht hd hu
    rw [hb] at this
    have h2 : elems.length ≤ (elems.length + spare.length) * (b + 1) := by
      rw [Nat.mul_add, Nat.mul_one]
      omega
    have h3 : reachBytes = 140737488351232 := rfl
    omega

set_option maxRecDepth 100000 in
theorem whole_lifted (os : Os) (started : os.Started) (H : Type) (enc : TypeId × Value → H) :
    ReturnsInTold none {} Ybaf.checked os 3 .any Input.okWide ((OpenSpec.ofChange Rows.lawS6342BWholeSpec).preRow enc Ybaf.prog Ybaf.f3 [] false []) (fun F => ((OpenSpec.ofChange Rows.lawS6342BWholeSpec).at F).post enc Ybaf.prog Ybaf.f3 false true false false) (aloneAtReturn Ybaf.prog) nothingAlways := by
  refine returnsInTold_of_row (C := Ybaf.checked) (s := OpenSpec.ofChange Rows.lawS6342BWholeSpec) (by kernel_rfl) Ybaf.own started (by kernel_rfl) Ybaf.func3
    (OpenSpec.witness_stopped (enc := enc) (C := Ybaf.checked) false ⟨#[], #[.int .u64 0, .slice none 0 0, .slice none 0 0, .string ⟨#[]⟩, .int .u64 0, .int .u64 0], []⟩ 8 (by kernel_rfl) (by kernel_rfl) (by kernel_rfl) (by kernel_rfl)) ?_
  intro F W base args ds gs before _ hF hval0 hW _ _ hsz0 _ _
  have hval : ∀ (j : Nat) t v, Ybaf.f3.params[j]? = some t → args[j]? = some v → Value.okWide Ybaf.prog W .any base t v := hval0
  have hW' := hW
  obtain ⟨p, q, hA0, hV, rfl, _, _⟩ := hW
  have hA : DataW.TrodAll enc Ybaf.prog W 0 (fun _ => true) true Ybaf.f3.params.toList args.toList ds p := hA0
  have hsz : (DataW.weightsEach Ybaf.prog (Ybaf.f3.params.toList ++ DataSpec.varTypes Ybaf.prog (OpenSpec.ofChange Rows.lawS6342BWholeSpec).bare.plain) (ds ++ gs)).all (· ≤ reachBytes) = true := hsz0
  rw [Ybaf.params3] at hA hval hsz
  obtain ⟨v0, vs0, d0, ds0, p0, q0, hargs0, rfl, rfl, h0, r0⟩ := trodAll_cons hA
  obtain ⟨v1, vs1, d1, ds1, p1, q1, rfl, rfl, rfl, h1, r1⟩ := trodAll_cons r0
  obtain ⟨v2, vs2, d2, ds2, p2, q2, rfl, rfl, rfl, h2, r2⟩ := trodAll_cons r1
  obtain ⟨v3, vs3, d3, ds3, p3, q3, rfl, rfl, rfl, h3, r3⟩ := trodAll_cons r2
  obtain ⟨v4, vs4, d4, ds4, p4, q4, rfl, rfl, rfl, h4, r4⟩ := trodAll_cons r3
  obtain ⟨v5, vs5, d5, ds5, p5, q5, rfl, rfl, rfl, h5, r5⟩ := trodAll_cons r4
  obtain ⟨rfl, rfl, rfl⟩ := trodAll_nil r5
  obtain rfl : args = #[v0, v1, v2, v3, v4, v5] := by cases args; simp_all
  obtain ⟨rfl, rfl⟩ := trodVars_none hV
  obtain ⟨lim, rfl, rfl, rfl, w0⟩ := open_int Ybaf.underlying22 (hval 0 22 v0 rfl rfl) h0
  obtain ⟨a1, n1, c1, rfl⟩ := okWide_slice Ybaf.underlying23 (hval 1 23 v1 rfl rfl)
  obtain ⟨a2, n2, c2, rfl⟩ := okWide_slice Ybaf.underlying24 (hval 2 24 v2 rfl rfl)
  obtain ⟨cl, rfl, rfl, rfl, w3⟩ := open_string Ybaf.underlying9 (hval 3 9 v3 rfl rfl) h3
  obtain ⟨sq, rfl, rfl, rfl, w4⟩ := open_int Ybaf.underlying22 (hval 4 22 v4 rfl rfl) h4
  obtain ⟨sf, rfl, rfl, rfl, w5⟩ := open_int Ybaf.underlying22 (hval 5 22 v5 rfl rfl) h5
  clear hA0 hval0 hsz0
  simp only [List.append_nil, List.nil_append] at hW'
  obtain ⟨b1, o1, x, HI, l1⟩ := bytes_in h1
  obtain ⟨b2, o2, C, S, G, HO, l2⟩ := ops_in h2
  have e1 := len_le hsz (j := 1) (t := 23) (e := 5) 0 Ybaf.bytes5 rfl rfl Ybaf.underlying23 l1
  have e2 := len_le hsz (j := 2) (t := 24) (e := 42) 23 Ybaf.bytes42 rfl rfl Ybaf.underlying24 l2
  have hlt : ∀ x, (x ∈ p1 ∨ x ∈ p2) → x.block < W.heap.size := fun x hx => by
    have := hW'.lt x (by rcases hx with h | h <;> simp [h])
    simpa using this
  have fin : ∀ (e : Ending) (W' : World), LPost W e W' → ∃ v, e = .returned v ∧ ((OpenSpec.ofChange Rows.lawS6342BWholeSpec).at F.told).post enc Ybaf.prog Ybaf.f3 false true false false W #[.int .u64 lim, .slice a1 n1 c1, .slice a2 n2 c2, .string cl, .int .u64 sq, .int .u64 sf] v W' := by
    rintro e W' ⟨rfl, hnx⟩
    refine ⟨_, rfl, _, _, _, [], p1 ++ p2, [], hW', ?_, ?_, rfl, hnx.frame _, fun h => by cases h⟩
    · exact trodAll_mk1 (shut_bool Ybaf.underlying4 true)
    · have t1 := Below.trod Ybaf.laidOut (by kernel_rfl) (of_decide_eq_true (by kernel_rfl)) h1 hnx (fun x hx => hlt x (.inl hx))
      have t2 := Below.trod Ybaf.laidOut (by kernel_rfl) (of_decide_eq_true (by kernel_rfl)) h2 hnx (fun x hx => hlt x (.inr hx))
      have := (trodAll_cons_mk (shut_int Ybaf.underlying22 w0) (trodAll_cons_mk t1 (trodAll_cons_mk t2 (trodAll_cons_mk (shut_string Ybaf.underlying9 w3) (trodAll_cons_mk (shut_int Ybaf.underlying22 w4) (trodAll_cons_mk (shut_int Ybaf.underlying22 w5) trodAll_mk0))))))
      simp only [List.append_nil, List.nil_append] at this
      exact this
  have b0 := bounds_u64 w0
  refine (law_walk lim a1 a2 n1 c1 n2 c2 b1 o1 b2 o2 cl sq sf x C S G W b0.1 b0.2 (by omega) (by omega) w3 HI HO).mono ?_
  exact fun e W' h => fin e W' h

theorem s6342b_told : Rows.LawS6342BWholeToldSaid :=
  Claim7.holds_of_told_any 3 Ybaf.f3 _ [] [] _ _ _ (by kernel_rfl) rfl rfl rfl Ybaf.laidOut (by kernel_rfl) rfl ⟨rfl, rfl, rfl, rfl, rfl, rfl, rfl⟩ rfl rfl (by kernel_rfl) (by kernel_rfl) Ybaf.func3 (by kernel_rfl)
    (of_decide_eq_true (by kernel_rfl)) (of_decide_eq_true (by kernel_rfl)) Ybaf.stops rfl Ybaf.stopKnobs.symm (by kernel_rfl)
    (by kernel_rfl) (by kernel_rfl) (by kernel_rfl) (by kernel_rfl) (by kernel_rfl) (by kernel_rfl) (by kernel_rfl) (by kernel_rfl) (by kernel_rfl) rfl (by kernel_rfl) rfl rfl
    rfl rfl
    rfl (by kernel_rfl) (by kernel_rfl) (by kernel_rfl) (by decide) (by kernel_rfl)
    (OpenClaim.moreEntering_of (by kernel_rfl) (by kernel_rfl) (by kernel_rfl) (by kernel_rfl) (by kernel_rfl) (by kernel_rfl) (by kernel_rfl) (by kernel_rfl) (by kernel_rfl) (by kernel_rfl))
    ⟨_, WideRow.started_initial, Ybaf.quiet _⟩
    (fun os started _ H enc _ => whole_lifted os started H enc)
end Go.Proofs.YbulkeahyFmtR
