/-
  'Rows.LawS6339CWholeCardSaid', PROVED: the row, then the tied card.
-/
import Derived.Test.YbulkeagiDoorOpen
import Derived.Test.YbulkeagiDoorTie
import Derived.Test.YbulkeagiDoorCards
import Derived.SevenTiedAt
namespace Go.Proofs.YbulkeagiDoor
open Go.ChangeShapes Go.WideShapes Go.ChangeAt Go.WideMaps Go.WideElems Go.RowKit
open Go.ChangeMaps (open_string shut_string)

theorem own : ownKnob Ybad.prog.godebug = none := by kernel_rfl
theorem Ybad.laidOut : laidOutB Ybad.pinned.checked.prog = true := by kernel_rfl
theorem tKw : (Ybad.prog.globals[0]?).map (·.type) = some 43 := by kernel_rfl
theorem law : KeyLaw Ybad.prog 9 := string_law Ybad.underlying9

theorem door_met (os : Os) (args : Array Value) : laidMetH Ybad.prog Rows.lawS6339CWholeRow.laid ((World.doorLaid Ybad.prog 400 os).forCall (fun _ _ => 0) ⟨#[], args, []⟩).memory :=
  laidMetH_of_parts3 (fuel := 8) (laidMet_of_run' 8 (by kernel_rfl) (by kernel_rfl)) (by kernel_rfl) (by kernel_rfl)

/-- WHAT THE CONDITION GIVES THE WALK: the map's cell, and every look-up in every later world. -/
theorem of_laid {W : World} (h : laidMetH Ybad.prog Rows.lawS6339CWholeRow.laid W) : ∃ bm, W.cell? ⟨0, 0, none⟩ = some (.map (some bm)) ∧
    ∀ s : ByteArray, s.size ≤ maxLen → ∃ r, ∀ w', Below W.heap.size W w' → (Instr.lookup 43 (.map (some bm)) (.string s) true).run Ybad.prog w' = .ok (.tuple #[.int .u8 r, .bool (isKw s)]) w' := by
  rw [MakeChecks.laidMetH_plain _ _ _ (by kernel_rfl)] at h
  obtain ⟨ps, ⟨g0, t0, cs0, f0, p0, q0, hg0, ht0, hv0, hd0, _, _⟩, _, _⟩ := h
  obtain rfl : 0 = g0 := Option.some.inj ((show Ybad.prog.globalNamed _ = some 0 by kernel_rfl).symm.trans hg0)
  obtain rfl := Option.some.inj (tKw.symm.trans ht0)
  rcases open_map Ybad.underlying43 hd0 with ⟨_, hx⟩ | ⟨bm, es, clock, m, rfl, hcs, hb, _, F, hx⟩
  · simp [Rows.laid_example_com_seamcheck_seamcheck_internal_config_keywords] at hx
  simp only [Prod.mk.injEq] at hx
  have hcell : W.cell? ⟨0, 0, none⟩ = some (.map (some bm)) := by
    have := World.var?_cell hg0 hv0 0
    rw [Array.eq_one_of_toList hcs] at this
    simpa using this
  refine ⟨bm, hcell, fun s hs => ?_⟩
  have hbm : bm < W.heap.size := (Array.getElem?_eq_some_iff.1 hb).1
  have key := fun (w' : World) (hw' : Below W.heap.size W w') => fit_lookup_ok (w := w') law Ybad.underlying43 (show (zeroValue 41).run Ybad.prog w' = .ok (.int .u8 0) w' by kernel_rfl) ((hw'.block bm hbm).trans hb) F (keyOf_string_mk (s := s) Ybad.underlying9 hs)
  rcases key W (Below.refl _ _) with ⟨_, hat⟩ | ⟨v, y, _, hRv, hat, _⟩
  · refine ⟨0, fun w' hw' => ?_⟩
    rw [← hx.1] at hat
    have hk := no_kw s hat
    rcases key w' hw' with ⟨hrun, _⟩ | ⟨v, y, _, _, hat', _⟩
    · rw [hk]; exact hrun
    · rw [← hx.1] at hat'
      rw [some_kw s _ hat'] at hk
      cases hk
  · rw [← hx.1] at hat
    have hk := some_kw s _ hat
    obtain ⟨r, rfl, rfl, _⟩ := elemAt_int Ybad.underlying41 hRv
    refine ⟨r, fun w' hw' => ?_⟩
    rcases key w' hw' with ⟨_, hat'⟩ | ⟨v', y', hrun, hRv', hat', _⟩
    · rw [← hx.1] at hat'
      rw [no_kw s hat'] at hk
      cases hk
    · obtain ⟨r', rfl, rfl, _⟩ := elemAt_int Ybad.underlying41 hRv'
      rw [← hx.1] at hat'
      have e := (hat .nil).symm.trans (hat' .nil)
      cases e
      rw [hk]; exact hrun

def eofTok : Tok := ⟨0, ⟨#[]⟩, false, 0, 0, 0⟩
theorem text_size (z : Tok) (h : z.t.size ≤ maxLen) (_hx : 0 ≤ z.x) : z.text.size ≤ maxLen := by
  unfold Tok.text
  split
  · have hj : (z.x % 18).toNat < 18 := by omega
    have hall : ∀ j, j < 18 → (kwAt j).size ≤ maxLen := by decide
    exact hall _ hj
  · exact h

set_option maxRecDepth 100000 in
theorem lifted (os : Os) (started : os.Started) (H : Type) (enc : TypeId × Value → H) :
    ReturnsInHanded {} Ybad.checked os 3 .any (fun w args => (Rows.lawS6339CWholeSpec.pre enc Ybad.prog Ybad.f3 [] false w args ∧ laidMetH Ybad.prog Rows.lawS6339CWholeRow.laid w) ∧ sizedMet enc Ybad.prog Ybad.f3 (OpenSpec.ofChange Rows.lawS6339CWholeSpec) false w args)
      (Rows.lawS6339CWholeSpec.post enc Ybad.prog Ybad.f3 false true false false) := by
  refine returnsInHanded_of_change_and (C := Ybad.checked) (X := fun w _ => laidMetH Ybad.prog Rows.lawS6339CWholeRow.laid w) (fun _ _ _ hh h => h.of_heap hh) own started (by kernel_rfl) Ybad.func3
    (ChangeSpec.witness_shaped (enc := enc) (C := Ybad.checked) (os := os) (X := fun w _ => laidMetH Ybad.prog Rows.lawS6339CWholeRow.laid w) false (World.doorLaid Ybad.prog 400 os) #[.string ⟨#[]⟩, .slice none 0 0, .int .i64 0] 8 rfl (World.shaped_of_RefB (by kernel_rfl) (by kernel_rfl)) (by kernel_rfl) (by kernel_rfl) (by kernel_rfl) (door_met os _)) ?_
  intro W base args ds gs before hval0 hW _ _ hL _
  have hval : ∀ (j : Nat) t v, Ybad.f3.params[j]? = some t → args[j]? = some v → Value.okWide Ybad.prog W .any base t v := hval0
  have hW' := hW
  obtain ⟨p, q, hA0, hV, rfl, hfz, hnd⟩ := hW
  have hA : DataW.TrodAll enc Ybad.prog W 0 (fun _ => true) true Ybad.f3.params.toList args.toList ds p := hA0
  rw [Ybad.params3] at hA hval
  obtain ⟨v0, v1, v2, d0, d1, d2, p0, p1, p2, rfl, rfl, rfl, h0, h1, h2⟩ := trodAll_three hA
  obtain ⟨g, t, cs, vfuel, gd, pv, rfl, hg, ht, hv, hvd, rfl⟩ := trodVars_one hV
  obtain ⟨file, rfl, rfl, rfl, hs0⟩ := open_string Ybad.underlying9 (hval 0 9 v0 rfl rfl) h0
  obtain ⟨i, rfl, rfl, rfl, wi⟩ := open_int Ybad.underlying3 (hval 2 3 v2 rfl rfl) h2
  obtain ⟨a1, len, cap, rfl⟩ := okWide_slice Ybad.underlying22 (hval 1 22 v1 rfl rfl)
  have h1k := h1
  obtain ⟨fuel, hf⟩ := h1
  clear hA0 hval0
  obtain ⟨bm, hm, hlook⟩ := of_laid hL
  obtain rfl : 0 = g := Option.some.inj ((show Ybad.prog.globalNamed _ = some 0 by kernel_rfl).symm.trans hg)
  obtain rfl := Option.some.inj (tKw.symm.trans ht)
  have h0z : 0 < W.heap.size := World.block_lt_of_cell? W _ hm
  have hlt1 : ∀ x ∈ p1, x.block < W.heap.size := fun x hx => by simpa using hW'.lt x (by simp [hx])
  have hltv : ∀ x ∈ pv, x.block < W.heap.size := fun x hx => by simpa using hW'.lt x (by simp [hx])
  have fin : ∀ (e : Ending) (W' : World), (e = .returned (.bool true) ∧ Below W.heap.size W W') → ∃ v, e = .returned v ∧ Rows.lawS6339CWholeSpec.post enc Ybad.prog Ybad.f3 false true false false W #[.string file, .slice a1 len cap, .int .i64 i] v W' := by
    rintro e W' ⟨rfl, hnx⟩
    refine ⟨_, rfl, _, _, _, [], p1, MemPlace.row ⟨0, 0, none⟩ cs.size ++ pv, hW', ?_, ?_, ?_, hnx.frame _, fun h => by cases h⟩
    · exact trodAll_mk1 (shut_bool Ybad.underlying4 true)
    · have h1' := Below.trod Ybad.laidOut (by kernel_rfl) (of_decide_eq_true (by kernel_rfl)) h1k hnx hlt1
      have := trodAll_mk3 (shut_string (enc := enc) (w := W') (base := 0) (sp := fun b => decide (b < W.heap.size)) (held := true) Ybad.underlying9 hs0) h1' (shut_int Ybad.underlying3 wi)
      simp only [List.append_nil, List.nil_append] at this
      exact this
    · exact trodVars_mk1 hg ht (var?_below hnx hg h0z hv) (DataW.trod_stays (kids_book Ybad.laidOut (by kernel_rfl)) (book_sized (by kernel_rfl)) (fun h => by cases h) ⟨of_decide_eq_true (by kernel_rfl), book_self 43⟩ hvd (fun x hx => hnx.same (hltv x hx)) (fun x hx => by simpa using hltv x hx))
  have hE : eofTok.cells = [.int .u8 0, .string ⟨#[]⟩, .int .i64 0, .int .i64 0] := rfl
  rcases open_toks hf with hcs | ⟨a, len', cap', Z, hcs, hl, hmx, hZ⟩
  · simp [Value.cells] at hcs
    obtain ⟨rfl, rfl, rfl⟩ := hcs
    refine (law_walk file none 0 0 i (fun _ => eofTok) W bm (by omega) hE (fun _ => ⟨by decide, by decide⟩) (.inl rfl) hm (fun _ => by decide) hlook).mono ?_
    exact fun e W' h => fin e W' h
  · simp [Value.cells] at hcs
    obtain ⟨rfl, rfl, rfl⟩ := hcs
    by_cases hbig : 1048576 < len
    · refine (law_early file (some a) len cap i W hbig (by unfold maxLen at hmx; omega)).mono ?_
      rintro e W' ⟨he, hw⟩
      exact fin e W' ⟨he, hw ▸ Below.refl _ _⟩
    · have hx' : ∀ k, 0 ≤ (if k < len then Z k else eofTok).x ∧ (if k < len then Z k else eofTok).x ≤ 255 := by
        intro k
        split
        · exact (hZ k ‹_›).2.1
        · exact ⟨by decide, by decide⟩
      refine (law_walk file (some a) len cap i (fun k => if k < len then Z k else eofTok) W bm (by omega) (by simp only [Nat.lt_irrefl, if_false]; exact hE) hx' ?_ hm ?_ hlook).mono ?_
      · by_cases h0 : len = 0
        · exact .inl h0
        right
        obtain ⟨b, off, spot⟩ := a
        have hspot : spot = none := by simpa [Addr.add] using World.cell?_spot (hZ 0 (by omega)).1.1
        subst hspot
        have hb0 := World.block_lt_of_cell? W _ (hZ 0 (by omega)).1.1
        refine ⟨b, off, rfl, by simpa [Addr.add] using hb0, fun k hk => ?_⟩
        have := (hZ k hk).1
        simp only [if_pos hk]
        rw [add_plain', add_plain', add_plain', add_plain', add_plain', add_plain'] at this
        exact this
      · intro k
        refine text_size _ ?_ (hx' k).1
        split
        · exact (hZ k ‹_›).2.2
        · decide
      · exact fun e W' h => fin e W' h

theorem row_holds : Rows.LawS6339CWholeSaid :=
  OpenClaim.holds_of_wide 3 Ybad.f3 rfl rfl rfl rfl rfl rfl rfl ⟨rfl, rfl, rfl, rfl, rfl⟩ rfl rfl rfl rfl rfl (by kernel_rfl) Ybad.func3 (by kernel_rfl)
    (of_decide_eq_true (by kernel_rfl)) (by unfold Func.isWrapper; first | (rw [if_pos (by decide +kernel)]; kernel_rfl) | (rw [if_neg (by decide +kernel)]; exact ⟨rfl, rfl⟩))
    (fun os started H enc _ => lifted os started H enc)

theorem cwhole_card : Rows.LawS6339CWholeCardSaid :=
  Claim7.holds_tied_plain_at .later [] [.mapped] true Rows.lawS6339CWholeCard.stood.harness false
    row_holds (fun _ h => by cases h) (by kernel_rfl) (fun _ h => by cases h) lawS6339CWhole_row_tie rfl ⟨rfl, rfl⟩ (by kernel_rfl) rfl
    (fun f fn hf hfn => by
      obtain rfl : 3 = f := Option.some.inj ((show Ybad.prog.funcNamed Rows.lawS6339CWholeRow.func = some 3 by kernel_rfl).symm.trans hf)
      obtain rfl : Ybad.f3 = fn := Option.some.inj (Ybad.func3.symm.trans hfn)
      exact ⟨by kernel_rfl, fun j t ht => by
        rw [Ybad.params3] at ht
        have hm : t ∈ [9, 22, 3] := by simpa using Array.mem_of_getElem? ht
        have hall : ([9, 22, 3].all fun u => !Ybad.prog.wantsStandIn u) = true := by kernel_rfl
        exact (show Ybad.prog.wantsStandIn t = false by simpa using List.all_eq_true.1 hall t hm)⟩)
    (by kernel_rfl)

end Go.Proofs.YbulkeagiDoor
