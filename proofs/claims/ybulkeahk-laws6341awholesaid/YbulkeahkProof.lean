/-
  'Rows.LawS6341AWholeSaid', PROVED.
-/
import Derived.Test.YbulkeahkOpen
namespace Go.Proofs.Ybulkeahk
open Go.ChangeShapes Go.WideShapes Go.ChangeAt Go.RowKit

theorem own : ownKnob Yba.prog.godebug = none := by kernel_rfl
theorem Yba.laidOut : laidOutB Yba.pinned.checked.prog = true := by kernel_rfl
theorem Yba.cells3 : Yba.prog.cellsOf 3 = 1 := by kernel_rfl
theorem Yba.cells26 : Yba.prog.cellsOf 26 = 1 := by kernel_rfl
theorem Yba.bytes3 : Yba.prog.bytesOf 3 = 8 := by kernel_rfl
theorem Yba.bytes26 : Yba.prog.bytesOf 26 = 8 := by kernel_rfl
theorem Yba.bytes68 : Yba.prog.bytesOf 68 = 16 := by kernel_rfl

/-- The reach bounds a slice's length. -/
theorem len_le {H : Type} {ts : List TypeId} {ds : List (DataW H)} (hsz : (DataW.weightsEach Yba.prog ts ds).all (· ≤ reachBytes) = true) {j n : Nat} {t e : TypeId} {d : DataW H} (b : Nat) (hb : Yba.prog.bytesOf e = b + 1) (ht : ts[j]? = some t) (hd : ds[j]? = some d) (hu : Yba.prog.underlying t = some (.slice e))
    (h : n = 0 ∨ ∃ elems spare, d = .slice elems spare ∧ elems.length = n) : n ≤ 140737488351232 := by
  rcases h with h | ⟨elems, spare, rfl, hl⟩
  · omega
  · have := sized_slice hsz ht hd hu
    rw [hb] at this
    have h2 : elems.length ≤ (elems.length + spare.length) * (b + 1) := by
      rw [Nat.mul_add, Nat.mul_one]
      omega
    have h3 : reachBytes = 140737488351232 := rfl
    omega

set_option maxRecDepth 100000 in
set_option maxHeartbeats 2000000 in
theorem lifted (os : Os) (started : os.Started) (H : Type) (enc : TypeId × Value → H) :
    ReturnsInHanded {} Yba.checked os 3 .any (Rows.lawS6341AWholeSpec.pre6 enc Yba.prog Yba.f3 Rows.lawS6341AWholeRow.domain false) (Rows.lawS6341AWholeSpec.post enc Yba.prog Yba.f3 false true false false) := by
  refine returnsInHanded_of_change_sized (C := Yba.checked) own started (by kernel_rfl) Yba.func3
    (ChangeSpec.witness6 (enc := enc) (C := Yba.checked) false ⟨#[], #[.int .u8 0, .slice none 0 0, .slice none 0 0, .slice none 0 0, .slice none 0 0, .slice none 0 0, .int .u32 0, .int .u64 0, .int .u32 0, .int .u64 0, .int .u8 0], []⟩ 8 (by kernel_rfl) (by kernel_rfl) (by kernel_rfl) (by kernel_rfl)) ?_
  intro W base args ds gs before hval0 hW hcnd hsz0 _
  have hval : ∀ (j : Nat) t v, Yba.f3.params[j]? = some t → args[j]? = some v → Value.okWide Yba.prog W .any base t v := hval0
  have hsz : (DataW.weightsEach Yba.prog (Yba.f3.params.toList ++ Rows.lawS6341AWholeSpec.plain.varTypes Yba.prog) (ds ++ gs)).all (· ≤ reachBytes) = true := hsz0
  have hW' := hW
  obtain ⟨p, q, hA0, hV, rfl, hfz, hnd⟩ := hW
  have hA : DataW.TrodAll enc Yba.prog W 0 (fun _ => true) true Yba.f3.params.toList args.toList ds p := hA0
  rw [Yba.params3] at hA hval hsz
  obtain ⟨v0, vs0, d0, ds0, p0, q0, hargs, rfl, rfl, h0, r0⟩ := trodAll_cons hA
  obtain ⟨v1, vs1, d1, ds1, p1, q1, rfl, rfl, rfl, h1, r1⟩ := trodAll_cons r0
  obtain ⟨v2, vs2, d2, ds2, p2, q2, rfl, rfl, rfl, h2, r2⟩ := trodAll_cons r1
  obtain ⟨v3, vs3, d3, ds3, p3, q3, rfl, rfl, rfl, h3, r3⟩ := trodAll_cons r2
  obtain ⟨v4, vs4, d4, ds4, p4, q4, rfl, rfl, rfl, h4, r4⟩ := trodAll_cons r3
  obtain ⟨v5, vs5, d5, ds5, p5, q5, rfl, rfl, rfl, h5, r5⟩ := trodAll_cons r4
  obtain ⟨v6, vs6, d6, ds6, p6, q6, rfl, rfl, rfl, h6, r6⟩ := trodAll_cons r5
  obtain ⟨v7, vs7, d7, ds7, p7, q7, rfl, rfl, rfl, h7, r7⟩ := trodAll_cons r6
  obtain ⟨v8, vs8, d8, ds8, p8, q8, rfl, rfl, rfl, h8, r8⟩ := trodAll_cons r7
  obtain ⟨v9, vs9, d9, ds9, p9, q9, rfl, rfl, rfl, h9, r9⟩ := trodAll_cons r8
  obtain ⟨v10, vs10, d10, ds10, p10, q10, rfl, rfl, rfl, h10, r10⟩ := trodAll_cons r9
  obtain ⟨rfl, rfl, rfl⟩ := trodAll_nil r10
  obtain rfl : args = #[v0, v1, v2, v3, v4, v5, v6, v7, v8, v9, v10] := by cases args; simp_all
  obtain ⟨rfl, rfl⟩ := trodVars_none hV
  obtain ⟨nh, rfl, rfl, rfl, w0⟩ := open_int Yba.underlying5 (hval 0 5 v0 rfl rfl) h0
  obtain ⟨am, nm, cm, rfl⟩ := okWide_slice Yba.underlying22 (hval 1 22 v1 rfl rfl)
  obtain ⟨aa, na, ca, rfl⟩ := okWide_slice Yba.underlying23 (hval 2 23 v2 rfl rfl)
  obtain ⟨ar, nr, cr, rfl⟩ := okWide_slice Yba.underlying24 (hval 3 24 v3 rfl rfl)
  obtain ⟨a0, n0, c0, rfl⟩ := okWide_slice Yba.underlying24 (hval 4 24 v4 rfl rfl)
  obtain ⟨a1, n1, c1, rfl⟩ := okWide_slice Yba.underlying24 (hval 5 24 v5 rfl rfl)
  obtain ⟨host0, rfl, rfl, rfl, w6⟩ := open_int Yba.underlying25 (hval 6 25 v6 rfl rfl) h6
  obtain ⟨own0, rfl, rfl, rfl, w7⟩ := open_int Yba.underlying26 (hval 7 26 v7 rfl rfl) h7
  obtain ⟨host1, rfl, rfl, rfl, w8⟩ := open_int Yba.underlying25 (hval 8 25 v8 rfl rfl) h8
  obtain ⟨own1, rfl, rfl, rfl, w9⟩ := open_int Yba.underlying26 (hval 9 26 v9 rfl rfl) h9
  obtain ⟨sel, rfl, rfl, rfl, w10⟩ := open_int Yba.underlying5 (hval 10 5 v10 rfl rfl) h10
  clear hA0 hval0 hsz0
  simp only [List.append_nil, List.nil_append] at hW'
  obtain ⟨MI, HM, _, lm⟩ := ints_in Yba.underlying22 Yba.underlying3 Yba.cells3 h1
  obtain ⟨AI, HA, wA, la⟩ := ints_in Yba.underlying23 Yba.underlying26 Yba.cells26 h2
  obtain ⟨XR, YR, HR, bXR, bYR, lr⟩ := raw_in h3
  obtain ⟨X0, Y0, H0, bX0, bY0, l0⟩ := raw_in h4
  obtain ⟨X1, Y1, H1, bX1, bY1, l1⟩ := raw_in h5
  have em := len_le hsz (j := 1) (t := 22) (e := 3) 7 Yba.bytes3 rfl rfl Yba.underlying22 lm
  have ea := len_le hsz (j := 2) (t := 23) (e := 26) 7 Yba.bytes26 rfl rfl Yba.underlying23 la
  have er := len_le hsz (j := 3) (t := 24) (e := 68) 15 Yba.bytes68 rfl rfl Yba.underlying24 lr
  have e0 := len_le hsz (j := 4) (t := 24) (e := 68) 15 Yba.bytes68 rfl rfl Yba.underlying24 l0
  have e1 := len_le hsz (j := 5) (t := 24) (e := 68) 15 Yba.bytes68 rfl rfl Yba.underlying24 l1
  have hlt : ∀ x, (x ∈ p1 ∨ x ∈ p2 ∨ x ∈ p3 ∨ x ∈ p4 ∨ x ∈ p5) → x.block < W.heap.size := fun x hx => by
    have := hW'.lt x (by rcases hx with h | h | h | h | h <;> simp [h])
    simpa using this
  have fin : ∀ (e : Ending) (W' : World), (e = .returned (.bool true) ∧ Below W.heap.size W W') → ∃ v, e = .returned v ∧ Rows.lawS6341AWholeSpec.post enc Yba.prog Yba.f3 false true false false W #[.int .u8 nh, .slice am nm cm, .slice aa na ca, .slice ar nr cr, .slice a0 n0 c0, .slice a1 n1 c1, .int .u32 host0, .int .u64 own0, .int .u32 host1, .int .u64 own1, .int .u8 sel] v W' := by
    rintro e W' ⟨rfl, hnx⟩
    refine ⟨_, rfl, _, _, _, [], p1 ++ (p2 ++ (p3 ++ (p4 ++ p5))), [], hW', ?_, ?_, rfl, hnx.frame _, fun h => by cases h⟩
    · exact trodAll_mk1 (shut_bool Yba.underlying4 true)
    · have t1 := Below.trod Yba.laidOut (by kernel_rfl) (of_decide_eq_true (by kernel_rfl)) h1 hnx (fun x hx => hlt x (.inl hx))
      have t2 := Below.trod Yba.laidOut (by kernel_rfl) (of_decide_eq_true (by kernel_rfl)) h2 hnx (fun x hx => hlt x (.inr (.inl hx)))
      have t3 := Below.trod Yba.laidOut (by kernel_rfl) (of_decide_eq_true (by kernel_rfl)) h3 hnx (fun x hx => hlt x (.inr (.inr (.inl hx))))
      have t4 := Below.trod Yba.laidOut (by kernel_rfl) (of_decide_eq_true (by kernel_rfl)) h4 hnx (fun x hx => hlt x (.inr (.inr (.inr (.inl hx)))))
      have t5 := Below.trod Yba.laidOut (by kernel_rfl) (of_decide_eq_true (by kernel_rfl)) h5 hnx (fun x hx => hlt x (.inr (.inr (.inr (.inr hx)))))
      have := trodAll_cons_mk (shut_int Yba.underlying5 w0) (trodAll_cons_mk t1 (trodAll_cons_mk t2 (trodAll_cons_mk t3 (trodAll_cons_mk t4 (trodAll_cons_mk t5 (trodAll_cons_mk (shut_int Yba.underlying25 w6) (trodAll_cons_mk (shut_int Yba.underlying26 w7) (trodAll_cons_mk (shut_int Yba.underlying25 w8) (trodAll_cons_mk (shut_int Yba.underlying26 w9) (trodAll_cons_mk (shut_int Yba.underlying5 w10) trodAll_mk0))))))))))
      simp only [List.append_nil, List.nil_append] at this
      exact this
  by_cases hbig : 1048576 < nm + na + nr + n0 + n1
  · refine (law_early nh am aa ar a0 a1 nm na nr n0 n1 cm ca cr c0 c1 host0 own0 host1 own1 sel W hbig em ea er e0 e1).mono ?_
    rintro e W' ⟨he, hw⟩
    exact fin e W' ⟨he, hw ▸ Below.refl _ _⟩
  · have b0 := bounds_u8 w0
    have b6 := bounds_u32 w6
    have b7 := bounds_u64 w7
    have b8 := bounds_u32 w8
    have b9 := bounds_u64 w9
    have b10 := bounds_u8 w10
    refine (law_walk nh am aa ar a0 a1 nm na nr n0 n1 cm ca cr c0 c1 (nh % 8 + 1).toNat host0 own0 host1 own1 sel MI AI XR YR X0 Y0 X1 Y1 W (by omega) b0.1 b0.2 (by omega) (by omega) (by omega) HM HA HR H0 H1 bXR bX0 bX1 bYR bY0 bY1 b10.1 b10.2 b6.1 b6.2 b8.1 b8.2 b7.1 b7.2 b9.1 b9.2 (fun k => bounds_u64 (wA k))).mono ?_
    exact fun e W' h => fin e W' h

theorem s6341a_whole : Rows.LawS6341AWholeSaid :=
  OpenClaim.holds_of_wide 3 Yba.f3 rfl rfl rfl rfl rfl rfl rfl ⟨rfl, rfl, rfl, rfl, rfl⟩ rfl rfl rfl rfl rfl (by kernel_rfl) Yba.func3 (by kernel_rfl)
    (of_decide_eq_true (by kernel_rfl)) (by unfold Func.isWrapper; first | (rw [if_pos (by decide +kernel)]; kernel_rfl) | (rw [if_neg (by decide +kernel)]; exact ⟨rfl, rfl⟩))
    (fun os started H enc _ => lifted os started H enc)
end Go.Proofs.Ybulkeahk
