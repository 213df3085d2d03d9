/-
  zzs6342bname AND zzs6342bcheck.
-/
import Derived.Test.YbulkeahyFmtRPut2
import Derived.LaidEqlPtr
namespace Go.Proofs.YbulkeahyFmtR
open Go.RowKit

def nameOf (x : Int) : ByteArray := if x % 5 = 0 then ⟨#[97]⟩ else if x % 5 = 1 then ⟨#[98]⟩ else if x % 5 = 2 then ⟨#[99]⟩ else if x % 5 = 3 then ⟨#[100]⟩ else ⟨#[]⟩
theorem nameOf_len (x : Int) : (nameOf x).size ≤ maxLen := by
  unfold nameOf maxLen
  repeat' split
  all_goals decide

theorem name_any (x : Int) (w : World) (h0 : 0 ≤ x) (_h1 : x ≤ 255) :
    Calls Ybaf.prog 4 #[.int .u8 x] w fun e w' => e = .returned (.string (nameOf x)) ∧ w' = w := by
  have e5 : x.tmod 5 = x % 5 := Int.tmod_eq_emod_of_nonneg h0
  have hm : x % 5 = 0 ∨ x % 5 = 1 ∨ x % 5 = 2 ∨ x % 5 = 3 ∨ x % 5 = 4 := by omega
  go_enter Ybaf.func4, Ybaf.ntmps4
  rcases hm with h | h | h | h | h
  all_goals
    have e6 := e5.trans h
    go_wp2_with fail
    go_ret
    exact ⟨by simp [nameOf, h], rfl⟩

def adr : Option (Nat × Nat) → Option Addr
  | none => none
  | some (b, o) => some ⟨b, o, none⟩
theorem pv_adr (p : Option (Nat × Nat)) : pv p = .pointer (adr p) := by
  cases p with
  | none => rfl
  | some p => rfl

theorem equal31 (p : Option Addr) (w : World) : (Op.equal 31 (.pointer p) (.pointer p)).run Ybaf.prog w = .ok true w := by
  obtain ⟨j, hj⟩ : ∃ j, Ybaf.prog.info? 33 = some j := Option.isSome_iff_exists.1 (by kernel_rfl)
  have h : ∀ d : Nat, (Op.equalIn (d + 1) 31 (.pointer p) (.pointer p)).run Ybaf.prog w = .ok true w := fun d => by
    cases p with
    | none => simp [Op.equalIn, run_underlying Ybaf.underlying31]
    | some a => simp [Op.equalIn, run_underlying Ybaf.underlying31, sizeOf, typeInfo, hj, run_sameAddr_same]
  simp [Op.equal, Op.maxDepth, h 9999]
theorem neq31 (p : Option Addr) (w : World) : (binOp .neq 31 (.pointer p) (.pointer p)).run Ybaf.prog w = .ok (.bool false) w := by
  simp only [binOp]
  simp [equal31]
theorem eql31 (p : Option Addr) (w : World) : (binOp .eql 31 (.pointer p) (.pointer p)).run Ybaf.prog w = .ok (.bool true) w := by
  simp only [binOp]
  simp [equal31]

/-- The items of the model, cell by cell. -/
def Items (w : World) (b o : Nat) (X : List It) : Prop :=
  ∀ j x, X[j]? = some x → w.cell? ⟨b, o + j * 3, none⟩ = some (.string x.1) ∧ w.cell? ⟨b, o + j * 3 + 1, none⟩ = some (.int .u64 x.2.1) ∧ w.cell? ⟨b, o + j * 3 + 2, none⟩ = some (.int .u64 x.2.2)

theorem seg_at {w : World} {p q : Option (Nat × Nat)} {L : List Nd} (s : Seg w p L q) (k : Nat) (n : Nd) (h : L[k]? = some n) :
    w.cell? ⟨n.b, n.o + 3, none⟩ = some (pv (lst p (L.take k))) ∧ w.cell? ⟨n.b, n.o + 4, none⟩ = some (pv (hd q (L.drop (k + 1)))) := by
  induction L generalizing p k with
  | nil => simp at h
  | cons m L ih =>
    cases k with
    | zero =>
      simp at h
      subst h
      exact ⟨s.1, s.2.1⟩
    | succ k => exact ih s.2.2 k (by simpa using h)

set_option maxRecDepth 4000 in
theorem check_any (tb mb b o cap : Nat) (lim : Int) (L : List Nd) (w : World) (T : Tab w tb mb lim L) (hL : L.length ≤ 1000000) (I : Items w b o (L.map Nd.it)) :
    Calls Ybaf.prog 7 #[.pointer (some ⟨tb, 0, none⟩), .int .u64 lim, .slice (some ⟨b, o, none⟩) L.length cap] w fun e w' => e = .returned (.bool true) ∧ ∃ q, w' = w.drewN q := by
  obtain ⟨D, M⟩ := T.map
  obtain ⟨nl, hnl⟩ : ∃ nl, Hid (nl = L.length) := ⟨_, rfl⟩
  rw [← hnl.out] at hL ⊢
  have hlen : (Builtin.len_ #[47] 3 #[.map (some mb)]).run Ybaf.prog w = .ok (.int .i64 (nl : Int)) w := by
    have := M.own.len (e := 31) Ybaf.underlying47 3
    rw [M.size, ← hnl.out] at this
    exact this
  have c0 := T.lim
  have c1 := T.byid
  have c2 := T.lnk.old
  have c3 := T.lnk.new
  rw [pv_adr] at c2 c3
  obtain ⟨po, hpo⟩ : ∃ po, Hid (po = adr (hd none L)) := ⟨_, rfl⟩
  obtain ⟨pn, hpn⟩ : ∃ pn, Hid (pn = adr (lst none L)) := ⟨_, rfl⟩
  rw [← hpo.out] at c2
  rw [← hpn.out] at c3
  go_enter Ybaf.func7, Ybaf.ntmps7
  go_wp2_with fail
  go_loopw [7, 8, 9] (fun pr e i wr => ∃ k : Nat, k ≤ nl ∧ i = .int .i64 k ∧ pr = .pointer (adr (lst none (L.take k))) ∧ e = .pointer (adr (hd none (L.drop k))) ∧ ∃ q, wr = w.drewN q) (fun _ _ i _ => nl - (intOf i).toNat)
  case atStart => exact ⟨0, Nat.zero_le _, rfl, rfl, by rw [hpo.out]; rfl, 0, rfl⟩
  case round =>
    obtain ⟨k, hk, rfl, rfl, rfl, q, rfl⟩ := hrel
    by_cases hlt : k < nl
    · obtain ⟨n, hn⟩ : ∃ n, L[k]? = some n := ⟨L[k]'(by have := hnl.out; omega), List.getElem?_eq_getElem _⟩
      have hnm : n ∈ L := List.mem_of_getElem? hn
      have hdn : L.drop k = n :: L.drop (k + 1) := by
        obtain ⟨h1, h2⟩ := List.getElem?_eq_some_iff.1 hn
        rw [← h2]; exact List.drop_eq_getElem_cons h1
      have d := T.dat n hnm
      obtain ⟨i0, i1, i2⟩ := I k n.it (by rw [List.getElem?_map, hn]; rfl)
      obtain ⟨s3, s4⟩ := seg_at T.lnk.seg k n hn
      rw [pv_adr] at s3 s4
      have e0 := d.c
      have e1 := d.q
      have e2 := d.f
      simp only [Nd.it] at i0 i1 i2
      have hr : ∀ n', (Instr.lookup 47 (.map (some mb)) (.string n.c) true).run Ybaf.prog (w.drewN n') = .ok (.tuple #[.pointer (some ⟨n.b, n.o, none⟩), .bool true]) (w.drewN n') := by
        intro n'
        obtain ⟨v, ps, hrun, hv⟩ := (own_block (w' := w.drewN n') M.own rfl).look_ok keyed9 Ybaf.underlying47 (e := 31) (z := .pointer none) (by kernel_rfl) (zd := .nil) (zp := []) rfl (key9 d.len)
        rw [(M.at_ n hnm).1] at hrun
        rw [(M.at_ n hnm).2] at hv
        obtain rfl : v = .pointer (some ⟨n.b, n.o, none⟩) := by
          cases v with
          | pointer a => cases a with
            | none => simp [Rp] at hv
            | some a => simp [Rp] at hv; rw [hv.1]
          | _ => simp [Rp] at hv
        exact hrun
      rw [show adr (hd none (L.drop k)) = some ⟨n.b, n.o, none⟩ by rw [hdn]; rfl]
      obtain ⟨pr, hpr⟩ : ∃ pr, Hid (pr = adr (lst none (L.take k))) := ⟨_, rfl⟩
      obtain ⟨ex, hex⟩ : ∃ ex, Hid (ex = adr (hd none (L.drop (k + 1)))) := ⟨_, rfl⟩
      rw [← hpr.out] at s3 ⊢
      rw [← hex.out] at s4
      have hlt' : (k : Int) < (nl : Int) := by omega
      have hnext : Hid (lst none (L.take (k + 1)) = some (n.b, n.o)) := by show _ = _; rw [List.take_add_one, hn]; exact lst_snoc _ _ _
      have hq1 := neq31
      clear hdn hn hnm d I T M c2 c3 hpo hpn hlen
      go_wp2_with fail
      go_quiet (fail)
      go_wp2_with fail
      go_quiet (fail)
      go_wp2_with fail
      go_roundw
      case rel => exact ⟨k + 1, by omega, by go_num, by rw [hnext.out]; rfl, by rw [hex.out], _, rfl⟩
      case measure => simp [intOf] <;> omega
    · have hke : k = L.length := by have := hnl.out; omega
      have e1 : adr (hd none (L.drop k)) = none := by rw [List.drop_of_length_le (by omega)]; rfl
      have e2 : adr (lst none (L.take k)) = pn := by rw [hpn.out, List.take_of_length_le (by omega)]
      rw [e1, e2]
      have hq1 := eql31
      go_wp2_with fail
      go_ret
      exact ⟨rfl, _, rfl⟩

set_option maxRecDepth 4000 in
theorem check_nil (tb mb : Nat) (lim : Int) (w : World) (T : Tab w tb mb lim []) :
    Calls Ybaf.prog 7 #[.pointer (some ⟨tb, 0, none⟩), .int .u64 lim, .slice none 0 0] w fun e w' => e = .returned (.bool true) ∧ ∃ q, w' = w.drewN q := by
  obtain ⟨D, M⟩ := T.map
  have hlen : (Builtin.len_ #[47] 3 #[.map (some mb)]).run Ybaf.prog w = .ok (.int .i64 0) w := by
    have := M.own.len (e := 31) Ybaf.underlying47 3
    rw [M.size] at this
    exact this
  have c0 := T.lim
  have c1 := T.byid
  have c2 : w.cell? ⟨tb, 2, none⟩ = some (.pointer none) := T.lnk.old
  have c3 : w.cell? ⟨tb, 3, none⟩ = some (.pointer none) := T.lnk.new
  have hq1 := eql31
  go_enter Ybaf.func7, Ybaf.ntmps7
  go_wp2_with fail
  go_loopw [7, 8, 9] (fun pr e i wr => i = .int .i64 0 ∧ pr = .pointer none ∧ e = .pointer none ∧ wr = w) (fun _ _ _ _ => 0)
  case atStart => exact ⟨rfl, rfl, rfl, rfl⟩
  case round =>
    obtain ⟨rfl, rfl, rfl, rfl⟩ := hrel
    go_wp2_with fail
    go_ret
    exact ⟨rfl, 0, rfl⟩

end Go.Proofs.YbulkeahyFmtR
