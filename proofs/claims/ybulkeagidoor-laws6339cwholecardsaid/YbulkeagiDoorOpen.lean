/-
  THE PLAIN SIDE OF THE LISTED MAP, AND THE ARGUMENTS OPENED.
-/
import Derived.Test.YbulkeagiDoorRows
import Derived.Test.YbulkeagiDoorLaw
import Derived.ProofKit
import Derived.LaidMore
import Derived.OpenShut
import Derived.Deep.Slices
import Derived.Laws.IdiomMaps
import Derived.Stop.Joined
namespace Go.Proofs.YbulkeagiDoor
open Go.ChangeShapes Go.WideShapes Go.ChangeAt Go.WideMaps Go.WideElems Go.RowKit

def keysD : List (List UInt8) := (kwList.map fun k => k.data.toList)
theorem isKw_mem (s : ByteArray) : isKw s = true ↔ s.data.toList ∈ keysD := by
  unfold isKw keysD
  simp only [ByteArray.toList_eq, List.any_eq_true, List.mem_map, beq_iff_eq]

def entriesD (H : Type) : List (Lit × DataW H) := match (Rows.laid_example_com_seamcheck_seamcheck_internal_config_keywords : DataW H) with
  | .map l => l
  | _ => []
theorem laid_eq (H : Type) : (Rows.laid_example_com_seamcheck_seamcheck_internal_config_keywords : DataW H) = .map (entriesD H) := rfl
def bytesOfKey : Lit → List UInt8
  | .string b => b
  | _ => []
def sortedKeys : List (List UInt8) := (entriesD Unit).map fun p => bytesOfKey p.1
theorem keys_perm : sortedKeys.isPerm keysD = true := by decide +kernel
theorem keys_mem (x : List UInt8) : x ∈ sortedKeys ↔ x ∈ keysD := (List.isPerm_iff.1 keys_perm).mem_iff
theorem sorted_any (H : Type) : (entriesD H).map (fun p => p.1) = sortedKeys.map Lit.string := rfl
theorem entries_hit {H : Type} (x : List UInt8) : (∃ p ∈ entriesD H, p.1 = .string x) ↔ x ∈ sortedKeys := by
  have h : (∃ p ∈ entriesD H, p.1 = .string x) ↔ Lit.string x ∈ (entriesD H).map (fun p => p.1) := by simp [List.mem_map]
  rw [h, sorted_any]
  simp [List.mem_map]

/-- Nothing under the key: no keyword. -/
theorem no_kw {H : Type} (s : ByteArray) (h : ∀ zd : DataW H, (Rows.laid_example_com_seamcheck_seamcheck_internal_config_keywords : DataW H).atKey (.string s.data.toList) zd = zd) : isKw s = false := by
  cases hk : isKw s with
  | false => rfl
  | true =>
    exfalso
    have hm := (entries_hit (H := H) s.data.toList).2 ((keys_mem _).2 ((isKw_mem s).1 hk))
    obtain ⟨p, hp, he⟩ := hm
    have h1 := h .nil
    have h2 := h (.lit (.bool true))
    rw [laid_eq] at h1 h2
    simp only [DataW.atKey] at h1 h2
    cases hf : (entriesD H).find? (fun q => q.1.sameKey (.string s.data.toList)) with
    | none =>
      have := List.find?_eq_none.1 hf p hp
      rw [he] at this
      simp [Lit.sameKey] at this
    | some q =>
      rw [hf] at h1 h2
      rw [h1] at h2
      cases h2
/-- Something under the key: a keyword. -/
theorem some_kw {H : Type} (s : ByteArray) (y : DataW H) (h : ∀ zd : DataW H, (Rows.laid_example_com_seamcheck_seamcheck_internal_config_keywords : DataW H).atKey (.string s.data.toList) zd = y) : isKw s = true := by
  refine (isKw_mem s).2 ((keys_mem _).1 ((entries_hit (H := H) s.data.toList).1 ?_))
  have h1 := h .nil
  have h2 := h (.lit (.bool true))
  rw [laid_eq] at h1 h2
  simp only [DataW.atKey] at h1 h2
  cases hf : (entriesD H).find? (fun q => q.1.sameKey (.string s.data.toList)) with
  | none =>
    rw [hf] at h1 h2
    rw [← h1] at h2
    cases h2
  | some q =>
    refine ⟨q, List.mem_of_find?_eq_some hf, ?_⟩
    have := List.find?_some hf
    revert this
    cases q.1 <;> simp [Lit.sameKey]

/-- THE TOKENS OF THE ARGUMENT, cell by cell. -/
theorem open_toks {H : Type} {enc : TypeId × Value → H} {w : World} {spare : Nat → Bool} {held : Bool} {fuel : Nat} {cs : List Value} {x : DataW H × List MemPlace} (h : DataW.trod enc Ybad.prog w 0 spare held fuel 22 cs = some x) :
    (cs = [.slice none 0 0]) ∨ ∃ (a : Addr) (len cap : Nat) (Z : Nat → Tok), cs = [.slice (some a) len cap] ∧ len ≤ cap ∧ cap ≤ maxLen ∧
      ∀ i, i < len → (w.cell? (a.add (i * 6)) = some (.int .u8 (Z i).k) ∧ w.cell? (a.add (i * 6 + 1)) = some (.string (Z i).t) ∧ w.cell? (a.add (i * 6 + 2)) = some (.bool (Z i).kw) ∧ w.cell? (a.add (i * 6 + 3)) = some (.int .u8 (Z i).x) ∧
        w.cell? (a.add (i * 6 + 4)) = some (.int .i64 (Z i).l) ∧ w.cell? (a.add (i * 6 + 5)) = some (.int .i64 (Z i).c)) ∧ (0 ≤ (Z i).x ∧ (Z i).x ≤ 255) ∧ (Z i).t.size ≤ maxLen := by
  rcases Deep.open_slice Ybad.underlying22 h with ⟨h0, _⟩ | ⟨a, len, cap, m, n, D, Pl, rfl, hb, hl, hm, hmm, rfl, hx⟩
  · exact Or.inl h0
  right
  have hlm : len ≤ m := by rw [hmm]; split <;> omega
  have c27 : Ybad.prog.cellsOf 27 = 6 := by kernel_rfl
  have c5 : Ybad.prog.cellsOf 5 = 1 := by kernel_rfl
  have c9 : Ybad.prog.cellsOf 9 = 1 := by kernel_rfl
  have c4 : Ybad.prog.cellsOf 4 = 1 := by kernel_rfl
  have c3 : Ybad.prog.cellsOf 3 = 1 := by kernel_rfl
  have each : ∀ i, i < len → ∃ z : Tok, (w.cell? (a.add (i * 6)) = some (.int .u8 z.k) ∧ w.cell? (a.add (i * 6 + 1)) = some (.string z.t) ∧ w.cell? (a.add (i * 6 + 2)) = some (.bool z.kw) ∧ w.cell? (a.add (i * 6 + 3)) = some (.int .u8 z.x) ∧
        w.cell? (a.add (i * 6 + 4)) = some (.int .i64 z.l) ∧ w.cell? (a.add (i * 6 + 5)) = some (.int .i64 z.c)) ∧ (0 ≤ z.x ∧ z.x ≤ 255) ∧ z.t.size ≤ maxLen := by
    intro i hi
    obtain ⟨cs', h1, h2⟩ := hx i (by omega)
    rw [c27] at h1
    obtain ⟨_, hlen, hcell⟩ := World.cells?_some h1
    obtain ⟨xs, k, hk, hxy, _, hxl, hf⟩ := DataW.trod_struct Ybad.underlying27 h2
    match xs, hxl, cs', hlen with
    | [y0, y1, y2, y3, y4, y5], _, [v0, v1, v2, v3, v4, v5], _ =>
      have g0 := hf 0 _ rfl
      have g1 := hf 1 _ rfl
      have g2 := hf 2 _ rfl
      have g3 := hf 3 _ rfl
      have g4 := hf 4 _ rfl
      have g5 := hf 5 _ rfl
      simp [c5, c9, c4, c3] at g0 g1 g2 g3 g4 g5
      obtain ⟨k0, e0, _, _⟩ := DataW.trod_int Ybad.underlying5 g0
      obtain ⟨k1, e1, _, s1⟩ := DataW.trod_string Ybad.underlying9 g1
      obtain ⟨k2, e2, _⟩ := DataW.trod_bool Ybad.underlying4 g2
      obtain ⟨k3, e3, _, w3⟩ := DataW.trod_int Ybad.underlying5 g3
      obtain ⟨k4, e4, _, _⟩ := DataW.trod_int Ybad.underlying3 g4
      obtain ⟨k5, e5, _, _⟩ := DataW.trod_int Ybad.underlying3 g5
      simp at e0 e1 e2 e3 e4 e5
      subst e0 e1 e2 e3 e4 e5
      have f0 := hcell 0 (by omega)
      have f1 := hcell 1 (by omega)
      have f2 := hcell 2 (by omega)
      have f3 := hcell 3 (by omega)
      have f4 := hcell 4 (by omega)
      have f5 := hcell 5 (by omega)
      rw [Deep.add_add] at f0 f1 f2 f3 f4 f5
      exact ⟨⟨k0, k1, k2, k3, k4, k5⟩, ⟨by simpa using f0, by simpa using f1, by simpa using f2, by simpa using f3, by simpa using f4, by simpa using f5⟩, bounds_u8 w3, s1⟩
  obtain ⟨Z, hZ⟩ := @Deep.choose_lt Tok ⟨⟨0, ⟨#[]⟩, false, 0, 0, 0⟩⟩ _ _ each
  exact ⟨a, len, cap, Z, rfl, hl, hm, hZ⟩

end Go.Proofs.YbulkeagiDoor
