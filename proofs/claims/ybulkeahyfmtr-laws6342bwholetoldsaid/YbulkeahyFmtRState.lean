/-
  THE TABLE AND THE MODEL SIDE BY SIDE.
-/
import Derived.Test.YbulkeahyFmtRTabOf
namespace Go.Proofs.YbulkeahyFmtR
open Go.RowKit Go.Deep

/-- The value v reads as the model X; its row lies in a block of which A speaks. -/
def Mod (w : World) (v : Value) (X : List It) (A : Nat → Prop) : Prop :=
  (X = [] ∧ v = .slice none 0 0) ∨ ∃ b o cap, v = .slice (some ⟨b, o, none⟩) X.length cap ∧ b < w.heap.size ∧ A b ∧ Items w b o X

theorem Mod.mono {w w' : World} {v : Value} {X : List It} {A A' : Nat → Prop} (h : Mod w v X A) (hs : w.heap.size ≤ w'.heap.size) (hb : ∀ b, b < w.heap.size → A b → w'.heap[b]? = w.heap[b]? ∧ A' b) : Mod w' v X A' := by
  rcases h with h | ⟨b, o, cap, e, hl, ha, I⟩
  · exact .inl h
  · obtain ⟨h1, h2⟩ := hb b hl ha
    exact .inr ⟨b, o, cap, e, Nat.lt_of_lt_of_le hl hs, h2, I.later h1⟩

def MVPost (w : World) (X : List It) (e : Ending) (w' : World) : Prop := ∃ v, e = .returned v ∧ Mod w' v X (fun b => w.heap.size ≤ b) ∧ Below w.heap.size w w'
theorem mput_v (v : Value) (lim : Int) (c : ByteArray) (q f : Int) (X : List It) (w : World) {A : Nat → Prop} (hn : X.length ≤ 1000000) (h0 : 0 ≤ lim) (h1 : lim ≤ 18446744073709551615) (M : Mod w v X A) :
    Calls Ybaf.prog 5 #[v, .int .u64 lim, .string c, .agg #[.int .u64 q, .int .u64 f]] w (MVPost w (mput lim X c q f)) := by
  have fin : ∀ e w', MPost w (mput lim X c q f) e w' → MVPost w (mput lim X c q f) e w' := by
    rintro e w' ⟨o, cap, rfl, I, hl, B⟩
    exact ⟨_, rfl, .inr ⟨_, o, cap, rfl, hl, by omega, I⟩, B⟩
  rcases M with ⟨rfl, rfl⟩ | ⟨b, o, cap, rfl, hl, _, I⟩
  · exact (mput_any none 0 0 lim c q f [] w rfl (by omega) h0 h1 (.inl rfl)).mono fin
  · exact (mput_any (some ⟨b, o, none⟩) X.length cap lim c q f X w rfl hn h0 h1 (.inr ⟨b, o, rfl, hl, I⟩)).mono fin
theorem check_v (tb mb : Nat) (lim : Int) (L : List Nd) (v : Value) (w : World) {A : Nat → Prop} (T : Tab w tb mb lim L) (hL : L.length ≤ 1000000) (M : Mod w v (L.map Nd.it) A) :
    Calls Ybaf.prog 7 #[.pointer (some ⟨tb, 0, none⟩), .int .u64 lim, v] w fun e w' => e = .returned (.bool true) ∧ ∃ q, w' = w.drewN q := by
  rcases M with ⟨e, rfl⟩ | ⟨b, o, cap, rfl, hl, _, I⟩
  · obtain rfl : L = [] := by simpa using e
    exact check_nil tb mb lim w T
  · rw [List.length_map]
    exact check_any tb mb b o cap lim L w T hL I

structure St (B : Nat) (w0 w : World) (tb mb : Nat) (lim : Int) (L : List Nd) (v : Value) (X : List It) : Prop where
  tab : Tab w tb mb lim L
  fit : lim = 0 ∨ (L.length : Int) ≤ lim
  mod : Mod w v X (fun b => b ≠ tb ∧ b ≠ mb ∧ ∀ n ∈ L, n.b ≠ b)
  lo : B ≤ tb ∧ B ≤ mb ∧ ∀ n ∈ L, B ≤ n.b
  bel : Below B w0 w

theorem St.later {B : Nat} {w0 w w' : World} {tb mb : Nat} {lim : Int} {L : List Nd} {v : Value} {X : List It} (S : St B w0 w tb mb lim L v X) (h : Below w.heap.size w w') : St B w0 w' tb mb lim L v X := by
  have ht : tb < w.heap.size := World.block_lt_of_cell? _ _ S.tab.lim
  have hB : B ≤ w.heap.size := by have := S.lo.1; omega
  exact ⟨S.tab.later h.block, S.fit, S.mod.mono h.size fun b hb ha => ⟨h.block b hb, ha⟩, S.lo, S.bel.trans ⟨h.os, h.tape, h.output, h.size, fun k hk => h.block k (by omega)⟩⟩

theorem St.put {B : Nat} {w0 w w' : World} {tb mb : Nat} {lim : Int} {L L' : List Nd} {v : Value} {X : List It} {c : ByteArray} {q f : Int} (S : St B w0 w tb mb lim L v X) (P : PutTo tb mb lim L c q f w w' L') : St B w0 w' tb mb lim L' v X := by
  have ht : tb < w.heap.size := World.block_lt_of_cell? _ _ S.tab.lim
  have hB : B ≤ w.heap.size := by have := S.lo.1; omega
  refine ⟨P.tab, P.fit, S.mod.mono P.fr.size fun b hb ha => ⟨P.fr.block b hb ha.1 ha.2.1 ha.2.2, ha.1, ha.2.1, fun n hn => ?_⟩, ⟨S.lo.1, S.lo.2.1, fun n hn => ?_⟩, S.bel.trans ⟨P.fr.os, P.fr.tape, P.fr.output, P.fr.size, fun k hk => P.fr.block k (by omega) ?_ ?_ fun n hn => ?_⟩⟩
  · rcases P.new n hn with ⟨m, hm, e⟩ | h
    · rw [e]; exact ha.2.2 m hm
    · omega
  · rcases P.new n hn with ⟨m, hm, e⟩ | h
    · rw [e]; exact S.lo.2.2 m hm
    · omega
  · have := S.lo.1; omega
  · have := S.lo.2.1; omega
  · have := S.lo.2.2 n hn; omega
theorem St.mput {B : Nat} {w0 w w' : World} {tb mb : Nat} {lim : Int} {L : List Nd} {v v' : Value} {X X' : List It} (S : St B w0 w tb mb lim L v X) (h : Below w.heap.size w w') (M : Mod w' v' X' (fun b => w.heap.size ≤ b)) : St B w0 w' tb mb lim L v' X' := by
  have S' := S.later h
  have ht : tb < w.heap.size := World.block_lt_of_cell? _ _ S.tab.lim
  obtain ⟨D, MM⟩ := S.tab.map
  have hm := own_lt MM.own
  refine ⟨S'.tab, S'.fit, M.mono (Nat.le_refl _) fun b _ hb => ⟨rfl, by omega, by omega, fun n hn => ?_⟩, S'.lo, S'.bel⟩
  have : n.b < w.heap.size := World.block_lt_of_cell? _ _ (S.tab.dat n hn).c
  omega

theorem Ybaf.info33 : (Ybaf.prog.info? 33).map (fun i => (i.zero, i.size, i.bytes)) = some (some (.agg #[.string ⟨#[]⟩, .int .u64 0, .int .u64 0, .pointer none, .pointer none]), 5, 48) := by kernel_rfl

def ndCells (n : Nd) : List Value := [.string n.c, .int .u64 n.q, .int .u64 n.f, .pointer none, .pointer none]
def rowN (E : List Nd) : List Value := E.flatMap ndCells
theorem rowN_snoc (E : List Nd) (x : Nd) : rowN (E ++ [x]) = rowN E ++ ndCells x := by simp [rowN]
theorem rowN_at (Y : List Nd) (j i : Nat) (x : Nd) (h : Y[j]? = some x) (hi : i < 5) : (rowN Y)[j * 5 + i]? = (ndCells x)[i]? := by
  induction Y generalizing j with
  | nil => simp at h
  | cons y Y ih =>
    show (ndCells y ++ rowN Y)[j * 5 + i]? = _
    cases j with
    | zero =>
      simp at h
      subst h
      rw [List.getElem?_append_left (by simp [ndCells]; omega), Nat.zero_mul, Nat.zero_add]
    | succ j =>
      rw [List.getElem?_append_right (by simp [ndCells]; omega)]
      have e : (j + 1) * 5 + i - (ndCells y).length = j * 5 + i := by simp [ndCells]; omega
      rw [e]
      exact ih j (by simpa using h)
theorem cells5_new (W : World) (v0 v1 v2 v3 v4 : Value) (t : TypeId) (g : Nat) (hg : g = W.heap.size) : ∀ j u, [v0, v1, v2, v3, v4][j]? = some u → (W.alloc (.cells #[v0, v1, v2, v3, v4] t)).cell? ((⟨g, 0, none⟩ : Addr).add j) = some u := by
  subst hg
  intro j u hj
  match j, hj with
  | 0, hj => simp at hj; subst hj; simp [Addr.add]
  | 1, hj => simp at hj; subst hj; simp [Addr.add]
  | 2, hj => simp at hj; subst hj; simp [Addr.add]
  | 3, hj => simp at hj; subst hj; simp [Addr.add]
  | 4, hj => simp at hj; subst hj; simp [Addr.add]
  | j + 5, hj => simp at hj

/-- The entries that the law has laid so far. -/
structure Laid (g k : Nat) (E : List Nd) : Prop where
  at_ : ∀ j e, E[j]? = some e → e.b = g ∧ e.o = j * 5
  ord : ∀ j d e, E[j]? = some d → E[j + 1]? = some e → d.f ≤ e.f
  uniq : E.Pairwise (fun n m => n.c ≠ m.c)
  num : ∀ e ∈ E, 0 ≤ e.f ∧ e.f < (k : Int) ∧ e.c.size ≤ maxLen

theorem Laid.nil (g k : Nat) : Laid g k [] := ⟨by simp, by simp, by simp, by simp⟩
theorem Laid.mono {g k k' : Nat} {E : List Nd} (h : Laid g k E) (hk : k ≤ k') : Laid g k' E := ⟨h.at_, h.ord, h.uniq, fun e he => by obtain ⟨a, b, c⟩ := h.num e he; exact ⟨a, by omega, c⟩⟩
theorem Laid.snoc {g k : Nat} {E : List Nd} (h : Laid g k E) (c : ByteArray) (hc : c.size ≤ maxLen) (hne : ∀ e ∈ E, e.c ≠ c) : Laid g (k + 1) (E ++ [⟨g, E.length * 5, c, k, k⟩]) := by
  refine ⟨fun j e hj => ?_, fun j d e hd he => ?_, List.pairwise_append.2 ⟨h.uniq, by simp, fun a ha b hb => ?_⟩, fun e he => ?_⟩
  · by_cases hl : j < E.length
    · rw [List.getElem?_append_left hl] at hj; exact h.at_ j e hj
    · rw [List.getElem?_append_right (by omega)] at hj
      have : j - E.length = 0 := by
        by_cases h0 : j - E.length = 0
        · exact h0
        · rw [List.getElem?_eq_none (by simp; omega)] at hj; cases hj
      rw [this] at hj
      simp at hj
      subst hj
      exact ⟨rfl, by show E.length * 5 = _; rw [show j = E.length by omega]⟩
  · by_cases hl : j + 1 < E.length
    · rw [List.getElem?_append_left hl] at he
      rw [List.getElem?_append_left (by omega)] at hd
      exact h.ord j d e hd he
    · rw [List.getElem?_append_right (by omega)] at he
      have h1 : j + 1 - E.length = 0 := by
        by_cases h0 : j + 1 - E.length = 0
        · exact h0
        · rw [List.getElem?_eq_none (by simp; omega)] at he; cases he
      rw [h1] at he
      simp at he
      subst he
      rw [List.getElem?_append_left (by omega)] at hd
      have := (h.num d (List.mem_of_getElem? hd)).2.1
      show d.f ≤ (k : Int)
      omega
  · obtain rfl := List.mem_singleton.1 hb
    exact hne a ha
  · rcases List.mem_append.1 he with he | he
    · obtain ⟨a, b, c⟩ := h.num e he
      exact ⟨a, by omega, c⟩
    · obtain rfl := List.mem_singleton.1 he
      exact ⟨by show (0 : Int) ≤ k; omega, by show (k : Int) < _; omega, hc⟩

theorem Laid.ents {w : World} {g k base m cap : Nat} {E : List Nd} (h : Laid g k E) (hk : k ≤ 100000) (o : w.ownsRow base 33 5 (.slice (some ⟨g, 0, none⟩) m cap) m (rowN E)) (hm : m = E.length) : Ents w g E := by
  have cell : ∀ e ∈ E, ∀ i, i < 5 → w.cell? ⟨e.b, e.o + i, none⟩ = (ndCells e)[i]? := by
    intro e he i hi
    obtain ⟨j, hj, rfl⟩ := List.getElem_of_mem he
    have hj' : E[j]? = some E[j] := List.getElem?_eq_getElem hj
    obtain ⟨a, b⟩ := h.at_ j _ hj'
    rw [a, b, o.cellAt (j * 5 + i) (by omega)]
    exact rowN_at E j i _ hj' hi
  have gb : ∀ e ∈ E, e.b = g := fun e he => by
    obtain ⟨j, hj, rfl⟩ := List.getElem_of_mem he
    exact (h.at_ j _ (List.getElem?_eq_getElem hj)).1
  refine ⟨h.at_, fun e he => ⟨⟨cell e he 0 (by decide), cell e he 1 (by decide), cell e he 2 (by decide), fun j _ => ?_, (h.num e he).2.2⟩, cell e he 3 (by decide), cell e he 4 (by decide)⟩, h.ord, h.uniq, fun e he => ?_⟩
  · rw [gb e he]; exact o.frozenAt (e.o + j)
  · obtain ⟨a, b, _⟩ := h.num e he
    exact ⟨a, by omega⟩

end Go.Proofs.YbulkeahyFmtR
