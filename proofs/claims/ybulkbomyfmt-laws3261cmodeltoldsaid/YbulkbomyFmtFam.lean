/-
  A family of slices of bytes that the call owns, each in a row of its own; an append to one of them.
-/
import Derived.Test.YbulkbomyFmtSame
import Derived.Test.YbulkbomyFmtMap
import Derived.Maps.AppendAt
namespace Go.Proofs.YbulkbomyFmt
open Go.RowKit

def fupd {α : Type} (f : Nat → α) (c : Nat) (v : α) : Nat → α := fun i => if i = c then v else f i

theorem fupd_same {α : Type} (f : Nat → α) (c : Nat) (v : α) : fupd f c v c = v := by simp [fupd]
theorem fupd_other {α : Type} (f : Nat → α) (c : Nat) (v : α) {i : Nat} (h : i ≠ c) : fupd f c v i = f i := by simp [fupd, h]

/-- The slice v owns the bytes xs, in a block from base on. -/
def Owns (w : World) (base : Nat) (v : Value) (xs : List Int) : Prop := w.ownsRow base 5 1 v xs.length (xs.map (Value.int .u8))

theorem Owns.bytes {w : World} {base : Nat} {v : Value} {xs : List Int} (h : Owns w base v xs) : Bytes w v xs := by
  rcases h.2 with ⟨rfl, h0⟩ | ⟨g, cap, cur, rfl, hb, hg, hle, hm, hs, ht⟩
  · refine ⟨none, 0, by rw [h0], by omega, fun h => by omega⟩
  · refine ⟨_, cap, rfl, by omega, fun _ => ⟨g, 0, rfl, fun j hj => ?_⟩⟩
    have : cur.toList[j]? = some (.int .u8 (xs.getD j 0)) := by
      have h1 : (cur.toList.take (xs.length * 1))[j]? = (xs.map (Value.int .u8))[j]? := by rw [ht]
      rw [List.getElem?_take, if_pos (by omega), List.getElem?_map, List.getElem?_eq_getElem hj] at h1
      rw [h1]
      simp [List.getElem?_eq_getElem hj]
    simpa [World.cell?, hg] using this

theorem Owns.nil (w : World) (base : Nat) : Owns w base (.slice none 0 0) [] := World.ownsRow_nil _ _ _ _

theorem Owns.of_heap {w w' : World} {base : Nat} {v : Value} {xs : List Int} (h : Owns w base v xs) (hh : ∀ g, v.ownBlock = some g → w'.heap[g]? = w.heap[g]?) : Owns w' base v xs := by
  refine ⟨h.1, ?_⟩
  rcases h.2 with h2 | ⟨g, cap, cur, rfl, hb, hg, r⟩
  · exact .inl h2
  · exact .inr ⟨g, cap, cur, rfl, hb, by rw [hh g rfl]; exact hg, r⟩

theorem Owns.mono {w : World} {base base' : Nat} {v : Value} {xs : List Int} (h : Owns w base v xs) (hb : base' ≤ base) : Owns w base' v xs := by
  refine ⟨h.1, ?_⟩
  rcases h.2 with h2 | ⟨g, cap, cur, rfl, hb', r⟩
  · exact .inl h2
  · exact .inr ⟨g, cap, cur, rfl, by omega, r⟩

theorem Ybaf.info5' : ∃ i, Ybaf.prog.info? 5 = some i ∧ i.size = 1 ∧ i.bytes = 1 ∧ i.zero = some (.int .u8 0) := ⟨Ybaf.t5, by kernel_rfl, by kernel_rfl, by kernel_rfl, by kernel_rfl⟩

theorem run_append_nothing {P : Program} (w : World) (base : Nat) (t ty e : TypeId) (i : TypeInfo) (ht : P.underlying t = some (.slice e)) (hi : P.info? e = some i)
    (v : Value) (n : Nat) (xs : List Value) (hown : w.ownsRow base e 1 v n xs) (c : Nat) :
    (Builtin.append_ #[t, t] ty #[v, .slice none 0 c]).run P w = .ok v w := by
  rcases hown.2 with ⟨rfl, rfl⟩ | ⟨g, cap, cur, rfl, hb, hg, hle, _⟩
  · simp [Builtin.append_, run_underlying ht, sizeOf, typeInfo, hi, Builtin.lenOf, Builtin.firstCells]
  · simp [Builtin.append_, run_underlying ht, sizeOf, typeInfo, hi, Builtin.lenOf, Builtin.firstCells, hle, storeCells]

/-- append(v, src...): v owned by the call; the source whatever reads so. -/
theorem Owns.append {w : World} {base : Nat} {v : Value} {xs : List Int} (h : Owns w base v xs) (src : Option Addr) (scap : Nat) (news : List Int)
    (hsrc : 0 < news.length → ∃ b o, src = some ⟨b, o, none⟩ ∧ ∀ j, j < news.length → w.cell? ⟨b, o + j, none⟩ = some (.int .u8 (news.getD j 0)))
    (hb : xs.length + news.length ≤ 1099511627776) (hbase : base ≤ w.heap.size) (ty : TypeId) :
    ∃ v' w', (Builtin.append_ #[22, 22] ty #[v, .slice src news.length scap]).run Ybaf.prog w = .ok v' w' ∧ Owns w' base v' (xs ++ news) ∧ w.grownBy w' v.ownBlock ∧ (v'.ownBlock = v.ownBlock ∨ v'.ownBlock = some w.heap.size) := by
  obtain ⟨i, hi, hs, hby, hz⟩ := Ybaf.info5'
  cases src with
  | none =>
    have h0 : news = [] := by
      rcases Nat.eq_zero_or_pos news.length with h0 | h0
      · exact List.eq_nil_of_length_eq_zero h0
      · obtain ⟨_, _, e, _⟩ := hsrc h0
        cases e
    subst h0
    exact ⟨v, w, run_append_nothing w base 22 ty 5 i Ybaf.underlying22 hi v _ _ h scap, by simpa using h, ⟨rfl, rfl, rfl, Nat.le_refl _, fun _ _ _ => rfl⟩, .inl rfl⟩
  | some a =>
    have hn : ∀ j u, (news.map (Value.int .u8))[j]? = some u → w.cell? (a.add j) = some u := by
      intro j u hj
      rw [List.getElem?_map] at hj
      obtain ⟨x, hx, rfl⟩ := Option.map_eq_some_iff.1 hj
      have hlt : j < news.length := (List.getElem?_eq_some_iff.1 hx).1
      obtain ⟨b, o, e, hc⟩ := hsrc (by omega)
      cases e
      have := hc j hlt
      rw [List.getD_eq_getElem?_getD, hx] at this
      have hadd : (⟨b, o, none⟩ : Addr).add j = ⟨b, o + j, none⟩ := by unfold Addr.add; split <;> simp_all
      rw [hadd]
      exact this
    obtain ⟨v', w', hr, ho, hg, _, hat⟩ := run_append_own_at (P := Ybaf.prog) w base 22 ty 5 i _ 1 1 Ybaf.underlying22 hi hz hs hby rfl (by decide) v _ _ h a news.length scap (news.map (Value.int .u8)) (by simp) hn
      (fun u hu => by obtain ⟨x, _, rfl⟩ := List.mem_map.1 hu; rfl) (by unfold maxLen; omega) (by omega) hbase
    refine ⟨v', w', hr, ?_, hg, hat⟩
    unfold Owns
    rw [List.map_append, List.length_append]
    exact ho

/-- A family of n owned slices, no two in one row. -/
def Fam (w : World) (base n : Nat) (vs : Nat → Value) (xs : Nat → List Int) : Prop :=
  (∀ c, c < n → Owns w base (vs c) (xs c)) ∧ ∀ c d, c < n → d < n → c ≠ d → ∀ g, (vs c).ownBlock = some g → (vs d).ownBlock ≠ some g

theorem Fam.zero (w : World) (base n : Nat) : Fam w base n (fun _ => .slice none 0 0) (fun _ => []) :=
  ⟨fun _ _ => Owns.nil _ _, fun _ _ _ _ _ g h => by simp [Value.ownBlock] at h⟩

theorem Owns.own_lt {w : World} {base : Nat} {v : Value} {xs : List Int} (h : Owns w base v xs) {g : Nat} (hg : v.ownBlock = some g) : base ≤ g ∧ g < w.heap.size := World.ownsRow.lt h g hg

theorem Fam.kept {w w' : World} {base n : Nat} {vs : Nat → Value} {xs : Nat → List Int} (h : Fam w base n vs xs) (hh : ∀ g, base ≤ g → g < w.heap.size → w'.heap[g]? = w.heap[g]?) : Fam w' base n vs xs :=
  ⟨fun c hc => (h.1 c hc).of_heap fun g hg => hh g ((h.1 c hc).own_lt hg).1 ((h.1 c hc).own_lt hg).2, h.2⟩

theorem Fam.append {w : World} {base n : Nat} {vs : Nat → Value} {xs : Nat → List Int} (h : Fam w base n vs xs) {c : Nat} (hc : c < n) (src : Option Addr) (scap : Nat) (news : List Int)
    (hsrc : 0 < news.length → ∃ b o, src = some ⟨b, o, none⟩ ∧ ∀ j, j < news.length → w.cell? ⟨b, o + j, none⟩ = some (.int .u8 (news.getD j 0)))
    (hb : (xs c).length + news.length ≤ 1099511627776) (hbase : base ≤ w.heap.size) (ty : TypeId) :
    ∃ v' w', (Builtin.append_ #[22, 22] ty #[vs c, .slice src news.length scap]).run Ybaf.prog w = .ok v' w' ∧ Fam w' base n (fupd vs c v') (fupd xs c (xs c ++ news)) ∧ w.grownBy w' (vs c).ownBlock := by
  obtain ⟨v', w', hr, ho, hg, hat⟩ := (h.1 c hc).append src scap news hsrc hb hbase ty
  have old : ∀ d, d < n → d ≠ c → ∀ g, (vs d).ownBlock = some g → g < w.heap.size ∧ (vs c).ownBlock ≠ some g := fun d hd hne g hg => ⟨((h.1 d hd).own_lt hg).2, fun e => h.2 c d hc hd (Ne.symm hne) g e hg⟩
  refine ⟨v', w', hr, ⟨fun d hd => ?_, fun d d' hd hd' hne g hg1 => ?_⟩, hg⟩
  · by_cases hdc : d = c
    · subst hdc
      rw [fupd_same, fupd_same]
      exact ho
    · rw [fupd_other _ _ _ hdc, fupd_other _ _ _ hdc]
      refine (h.1 d hd).of_heap fun g hg2 => ?_
      obtain ⟨hlt, hno⟩ := old d hd hdc g hg2
      exact hg.block g hlt (fun e => hno e.symm)
  · by_cases h1 : d = c
    · subst h1
      have h2 : d' ≠ d := Ne.symm hne
      rw [fupd_same] at hg1
      rw [fupd_other _ _ _ h2]
      intro hg2
      obtain ⟨hlt, hno⟩ := old d' hd' h2 g hg2
      rcases hat with e | e
      · exact hno (e ▸ hg1)
      · rw [e] at hg1
        cases hg1
        omega
    · rw [fupd_other _ _ _ h1] at hg1
      obtain ⟨hlt, hno⟩ := old d hd h1 g hg1
      by_cases h2 : d' = c
      · subst h2
        rw [fupd_same]
        intro hg2
        rcases hat with e | e
        · exact hno (e ▸ hg2)
        · rw [e] at hg2
          cases hg2
          omega
      · rw [fupd_other _ _ _ h2]
        exact h.2 d d' hd hd' hne g hg1

end Go.Proofs.YbulkbomyFmt
