/-
  A new set in the epoch's map.
-/
import Derived.Test.YbulkbopqTTk
namespace Go.Proofs.Ybulkbopq
open Go.RowKit Go.Sort

def sput (S : Nat → Nat) (j b : Nat) : Nat → Nat := fun i => if i = j then b else S i
def lvput (lv : Nat → Bool) (a : Nat) : Nat → Bool := fun b => if b = a then true else lv b

theorem own_empty {w : World} {g : Nat} (h : w.heap[g]? = some (.cells #[] 138 (0, 0))) : Own w (.slice (some ⟨g, 0, none⟩) 0 0) [] :=
  ⟨rfl, .inr ⟨g, 0, #[], rfl, Nat.zero_le _, h, Nat.le_refl _, Nat.zero_le _, rfl, rfl⟩⟩

theorem sAt_put (M S : Nat → Nat) (j b a : Nat) (hne : a ≠ 6 + j) (ha : a < 9) : sAt M (sput S j b) a = sAt M S a := by
  by_cases h1 : a < 3
  · rw [sAt_lt _ _ h1, sAt_lt _ _ h1]
  · by_cases h2 : a < 6
    · obtain ⟨i, rfl⟩ : ∃ i, a = 3 + i := ⟨a - 3, by omega⟩
      rw [sAt_mid _ _ (by omega), sAt_mid _ _ (by omega)]
    · obtain ⟨i, rfl⟩ : ∃ i, a = 6 + i := ⟨a - 6, by omega⟩
      rw [sAt_top, sAt_top]
      unfold sput
      rw [if_neg (by omega)]
theorem sAt_put_same (M S : Nat → Nat) (j b : Nat) : sAt M (sput S j b) (6 + j) = (b, 0) := by
  rw [sAt_top]
  unfold sput
  rw [if_pos rfl]

variable {w0 W w' : World} {T M S : Nat → Nat} {mE : Nat} {lv : Nat → Bool} {L : Nat → List (Nat × Nat)} {V : Nat → Value} {lr : Nat → Nat} {cnt : Nat}

theorem Tk.open (h : Tk w0 W T M S mE lv L V lr cnt) {j b g : Nat} (hj : j < 3) (hlv : lv (6 + j) = false) (hx : ∀ x, x < W.heap.size → x ≠ mE → w'.heap[x]? = W.heap[x]?) (hsz : W.heap.size ≤ w'.heap.size)
    (hg : w'.heap[g]? = some (.cells #[] 138 (0, 0))) (hb : w'.heap[b]? = some (.cells #[.slice (some ⟨g, 0, none⟩) 0 0] 91 (0, 0))) (lg : W.heap.size ≤ g) (lb : W.heap.size ≤ b) (hgb : g ≠ b)
    (hm : MapK w' T mE (kput (fun j => if lv (6 + j) = true then some (.pointer (some ⟨S j, 0, none⟩)) else none) j (.pointer (some ⟨b, 0, none⟩))) (cnt + 1)) (e1 : w'.tape = W.tape) (e2 : w'.os = W.os) (e3 : w'.output = W.output) :
    Tk w0 w' T M (sput S j b) mE (lvput lv (6 + j)) (lupd L (6 + j) []) (fun a => if a = 6 + j then .slice (some ⟨g, 0, none⟩) 0 0 else V a) lr (cnt + 1) := by
  have hZ : w0.heap.size ≤ W.heap.size := h.chg.2.2.2.1
  have hmE := h.mapE.lt
  have hl' : ∀ a, a ≠ 6 + j → lvput lv (6 + j) a = true → lv a = true := fun a ha e => by unfold lvput at e; rwa [if_neg ha] at e
  have hblk : ∀ a, a < 9 → lv a = true → w'.heap[(sAt M S a).1]? = W.heap[(sAt M S a).1]? := fun a ha hl => hx _ (World.block_lt_of_cell? _ _ (h.sets.cell a ha hl)) (h.offE a ha hl).1
  have hown : ∀ a x, a < 9 → lv a = true → (V a).ownBlock = some x → w'.heap[x]? = W.heap[x]? := fun a x ha hl e => hx x ((h.sets.own a ha hl).lt e) (fun e' => (h.offE a ha hl).2 (by rw [e, e']))
  have ltS : ∀ a, a < 9 → lv a = true → (sAt M S a).1 < W.heap.size := fun a ha hl => World.block_lt_of_cell? _ _ (h.sets.cell a ha hl)
  have ltO : ∀ a x, a < 9 → lv a = true → (V a).ownBlock = some x → x < W.heap.size := fun a x ha hl e => (h.sets.own a ha hl).lt e
  refine ⟨⟨fun a ha hl => ?_, fun a ha hl => ?_, fun a ha hl => ?_, fun a x ha hl hx' => ?_, fun a c x ha hc hla hlc hxa hxc => ?_, fun a c x ha hc hla hlc hxa => ?_, fun a c ha hc hla hlc e => ?_⟩, fun a ha => ?_, fun i hi => ?_, ?_, fun a ha hl => ?_, ?_, h.ml, fun i hi hl => ?_⟩
  · by_cases e : a = 6 + j
    · subst e
      rw [sAt_put_same, if_pos rfl]
      simp only [World.cell?, hb]
      rfl
    · rw [sAt_put M S j b a e ha, if_neg e, ← h.sets.cell a ha (hl' a e hl)]
      simp only [World.cell?, hblk a ha (hl' a e hl)]
  · by_cases e : a = 6 + j
    · subst e
      rw [sAt_put_same]
      simp only [World.frozen?, hb]
      simp
    · rw [sAt_put M S j b a e ha, ← h.sets.froz a ha (hl' a e hl)]
      simp only [World.frozen?, hblk a ha (hl' a e hl)]
  · unfold lupd
    by_cases e : a = 6 + j
    · rw [if_pos e, if_pos e]
      exact own_empty hg
    · rw [if_neg e, if_neg e]
      exact (h.sets.own a ha (hl' a e hl)).of_heap fun x hx' => hown a x ha (hl' a e hl) hx'
  · by_cases e : a = 6 + j
    · rw [if_pos e] at hx'
      have : g = x := by simpa [Value.ownBlock] using hx'
      omega
    · rw [if_neg e] at hx'
      exact h.sets.base a x ha (hl' a e hl) hx'
  · by_cases ea : a = 6 + j
    · by_cases ec : c = 6 + j
      · omega
      · rw [if_pos ea] at hxa
        rw [if_neg ec] at hxc
        have : g = x := by simpa [Value.ownBlock] using hxa
        have := ltO c x hc (hl' c ec hlc) hxc
        omega
    · by_cases ec : c = 6 + j
      · rw [if_neg ea] at hxa
        rw [if_pos ec] at hxc
        have : g = x := by simpa [Value.ownBlock] using hxc
        have := ltO a x ha (hl' a ea hla) hxa
        omega
      · rw [if_neg ea] at hxa
        rw [if_neg ec] at hxc
        exact h.sets.apart a c x ha hc (hl' a ea hla) (hl' c ec hlc) hxa hxc
  · by_cases ea : a = 6 + j
    · rw [if_pos ea] at hxa
      have hgx : g = x := by simpa [Value.ownBlock] using hxa
      by_cases ec : c = 6 + j
      · subst ec
        rw [sAt_put_same]
        show x ≠ b
        omega
      · rw [sAt_put M S j b c ec hc]
        have := ltS c hc (hl' c ec hlc)
        omega
    · rw [if_neg ea] at hxa
      by_cases ec : c = 6 + j
      · subst ec
        rw [sAt_put_same]
        have := ltO a x ha (hl' a ea hla) hxa
        show x ≠ b
        omega
      · rw [sAt_put M S j b c ec hc]
        exact h.sets.off a c x ha hc (hl' a ea hla) (hl' c ec hlc) hxa
  · by_cases ea : a = 6 + j
    · by_cases ec : c = 6 + j
      · omega
      · subst ea
        rw [sAt_put_same, sAt_put M S j b c ec hc] at e
        have := ltS c hc (hl' c ec hlc)
        rw [← e] at this
        have t2 : b < W.heap.size := this
        omega
    · by_cases ec : c = 6 + j
      · subst ec
        rw [sAt_put_same, sAt_put M S j b a ea ha] at e
        have := ltS a ha (hl' a ea hla)
        rw [e] at this
        have t2 : b < W.heap.size := this
        omega
      · rw [sAt_put M S j b a ea ha, sAt_put M S j b c ec hc] at e
        exact h.sets.inj a c ha hc (hl' a ea hla) (hl' c ec hlc) e
  · unfold lvput
    rw [if_neg (by omega)]
    exact h.low a ha
  · obtain ⟨m0, m1, m3, mf⟩ := h.marks i hi
    have e := hx (M i) (World.block_lt_of_cell? _ _ m0) (h.ml i hi).2
    exact ⟨by rw [← m0]; simp only [World.cell?, e], by rw [← m1]; simp only [World.cell?, e], by rw [← m3]; simp only [World.cell?, e], by rw [← mf]; simp only [World.frozen?, e]⟩
  · have ef : (kput (fun j => if lv (6 + j) = true then some (.pointer (some ⟨S j, 0, none⟩)) else none) j (.pointer (some ⟨b, 0, none⟩))) = (fun i => if lvput lv (6 + j) (6 + i) = true then some (.pointer (some ⟨sput S j b i, 0, none⟩)) else none) := by
      funext i
      unfold kput lvput sput
      by_cases e : i = j
      · subst e; simp
      · simp [e]
    rw [ef] at hm
    exact hm
  · by_cases e : a = 6 + j
    · subst e
      rw [sAt_put_same, if_pos rfl]
      refine ⟨by show b ≠ mE; omega, fun e' => ?_⟩
      have : g = mE := by simpa [Value.ownBlock] using e'
      omega
    · rw [sAt_put M S j b a e ha, if_neg e]
      exact h.offE a ha (hl' a e hl)
  · exact h.chg.trans (q := fun x => x = mE) ⟨e1, e2, e3, hsz, fun x hx' hn => hx x hx' hn⟩ (fun _ _ e => e) (fun _ _ e => .inl e)
  · unfold sput
    by_cases e : i = j
    · rw [if_pos e]; omega
    · rw [if_neg e]; exact h.sge i hi (hl' _ (by omega) hl)

end Go.Proofs.Ybulkbopq
