/-
  From the rows laid to take's own start; and what stands behind take.
-/
import Derived.Test.YbulkbopqTPush
import Derived.Test.YbulkbopqTTake
namespace Go.Proofs.Ybulkbopq
open Go.RowKit Go.Sort

theorem Fix.grow {W w0 : World} {M : Nat → Nat} {mE x : Nat} (h : Fix W M mE x) (g : Gr W w0) : Fix w0 M mE x := ⟨Nat.lt_of_lt_of_le h.1 g.size, h.2⟩

theorem Rows.grow {W w0 : World} {T M : Nat → Nat} {mE : Nat} {v : Value} {rs : List (Nat × Nat × Nat)} (h : Rows W T M mE v rs) (g : Gr W w0) : Rows w0 T M mE v rs := by
  obtain ⟨a, cap, h1, h2⟩ := h
  refine ⟨a, cap, h1, fun i j k s hi => ?_⟩
  obtain ⟨hj, hk, gb, rb, rc, e1, e2, e3, e4, e5, e6, e7⟩ := h2 i j k s hi
  exact ⟨hj, hk, gb, rb, rc, e1, e2.grow g, e3.grow g, g.cell_of e4, g.cell_of e5, g.cell_of e6, ⟨e7.1.gr g, g.cell_of e7.2⟩⟩

variable {w W W' : World} {B q : Nat} {fo : Bool} {sn : Value} {rs ws : List (Nat × Nat × Nat)} {vr vw : Value} {GR GW GD : Nat → Nat → Option Nat} {us ru : Nat → Bool}

/-- What take needs. -/
theorem Ls.env (h : Ls w W B q fo sn rs ws vr vw GR GW GD us ru) (hr : Ok rs) (hw : Ok ws) {w0 : World} {eB mE : Nat} (g : Gr W w0) (he : W.heap.size ≤ eB) (hel : eB < w0.heap.size) (hm : W.heap.size ≤ mE) (hne : eB ≠ mE)
    (esp : w0.cell? ⟨eB, 2, none⟩ = some (.map (some mE))) (hmap : MapK w0 (fun j => B + j) mE (fun _ => none) 0) :
    Env w0 (fun j => B + j) (fun j => B + 6 + j) mE (B + 5) (B + 4) eB (B + 9) q fo rs ws vr vw ∧ TkS w0 w0 (fun j => B + j) (fun j => B + 6 + j) mE σ0 := by
  have hs := h.size
  have hg := g.size
  have h0 := h.gr g
  have fx : ∀ x, x < W.heap.size → (x < B + 6 ∨ B + 9 ≤ x) → Fix W (fun j => B + 6 + j) mE x := fun x hx h1 => ⟨hx, by omega, fun j hj => by show x ≠ B + 6 + j; omega⟩
  have fy : ∀ x, x < W.heap.size → (x < B + 6 ∨ B + 9 ≤ x) → Fix w0 (fun j => B + 6 + j) mE x := fun x hx h1 => (fx x hx h1).grow g
  have c9 : ∀ c, c < 12 → w0.cell? ⟨B + 9, c, none⟩ = some (cF sn q fo vr vw c) := fun c hc => h0.cc.cell hc
  refine ⟨?_, ?_⟩
  · exact
      { tabs := ⟨fun i j _ _ e => by have e' : B + i = B + j := e; omega, h0.tabs⟩
        tfix := fun j hj => fy _ (by omega) (by omega)
        rsp := h0.rsp
        rfix := fy _ (by omega) (by omega)
        mapR := h0.mapR
        mfix := fy _ (by omega) (by omega)
        esp := esp
        efix := ⟨hel, hne, fun j hj => by show eB ≠ B + 6 + j; omega⟩
        c1 := c9 1 (by omega), c4 := c9 4 (by omega), c5 := c9 5 (by omega), c11 := c9 11 (by omega)
        cfix := fy _ (by omega) (by omega)
        rowR := (h.rowR.rows hr fun x h1 h2 => fx x h2 (by omega)).grow g
        rowW := (h.rowW.rows hw fun x h1 h2 => fx x h2 (by omega)).grow g }
  · have hlow : ∀ a, a < 9 → σ0.lv a = true → a < 6 := fun a _ hl => by simpa [σ0] using hl
    have hlv : ∀ j, σ0.lv (6 + j) = false := fun j => by show decide (6 + j < 6) = false; simp
    have hmk : ∀ j c, j < 3 → w0.cell? ⟨B + 6 + j, c, none⟩ = (#[.slice none 0 0, .slice none 0 0, .slice none 0 0, .int .u64 0, .slice none 0 0] : Array Value)[c]? := fun j c hj => by simp only [World.cell?, h0.mks j hj]; rfl
    have hmf : ∀ j c, j < 3 → w0.frozen? ⟨B + 6 + j, c, none⟩ = false := fun j c hj => by simp [World.frozen?, h0.mks j hj]
    have hat : ∀ a, a < 6 → ∃ j c, j < 3 ∧ (c = 2 ∨ c = 4) ∧ sAt (fun j => B + 6 + j) (fun _ => 0) a = (B + 6 + j, c) := fun a ha => by
      by_cases h1 : a < 3
      · exact ⟨a, 2, h1, .inl rfl, sAt_lt _ _ h1⟩
      · refine ⟨a - 3, 4, by omega, .inr rfl, ?_⟩
        have := sAt_mid (fun j => B + 6 + j) (fun _ => 0) (show a - 3 < 3 by omega)
        rwa [show 3 + (a - 3) = a by omega] at this
    have hc0 : c3 σ0.lv = 0 := by simp [c3, σ0]
    refine ⟨fun _ => 0, fun _ => .slice none 0 0, ?_⟩
    rw [hc0]
    exact
      { sets :=
          { cell := fun a ha hl => by
              obtain ⟨j, c, hj, hc, e⟩ := hat a (hlow a ha hl)
              rw [e]
              show w0.cell? ⟨B + 6 + j, c, none⟩ = _
              rw [hmk j c hj]
              rcases hc with rfl | rfl <;> rfl
            froz := fun a ha hl => by
              obtain ⟨j, c, hj, hc, e⟩ := hat a (hlow a ha hl)
              rw [e]
              exact hmf j c hj
            own := fun a ha hl => World.ownsRow_nil _ _ _ _
            base := fun a x _ _ e => by simp [Value.ownBlock] at e
            apart := fun a b x _ _ _ _ e => by simp [Value.ownBlock] at e
            off := fun a b x _ _ _ _ e => by simp [Value.ownBlock] at e
            inj := fun a b ha hb hla hlb e => by
              have h1 := hlow a ha hla
              have h2 := hlow b hb hlb
              by_cases e1 : a < 3 <;> by_cases e2 : b < 3
              · rw [sAt_lt _ _ e1, sAt_lt _ _ e2, Prod.mk.injEq] at e
                have := e.1
                omega
              · have e3 := sAt_mid (fun j => B + 6 + j) (fun _ => 0) (show b - 3 < 3 by omega)
                rw [show 3 + (b - 3) = b by omega] at e3
                rw [sAt_lt _ _ e1, e3, Prod.mk.injEq] at e
                omega
              · have e3 := sAt_mid (fun j => B + 6 + j) (fun _ => 0) (show a - 3 < 3 by omega)
                rw [show 3 + (a - 3) = a by omega] at e3
                rw [sAt_lt _ _ e2, e3, Prod.mk.injEq] at e
                omega
              · have e3 := sAt_mid (fun j => B + 6 + j) (fun _ => 0) (show a - 3 < 3 by omega)
                have e4 := sAt_mid (fun j => B + 6 + j) (fun _ => 0) (show b - 3 < 3 by omega)
                rw [show 3 + (a - 3) = a by omega] at e3
                rw [show 3 + (b - 3) = b by omega] at e4
                rw [e3, e4, Prod.mk.injEq] at e
                have := e.1
                omega }
        low := fun a ha => decide_eq_true ha
        marks := fun j hj => ⟨hmk j 0 hj, hmk j 1 hj, hmk j 3 hj, hmf j 3 hj⟩
        mapE := by
          have e : (fun j => if σ0.lv (6 + j) = true then some (Value.pointer (some ⟨(fun _ => 0 : Nat → Nat) j, 0, none⟩)) else none) = fun _ => none := by
            funext j
            rw [hlv j]
            rfl
          rw [e]
          exact hmap
        offE := fun a ha hl => by
          obtain ⟨j, c, hj, hc, e⟩ := hat a (hlow a ha hl)
          rw [e]
          exact ⟨by show B + 6 + j ≠ mE; omega, by simp [Value.ownBlock]⟩
        chg := Chg.refl _ _
        ml := fun j hj => ⟨by show B + 6 + j < w0.heap.size; omega, by show B + 6 + j ≠ mE; omega⟩
        sge := fun j _ hl => by rw [hlv j] at hl; cases hl }

/-- What stands behind take. -/
structure Lf (w W : World) (B q : Nat) (fo : Bool) (rs ws : List (Nat × Nat × Nat)) (eB mE : Nat) (us ru : Nat → Bool) (S : Nat → Nat) : Prop where
  tabs : Tabs W (fun j => B + j)
  ks : ∀ j, j < 3 → W.cell? ⟨B + 3, j * 2, none⟩ = some (.pointer (some ⟨B + j, 0, none⟩)) ∧ W.cell? ⟨B + 3, j * 2 + 1, none⟩ = some (.pointer none)
  mapR : MapK W (fun j => B + j) (B + 4) (fun j => some (.pointer (some ⟨B + 6 + j, 0, none⟩))) 3
  rsp : W.cell? ⟨B + 5, 6, none⟩ = some (.map (some (B + 4)))
  esp : W.cell? ⟨eB, 2, none⟩ = some (.map (some mE))
  e0 : W.cell? ⟨eB, 0, none⟩ = some (.int .u64 7)
  mapE : MapK W (fun j => B + j) mE (fun j => if us j = true then some (.pointer (some ⟨S j, 0, none⟩)) else none) ((if us 0 = true then 1 else 0) + (if us 1 = true then 1 else 0) + (if us 2 = true then 1 else 0))
  marks : ∀ j, j < 3 → W.cell? ⟨B + 6 + j, 0, none⟩ = some (.slice none 0 0) ∧ W.cell? ⟨B + 6 + j, 1, none⟩ = some (.slice none 0 0) ∧ W.cell? ⟨B + 6 + j, 3, none⟩ = some (.int .u64 (if ru j = true then q else 0 : Nat))
  hus : Arr W (B + 13) 105 3 (fun j => .bool (us j))
  hru : Arr W (B + 14) 105 3 (fun j => .bool (ru j))
  rd : Arr W (B + 10) 104 1536 (modF (modR q rs))
  wr : Arr W (B + 11) 104 1536 (modF (modW q ws))
  dm : Arr W (B + 12) 104 1536 (modF (modD q fo ws))
  setR : ∀ j, j < 3 → ∃ v xs, W.cell? ⟨B + 6 + j, 2, none⟩ = some v ∧ Own W v xs ∧ Rep xs (modR q rs j)
  setD : ∀ j, j < 3 → ∃ v xs, W.cell? ⟨B + 6 + j, 4, none⟩ = some v ∧ Own W v xs ∧ Rep xs (modD q fo ws j)
  setW : ∀ j, j < 3 → us j = true → ∃ v xs, W.cell? ⟨S j, 0, none⟩ = some v ∧ Own W v xs ∧ Rep xs (modW q ws j)
  low : Below B w W

theorem Ls.fin (h : Ls w W B q fo sn rs ws vr vw (modR q rs) (modW q ws) (modD q fo ws) (used (rs ++ ws)) (used rs)) (hr : Ok rs) (hw : Ok ws) {w0 : World} {eB mE : Nat} (g : Gr W w0) (he : W.heap.size ≤ eB) (hel : eB < w0.heap.size) (hm : W.heap.size ≤ mE) (hne : eB ≠ mE)
    (e0 : w0.cell? ⟨eB, 0, none⟩ = some (.int .u64 7)) (esp : w0.cell? ⟨eB, 2, none⟩ = some (.map (some mE)))
    {W5 : World} (ht : TkS w0 W5 (fun j => B + j) (fun j => B + 6 + j) mE (ws.foldl (stepW q fo) (rs.foldl (stepR q) σ0))) : ∃ S, Lf w W5 B q fo rs ws eB mE (used (rs ++ ws)) (used rs) S := by
  have hs := h.size
  have hg := g.size
  have h0 := h.gr g
  obtain ⟨S, V, hk⟩ := ht
  have hrep := end_all q fo rs ws hr hw
  have hlv := end_lv q fo rs ws
  generalize ws.foldl (stepW q fo) (rs.foldl (stepR q) σ0) = σ at *
  have fb : ∀ x, x < W.heap.size → (x < B + 6 ∨ B + 9 ≤ x) → W5.heap[x]? = w0.heap[x]? := fun x hx h1 => hk.fix (by omega) (by omega) (fun j hj => by show x ≠ B + 6 + j; omega)
  have fe : W5.heap[eB]? = w0.heap[eB]? := hk.fix hel hne (fun j hj => by show eB ≠ B + 6 + j; omega)
  have ec : ∀ x o, x < W.heap.size → (x < B + 6 ∨ B + 9 ≤ x) → W5.cell? ⟨x, o, none⟩ = w0.cell? ⟨x, o, none⟩ := fun x o hx h1 => by simp only [World.cell?, fb x hx h1]
  have ee : ∀ o, W5.cell? ⟨eB, o, none⟩ = w0.cell? ⟨eB, o, none⟩ := fun o => by simp only [World.cell?, fe]
  refine ⟨S, ?_⟩
  exact
    { tabs := ⟨fun i j _ _ e => by have e' : B + i = B + j := e; omega, fun j hj => by obtain ⟨c, hc⟩ := h0.tabs j hj; exact ⟨c, by show W5.heap[B + j]? = _; rw [fb _ (by omega) (by omega)]; exact hc⟩⟩
      ks := fun j hj => ⟨by rw [ec _ _ (by omega) (by omega)]; exact (h0.ks j hj).1, by rw [ec _ _ (by omega) (by omega)]; exact (h0.ks j hj).2⟩
      mapR := h0.mapR.of_block (fb _ (by omega) (by omega))
      rsp := by rw [ec _ _ (by omega) (by omega)]; exact h0.rsp
      esp := by rw [ee]; exact esp
      e0 := by rw [ee]; exact e0
      mapE := by
        have e := hk.mapE
        have e1 : (fun j => if σ.lv (6 + j) = true then some (Value.pointer (some ⟨S j, 0, none⟩)) else none) = fun j => if used (rs ++ ws) j = true then some (Value.pointer (some ⟨S j, 0, none⟩)) else none := by
          funext j; rw [(hlv j).1]
        have e2 : c3 σ.lv = (if used (rs ++ ws) 0 = true then 1 else 0) + (if used (rs ++ ws) 1 = true then 1 else 0) + (if used (rs ++ ws) 2 = true then 1 else 0) := by
          unfold c3
          rw [show (6 : Nat) = 6 + 0 from rfl, show (7 : Nat) = 6 + 1 from rfl, show (8 : Nat) = 6 + 2 from rfl, (hlv 0).1, (hlv 1).1, (hlv 2).1]
        rw [e1, e2] at e
        exact e
      marks := fun j hj => by
        obtain ⟨m0, m1, m3, _⟩ := hk.marks j hj
        refine ⟨m0, m1, ?_⟩
        rw [(hlv j).2] at m3
        exact m3
      hus := h0.hus.of_block (fb _ (by omega) (by omega))
      hru := h0.hru.of_block (fb _ (by omega) (by omega))
      rd := h0.rd.of_block (fb _ (by omega) (by omega))
      wr := h0.wr.of_block (fb _ (by omega) (by omega))
      dm := h0.dm.of_block (fb _ (by omega) (by omega))
      setR := fun j hj => by
        have c := hk.sets.cell j (by omega) (hk.low j (by omega))
        rw [sAt_lt _ _ hj] at c
        exact ⟨V j, σ.L j, c, hk.sets.own j (by omega) (hk.low j (by omega)), hrep.1 j hj⟩
      setD := fun j hj => by
        have c := hk.sets.cell (3 + j) (by omega) (hk.low (3 + j) (by omega))
        rw [sAt_mid _ _ hj] at c
        exact ⟨V (3 + j), σ.L (3 + j), c, hk.sets.own (3 + j) (by omega) (hk.low (3 + j) (by omega)), hrep.2.1 j hj⟩
      setW := fun j hj hu => by
        have hl : σ.lv (6 + j) = true := by rw [(hlv j).1]; exact hu
        have c := hk.sets.cell (6 + j) (by omega) hl
        rw [sAt_top] at c
        exact ⟨V (6 + j), σ.L (6 + j), c, hk.sets.own (6 + j) (by omega) hl, hrep.2.2 j hj⟩
      low := h0.low.trans ⟨hk.chg.2.1, hk.chg.1, hk.chg.2.2.1, by have := hk.chg.2.2.2.1; have := h0.size; omega, fun x hx => fb x (by omega) (by omega)⟩ }

theorem Lf.gr {eB mE : Nat} {S : Nat → Nat} (h : Lf w W B q fo rs ws eB mE us ru S) (g : Gr W W') : Lf w W' B q fo rs ws eB mE us ru S :=
  { tabs := ⟨h.tabs.1, fun j hj => by obtain ⟨c, hc⟩ := h.tabs.2 j hj; exact ⟨c, by rw [g.block (Array.getElem?_eq_some_iff.1 hc).1]; exact hc⟩⟩
    ks := fun j hj => ⟨g.cell_of (h.ks j hj).1, g.cell_of (h.ks j hj).2⟩
    mapR := h.mapR.of_block (g.block h.mapR.lt), rsp := g.cell_of h.rsp, esp := g.cell_of h.esp, e0 := g.cell_of h.e0
    mapE := h.mapE.of_block (g.block h.mapE.lt)
    marks := fun j hj => ⟨g.cell_of (h.marks j hj).1, g.cell_of (h.marks j hj).2.1, g.cell_of (h.marks j hj).2.2⟩
    hus := h.hus.of_block (g.block h.hus.lt), hru := h.hru.of_block (g.block h.hru.lt), rd := h.rd.of_block (g.block h.rd.lt), wr := h.wr.of_block (g.block h.wr.lt), dm := h.dm.of_block (g.block h.dm.lt)
    setR := fun j hj => by obtain ⟨v, xs, h1, h2, h3⟩ := h.setR j hj; exact ⟨v, xs, g.cell_of h1, h2.gr g, h3⟩
    setD := fun j hj => by obtain ⟨v, xs, h1, h2, h3⟩ := h.setD j hj; exact ⟨v, xs, g.cell_of h1, h2.gr g, h3⟩
    setW := fun j hj hu => by obtain ⟨v, xs, h1, h2, h3⟩ := h.setW j hj hu; exact ⟨v, xs, g.cell_of h1, h2.gr g, h3⟩
    low := h.low.trans (g.below (by have := h.hus.lt; omega)) }

/-- All that take needs, and what is known of the box and the map of the epoch. -/
structure Rdy (W wx w0 : World) (B q : Nat) (fo : Bool) (rs ws : List (Nat × Nat × Nat)) (vr vw : Value) (eB mE : Nat) : Prop where
  beg : Begin wx w0 eB mE
  env : Env w0 (fun j => B + j) (fun j => B + 6 + j) mE (B + 5) (B + 4) eB (B + 9) q fo rs ws vr vw
  tks : TkS w0 w0 (fun j => B + j) (fun j => B + 6 + j) mE σ0
  g : Gr W w0
  he : W.heap.size ≤ eB
  hel : eB < w0.heap.size
  hm : W.heap.size ≤ mE
  hne : eB ≠ mE
  e0 : w0.cell? ⟨eB, 0, none⟩ = some (.int .u64 7)
  esp : w0.cell? ⟨eB, 2, none⟩ = some (.map (some mE))

/-- The map was made by the law. -/
theorem Ls.rdyT (h : Ls w W B q fo sn rs ws vr vw GR GW GD us ru) (hr : Ok rs) (hw : Ok ws) (x : Value) :
    Rdy W ((W.alloc (.cells #[.int .u64 7, x, .map (some (W.heap.size + 1))] 114)).alloc (.map #[] 0)) ((W.alloc (.cells #[.int .u64 7, x, .map (some (W.heap.size + 1))] 114)).alloc (.map #[] 0)) B q fo rs ws vr vw W.heap.size (W.heap.size + 1) := by
  have h1 : (W.alloc (.cells #[.int .u64 7, x, .map (some (W.heap.size + 1))] 114)).heap[W.heap.size]? = some (.cells #[.int .u64 7, x, .map (some (W.heap.size + 1))] 114 (0, 0)) := heap_alloc_new W _
  have c2 : (W.alloc (.cells #[.int .u64 7, x, .map (some (W.heap.size + 1))] 114)).cell? ⟨W.heap.size, 2, none⟩ = some (.map (some (W.heap.size + 1))) := by simp only [World.cell?, h1]; rfl
  have c0 : (W.alloc (.cells #[.int .u64 7, x, .map (some (W.heap.size + 1))] 114)).cell? ⟨W.heap.size, 0, none⟩ = some (.int .u64 7) := by simp only [World.cell?, h1]; rfl
  have hs1 : (W.alloc (.cells #[.int .u64 7, x, .map (some (W.heap.size + 1))] 114)).heap.size = W.heap.size + 1 := by simp
  have g1 : Gr W (W.alloc (.cells #[.int .u64 7, x, .map (some (W.heap.size + 1))] 114)) := (Gr.refl W).alloc _
  generalize W.alloc (.cells #[.int .u64 7, x, .map (some (W.heap.size + 1))] 114) = W2 at *
  have hmap := MapK.made W2 (fun j => B + j)
  rw [hs1] at hmap
  have ga := (Gr.refl W2).alloc (.map #[] 0)
  have g := g1.trans ga
  have hs3 : (W2.alloc (.map #[] 0)).heap.size = W.heap.size + 2 := by simp [hs1]
  obtain ⟨hE, hT⟩ := h.env hr hw (eB := W.heap.size) (mE := W.heap.size + 1) g (Nat.le_refl _) (by omega) (by omega) (by omega) (ga.cell_of c2) hmap
  exact ⟨⟨_, ga.cell_of c2, .inl ⟨rfl, rfl⟩⟩, hE, hT, g, Nat.le_refl _, by omega, by omega, by omega, ga.cell_of c0, ga.cell_of c2⟩

/-- The map is take's to make. -/
theorem Ls.rdyF (h : Ls w W B q fo sn rs ws vr vw GR GW GD us ru) (hr : Ok rs) (hw : Ok ws) (x : Value) :
    ∃ w0, Rdy W (W.alloc (.cells #[.int .u64 7, x, .map none] 114)) w0 B q fo rs ws vr vw W.heap.size (W.heap.size + 1) := by
  have h1 : (W.alloc (.cells #[.int .u64 7, x, .map none] 114)).heap[W.heap.size]? = some (.cells #[.int .u64 7, x, .map none] 114 (0, 0)) := heap_alloc_new W _
  have hsz : (W.alloc (.cells #[.int .u64 7, x, .map none] 114)).heap.size = W.heap.size + 1 := by simp
  have c2 : (W.alloc (.cells #[.int .u64 7, x, .map none] 114)).cell? ⟨W.heap.size, 2, none⟩ = some (.map none) := by simp only [World.cell?, h1]; rfl
  have c0 : (W.alloc (.cells #[.int .u64 7, x, .map none] 114)).cell? ⟨W.heap.size, 0, none⟩ = some (.int .u64 7) := by simp only [World.cell?, h1]; rfl
  have f2 : (W.alloc (.cells #[.int .u64 7, x, .map none] 114)).frozen? ⟨W.heap.size, 2, none⟩ = false := by simp only [World.frozen?, h1]; rfl
  have g1 : Gr W ((W.alloc (.cells #[.int .u64 7, x, .map none] 114)).setCell ⟨W.heap.size, 2, none⟩ (.map (some (W.heap.size + 1)))) := Gr.setCell ((Gr.refl W).alloc _) (Nat.le_refl _) _
  have e2 := cell_setCell_same (v := .map (some (W.heap.size + 1))) c2
  have e0 : ((W.alloc (.cells #[.int .u64 7, x, .map none] 114)).setCell ⟨W.heap.size, 2, none⟩ (.map (some (W.heap.size + 1)))).cell? ⟨W.heap.size, 0, none⟩ = some (.int .u64 7) := by
    rw [cell_setCell_other (.inr (by omega))]; exact c0
  have hs2 : ((W.alloc (.cells #[.int .u64 7, x, .map none] 114)).setCell ⟨W.heap.size, 2, none⟩ (.map (some (W.heap.size + 1)))).heap.size = W.heap.size + 1 := by simp [World.setCell]
  have hb : Begin (W.alloc (.cells #[.int .u64 7, x, .map none] 114)) (((W.alloc (.cells #[.int .u64 7, x, .map none] 114)).setCell ⟨W.heap.size, 2, none⟩ (.map (some (W.heap.size + 1)))).alloc (.map #[] 0)) W.heap.size (W.heap.size + 1) :=
    ⟨none, c2, .inr ⟨rfl, f2, by rw [hsz]⟩⟩
  generalize (W.alloc (.cells #[.int .u64 7, x, .map none] 114)).setCell ⟨W.heap.size, 2, none⟩ (.map (some (W.heap.size + 1))) = W2 at *
  have hmap := MapK.made W2 (fun j => B + j)
  rw [hs2] at hmap
  have ga := (Gr.refl W2).alloc (.map #[] 0)
  have g := g1.trans ga
  have hs3 : (W2.alloc (.map #[] 0)).heap.size = W.heap.size + 2 := by simp [hs2]
  obtain ⟨hE, hT⟩ := h.env hr hw (eB := W.heap.size) (mE := W.heap.size + 1) g (Nat.le_refl _) (by omega) (by omega) (by omega) (ga.cell_of e2) hmap
  exact ⟨_, hb, hE, hT, g, Nat.le_refl _, by omega, by omega, by omega, ga.cell_of e0, ga.cell_of e2⟩

theorem Rdy.fin {w0 wx : World} {eB mE : Nat} (r : Rdy W wx w0 B q fo rs ws vr vw eB mE) (h : Ls w W B q fo sn rs ws vr vw (modR q rs) (modW q ws) (modD q fo ws) (used (rs ++ ws)) (used rs)) (hr : Ok rs) (hw : Ok ws) (hlr : rs.length ≤ 1024) (hlw : ws.length ≤ 1024) :
    Calls Yba.prog 18 #[.pointer (some ⟨B + 5, 0, none⟩), .pointer (some ⟨eB, 0, none⟩), .pointer (some ⟨B + 9, 0, none⟩)] wx fun e w' => e = .returned (.tuple #[]) ∧ Hid (∃ S, Lf w w' B q fo rs ws eB mE (used (rs ++ ws)) (used rs) S) :=
  (take_calls wx w0 _ _ _ _ _ _ _ q fo rs ws vr vw σ0 r.env r.beg good0 r.tks hlr hlw).mono fun _ _ ⟨he, ht⟩ => ⟨he, h.fin hr hw r.g r.he r.hel r.hm r.hne r.e0 r.esp ht⟩

/-- How many of the first key spaces are used. -/
def cntU (us : Nat → Bool) : Nat → Nat
  | 0 => 0
  | i + 1 => cntU us i + if us i = true then 1 else 0
theorem cntU_le (us : Nat → Bool) : ∀ i, cntU us i ≤ i
  | 0 => Nat.le_refl _
  | i + 1 => by
    have := cntU_le us i
    show cntU us i + (if us i = true then 1 else 0) ≤ i + 1
    split <;> omega

/-- A set and the model's two rows that agree. -/
structure CsOk (w : World) (v : Value) (bh oh bs os : Nat) : Prop where
  ok : ∃ xs F, Own w v xs ∧ Rep xs F ∧ Mod w bh oh bs os F
theorem CsOk.calls {w : World} {v : Value} {bh oh bs os : Nat} (h : CsOk w v bh oh bs os) :
    Calls Yba.prog 19 #[v, .pointer (some ⟨bh, oh, none⟩), .pointer (some ⟨bs, os, none⟩)] w fun e w' => e = .returned (.bool true) ∧ Gr w w' := by
  obtain ⟨xs, F, h1, h2, h3⟩ := h.ok
  exact cset_calls w v xs F bh oh bs os h1 h2 h3
theorem Lf.okR {eB mE : Nat} {S : Nat → Nat} (h : Lf w W B q fo rs ws eB mE us ru S) {i : Nat} (hi : i < 3) : ∃ v, W.cell? ⟨B + 6 + i, 2, none⟩ = some v ∧ ∀ W', Gr W W' → CsOk W' v (B + 10) (i * 256) (B + 10) (768 + i * 256) := by
  obtain ⟨v, xs, h1, h2, h3⟩ := h.setR i hi
  exact ⟨v, h1, fun W' g => ⟨xs, _, h2.gr g, h3, mod_of_arr (h.gr g).rd hi⟩⟩
theorem Lf.okD {eB mE : Nat} {S : Nat → Nat} (h : Lf w W B q fo rs ws eB mE us ru S) {i : Nat} (hi : i < 3) : ∃ v, W.cell? ⟨B + 6 + i, 4, none⟩ = some v ∧ ∀ W', Gr W W' → CsOk W' v (B + 12) (i * 256) (B + 12) (768 + i * 256) := by
  obtain ⟨v, xs, h1, h2, h3⟩ := h.setD i hi
  exact ⟨v, h1, fun W' g => ⟨xs, _, h2.gr g, h3, mod_of_arr (h.gr g).dm hi⟩⟩
theorem Lf.okW {eB mE : Nat} {S : Nat → Nat} (h : Lf w W B q fo rs ws eB mE us ru S) {i : Nat} (hi : i < 3) (hu : us i = true) : ∃ v, W.cell? ⟨S i, 0, none⟩ = some v ∧ ∀ W', Gr W W' → CsOk W' v (B + 11) (i * 256) (B + 11) (768 + i * 256) := by
  obtain ⟨v, xs, h1, h2, h3⟩ := h.setW i hi hu
  exact ⟨v, h1, fun W' g => ⟨xs, _, h2.gr g, h3, mod_of_arr (h.gr g).wr hi⟩⟩
/-- What the epoch's map says of a key space. -/
theorem Lf.lookE {eB mE : Nat} {S : Nat → Nat} (h : Lf w W B q fo rs ws eB mE us ru S) {i : Nat} (hi : i < 3) : ∃ p : Option Addr, p.isSome = us i ∧ Hid (us i = true → p = some ⟨S i, 0, none⟩) ∧
    ∀ n, (Instr.lookup 112 (.map (some mE)) (.agg #[.pointer (some ⟨B + i, 0, none⟩), .pointer none]) false).run Yba.prog (W.drewN n) = .ok (.pointer p) (W.drewN n) := by
  refine ⟨if us i = true then some ⟨S i, 0, none⟩ else none, by cases us i <;> rfl, fun hu => if_pos hu, fun n => ?_⟩
  have := MapK.lookup (h.gr ((Gr.refl W).drewN n)).mapE (h.gr ((Gr.refl W).drewN n)).tabs Yba.underlying112 (Yba.zeroValue116 _) hi
  have e : ((if us i = true then some (Value.pointer (some ⟨S i, 0, none⟩)) else none).getD (.pointer none)) = .pointer (if us i = true then some ⟨S i, 0, none⟩ else none) := by split <;> rfl
  rw [e] at this
  exact this
theorem Lf.lookR {eB mE : Nat} {S : Nat → Nat} (h : Lf w W B q fo rs ws eB mE us ru S) {i : Nat} (hi : i < 3) (n : Nat) :
    (Instr.lookup 84 (.map (some (B + 1 + 1 + 1 + 1))) (.agg #[.pointer (some ⟨B + i, 0, none⟩), .pointer none]) false).run Yba.prog (W.drewN n) = .ok (.pointer (some ⟨B + 6 + i, 0, none⟩)) (W.drewN n) :=
  MapK.lookup (h.gr ((Gr.refl W).drewN n)).mapR (h.gr ((Gr.refl W).drewN n)).tabs Yba.underlying84 (Yba.zeroValue89 _) hi

end Go.Proofs.Ybulkbopq
