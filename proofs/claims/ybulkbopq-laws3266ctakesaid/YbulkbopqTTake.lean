/-
  serialXacts.take.
-/
import Derived.Test.YbulkbopqTEnv
import Derived.Deep.QuietTactic
import Derived.BigQuiet
import Derived.Laws.Cover3
namespace Go.Proofs.Ybulkbopq
open Go.RowKit Go.Sort

theorem eql_map (om : Option Nat) (W : World) : (binOp .eql 112 (.map om) (.map none)).run Yba.prog W = .ok (.bool om.isNone) W := by
  simp only [binOp]
  simp [run_equal_map_nil W 112 81 116 om Yba.underlying112]

/-- The new set's box, and the map's entry for it. -/
theorem open_run {w0 W4 : World} {T M S : Nat → Nat} {mE : Nat} {lv : Nat → Bool} {L : Nat → List (Nat × Nat)} {V : Nat → Value} {lr : Nat → Nat} (hT : Tk w0 W4 T M S mE lv L V lr (c3 lv)) (tabs : Tabs W4 T) {j : Nat} (hj : j < 3) (hlv : lv (6 + j) = false) (hL : L (6 + j) = []) (H : Nat) (hH : W4.heap.size = H) (Wx : World)
    (hh : Wx.heap = (W4.heap.push (.cells #[] 138)).push (.cells #[.slice (some ⟨H, 0, none⟩) 0 0] 91)) (e1 : Wx.tape = W4.tape) (e2 : Wx.os = W4.os) (e3 : Wx.output = W4.output) :
    ∃ w', (Instr.mapUpdate 112 (.map (some mE)) (.agg #[.pointer (some ⟨T j, 0, none⟩), .pointer none]) (.pointer (some ⟨H + 1, 0, none⟩))).run Yba.prog Wx = .ok () w' ∧
      Hid (Tk w0 w' T M (sput S j (H + 1)) mE (lvput lv (6 + j)) L (fun a => if a = 6 + j then .slice (some ⟨H, 0, none⟩) 0 0 else V a) lr (c3 (lvput lv (6 + j))) ∧ ∀ x, x < H → x ≠ mE → w'.heap[x]? = W4.heap[x]?) := by
  subst hH
  have hold : ∀ x, x < W4.heap.size → Wx.heap[x]? = W4.heap[x]? := fun x hx => by
    rw [hh, Array.getElem?_push, if_neg (by simp; omega), Array.getElem?_push, if_neg (by omega)]
  have hg : Wx.heap[W4.heap.size]? = some (.cells #[] 138) := by rw [hh, Array.getElem?_push, if_neg (by simp), Array.getElem?_push, if_pos rfl]
  have hb : Wx.heap[W4.heap.size + 1]? = some (.cells #[.slice (some ⟨W4.heap.size, 0, none⟩) 0 0] 91) := by rw [hh, Array.getElem?_push, if_pos (by simp)]
  have hsz : Wx.heap.size = W4.heap.size + 2 := by rw [hh]; simp
  have hmE := hT.mapE.lt
  have tx : Tabs Wx T := ⟨tabs.1, fun i hi => by
    obtain ⟨c, hc⟩ := tabs.2 i hi
    exact ⟨c, by rw [hold _ (Array.getElem?_eq_some_iff.1 hc).1]; exact hc⟩⟩
  have hm : MapK Wx T mE (fun j => if lv (6 + j) = true then some (.pointer (some ⟨S j, 0, none⟩)) else none) (c3 lv) := hT.mapE.of_block (hold mE hmE)
  obtain ⟨w', hrun, hm', hx', hs', t1, t2, t3⟩ := hm.update tx Yba.underlying112 hj (.pointer (some ⟨W4.heap.size + 1, 0, none⟩))
  have hnn : (if lv (6 + j) = true then some (Value.pointer (some ⟨S j, 0, none⟩)) else none).isSome = false := by rw [hlv]; rfl
  rw [if_neg (by rw [hnn]; simp)] at hm'
  have hk := Tk.open hT hj hlv (w' := w') (g := W4.heap.size) (b := W4.heap.size + 1) (fun x hx hne => by rw [hx' x hne, hold x hx]) (by omega) (by rw [hx' _ (by omega)]; exact hg) (by rw [hx' _ (by omega)]; exact hb) (Nat.le_refl _) (by omega) (by omega) hm'
    (by rw [t1, e1]) (by rw [t2, e2]) (by rw [t3, e3])
  rw [lupd_self hL, ← c3_put hj hlv] at hk
  exact ⟨w', hrun, hk, fun x hx hne => by rw [hx' x hne, hold x hx]⟩

/-- How take finds the epoch's map: it is there, or it makes it. -/
def Begin (w w0 : World) (eB mE : Nat) : Prop :=
  ∃ om, w.cell? ⟨eB, 2, none⟩ = some (.map om) ∧ ((om = some mE ∧ w0 = w) ∨ (om = none ∧ w.frozen? ⟨eB, 2, none⟩ = false ∧ w0 = (w.setCell ⟨eB, 2, none⟩ (.map (some w.heap.size))).alloc (.map #[] 0)))

set_option maxRecDepth 100000 in
set_option maxHeartbeats 4000000 in
theorem take_calls (w w0 : World) (T M : Nat → Nat) (mE rB mR eB cB q : Nat) (fo : Bool) (rs ws : List (Nat × Nat × Nat)) (vr vw : Value) (σ : Sg) (hE : Env w0 T M mE rB mR eB cB q fo rs ws vr vw) (hb : Begin w w0 eB mE) (hσ : Good σ) (ht : TkS w0 w0 T M mE σ) (hlr : rs.length ≤ 1024) (hlw : ws.length ≤ 1024) :
    Calls Yba.prog 18 #[.pointer (some ⟨rB, 0, none⟩), .pointer (some ⟨eB, 0, none⟩), .pointer (some ⟨cB, 0, none⟩)] w fun e w' => e = .returned (.tuple #[]) ∧ TkS w0 w' T M mE (ws.foldl (stepW q fo) (rs.foldl (stepR q) σ)) := by
  have HE : Hid (Env w0 T M mE rB mR eB cB q fo rs ws vr vw) := hE
  have Hσ : Hid (Good σ) := hσ
  have Ht : Hid (TkS w0 w0 T M mE σ) := ht
  have hl1 : (rs.length : Int) ≤ 1024 := by omega
  have hl2 : (ws.length : Int) ≤ 1024 := by omega
  clear hE hσ ht
  obtain ⟨om, c0, hb⟩ := hb
  have heq := eql_map om
  go_enter Yba.func18, Yba.ntmps18
  go_upto_if 16 with fail
  go_cut [12] from 12 to 20 (fun _ wx => wx = w0)
  case first =>
    rcases hb with ⟨rfl, rfl⟩ | ⟨rfl, z0, rfl⟩
    · go_wp2_with fail
      go_meet
      rfl
    · have hmm : ∀ w : World, (Instr.makeMap 112 none).run Yba.prog w = .ok (.map (some w.heap.size)) (w.alloc (.map #[] 0)) := fun _ => by kernel_rfl
      have hlt : eB < w.heap.size := World.block_lt_of_cell? _ _ c0
      have z1 : (w.alloc (.map #[] 0)).frozen? ⟨eB, 2, none⟩ = false := by rw [← z0]; simp only [World.frozen?, ((Gr.refl w).alloc (.map #[] 0)).block hlt]
      go_wp2_with fail
      go_meet
      rfl
  case rest =>
    subst hcut
    obtain ⟨w0, rfl⟩ : ∃ W, W = wc := ⟨_, rfl⟩
    clear hb c0 heq
    obtain ⟨ar, capr, hvr, hrows⟩ := HE.out.rowR
    have c4 := HE.out.c4
    rw [hvr] at c4
    obtain ⟨nr, Hnr⟩ : ∃ nr, Hid (rs.length = nr) := ⟨_, rfl⟩
    rw [Hnr.out] at c4 hl1
    have Hrows : Hid (∀ i j k s, rs[i]? = some (j, k, s) → j < 3 ∧ k < 256 ∧ ∃ g rb rc, ar = some ⟨g, 0, none⟩ ∧ Fix w0 M mE g ∧ Fix w0 M mE rb ∧
      w0.cell? ⟨g, i * 3, none⟩ = some (.pointer (some ⟨T j, 0, none⟩)) ∧ w0.cell? ⟨g, i * 3 + 1, none⟩ = some (.pointer none) ∧ w0.cell? ⟨g, i * 3 + 2, none⟩ = some (.slice (some ⟨rb, 0, none⟩) 1 rc) ∧ El w0 rb k s) := hrows
    clear hrows hvr hlr hlw
    go_wp2_with fail
    clear c4
    go_loopg [26] nr (fun gm s26 wr => ∃ i, i ≤ nr ∧ gm = nr - i ∧ s26 = .int .i64 (i : Nat) ∧ Hid (Good ((rs.take i).foldl (stepR q) σ) ∧ TkS w0 wr T M mE ((rs.take i).foldl (stepR q) σ)))
    case atStart => exact ⟨0, by omega, rfl, rfl, Hσ.out, Ht.out⟩
    case round =>
      obtain ⟨i, hi, rfl, rfl, Hst⟩ := hrel
      by_cases hlt : i < nr
      · have hi' : (i : Int) < (nr : Int) := by omega
        obtain ⟨⟨j, k, s⟩, hx⟩ : ∃ x, rs[i]? = some x := ⟨_, List.getElem?_eq_getElem (by rw [Hnr.out]; exact hlt)⟩
        obtain ⟨hj, hk, g, rb, rc, rfl, hfg, hfrb, d0, d1, d2, hel⟩ := Hrows.out i j k s hx
        obtain ⟨τ, Hτ⟩ : ∃ τ, Hid ((rs.take i).foldl (stepR q) σ = τ) := ⟨_, rfl⟩
        have Hτ' : Hid ((rs.take (i + 1)).foldl (stepR q) σ = stepR q τ (j, k, s)) := by
          show _ = _
          rw [List.take_add_one, hx, ← Hτ.out]
          simp [List.foldl_append]
        obtain ⟨hgood, S, V, hT⟩ := (show Good τ ∧ TkS w0 wr T M mE τ by rw [← Hτ.out]; exact Hst.out)
        have e0 := hT.cellFix hfg d0
        have e1 := hT.cellFix hfg d1
        have e2 := hT.cellFix hfg d2
        clear d0 d1 d2 Hst
        go_wp2_with fail
        have hg1 := (Gr.refl wr).alloc (.cells #[.pointer (some ⟨T j, 0, none⟩), .pointer none, .slice (some ⟨rb, 0, none⟩) 1 rc] 110)
        have hT1 := hT.gr hg1
        have hB1 := heap_alloc_new wr (.cells #[.pointer (some ⟨T j, 0, none⟩), .pointer none, .slice (some ⟨rb, 0, none⟩) 1 rc] 110)
        have HV : Hid (∀ a x, a < 9 → τ.lv a = true → (V a).ownBlock = some x → x < wr.heap.size) := fun a x ha hl hx => (hT.sets.own a ha hl).lt hx
        have HSl : Hid (∀ a, a < 9 → τ.lv a = true → (sAt M S a).1 < wr.heap.size) := fun a ha hl => World.block_lt_of_cell? _ _ (hT.sets.cell a ha hl)
        have HZ : w0.heap.size ≤ wr.heap.size := hT.chg.2.2.2.1
        clear hT hg1 e0 e1 e2
        generalize wr.alloc (.cells #[.pointer (some ⟨T j, 0, none⟩), .pointer none, .slice (some ⟨rb, 0, none⟩) 1 rc] 110) = W1 at *
        generalize wr.heap.size = b1 at *
        have HT : Hid (Tk w0 W1 T M S mE τ.lv τ.L V τ.lr (c3 τ.lv)) := hT1
        have HB : Hid (W1.heap[b1]? = some (.cells #[.pointer (some ⟨T j, 0, none⟩), .pointer none, .slice (some ⟨rb, 0, none⟩) 1 rc] 110)) := hB1
        have x0 : W1.cell? ⟨b1, 0, none⟩ = some (.pointer (some ⟨T j, 0, none⟩)) := by simp only [World.cell?, hB1]; rfl
        have x1 : W1.cell? ⟨b1, 1, none⟩ = some (.pointer none) := by simp only [World.cell?, hB1]; rfl
        have x2 : W1.cell? ⟨b1, 2, none⟩ = some (.slice (some ⟨rb, 0, none⟩) 1 rc) := by simp only [World.cell?, hB1]; rfl
        have y1 := hT1.cellFix HE.out.rfix HE.out.rsp
        have lk : ∀ n, (Instr.lookup 84 (.map (some mR)) (.agg #[.pointer (some ⟨T j, 0, none⟩), .pointer none]) false).run Yba.prog (W1.drewN n) = .ok (.pointer (some ⟨M j, 0, none⟩)) (W1.drewN n) := fun n => by
          have hm : MapK (W1.drewN n) T mR (fun j => some (.pointer (some ⟨M j, 0, none⟩))) 3 := HE.out.mapR.of_block (hT1.fix HE.out.mfix.1 HE.out.mfix.2.1 HE.out.mfix.2.2)
          exact hm.lookup (Tk.tabs (W := W1.drewN n) (hT1.gr ((Gr.refl W1).drewN n)) HE.out.tabs HE.out.tfix) Yba.underlying84 (Yba.zeroValue89 _) hj
        have Hb1 : Hid (w0.heap.size ≤ b1) := HZ
        clear hT1 hB1 HZ
        go_quiet (fail)
        have hT2 := HT.out.gr ((Gr.refl W1).drewN nq)
        obtain ⟨_, _, m3, mf⟩ := hT2.marks j hj
        have y2 := hT2.cellFix HE.out.cfix HE.out.c1
        have hT3 := hT2.last hj q
        have hml := (hT2.ml j hj).1
        have HB3 : Hid (((W1.drewN nq).setCell ⟨M j, 3, none⟩ (.int .u64 (q : Nat))).heap[b1]? = some (.cells #[.pointer (some ⟨T j, 0, none⟩), .pointer none, .slice (some ⟨rb, 0, none⟩) 1 rc] 110)) := by
          show _ = _
          rw [Below.heap_setCell _ _ _ _ (by show b1 ≠ M j; have := Hb1.out; omega)]
          exact HB.out
        have HT3 : Hid (Tk w0 ((W1.drewN nq).setCell ⟨M j, 3, none⟩ (.int .u64 (q : Nat))) T M S mE τ.lv τ.L V (fun i => if i = j then q else τ.lr i) (c3 τ.lv)) := hT3
        clear hT2 hT3 lk x0 x1 x2 y1 hml HT HB
        go_upto_region 7 with fail
        generalize (W1.drewN nq).setCell ⟨M j, 3, none⟩ (.int .u64 (q : Nat)) = W3 at *
        have x0 : W3.cell? ⟨b1, 0, none⟩ = some (.pointer (some ⟨T j, 0, none⟩)) := by simp only [World.cell?, HB3.out]; rfl
        have x1 : W3.cell? ⟨b1, 1, none⟩ = some (.pointer none) := by simp only [World.cell?, HB3.out]; rfl
        have x2 : W3.cell? ⟨b1, 2, none⟩ = some (.slice (some ⟨rb, 0, none⟩) 1 rc) := by simp only [World.cell?, HB3.out]; rfl
        have y2 := HT3.out.cellFix HE.out.cfix HE.out.c1
        clear m3 mf
        have cL : ∀ W, Gr W3 W → Calls Yba.prog 24 #[.pointer (some ⟨rB, 0, none⟩), .pointer (some ⟨M j, 2, none⟩), .slice (some ⟨rb, 0, none⟩) 1 rc, .int .u64 (q : Nat)] W fun e w' => e = .returned (.tuple #[]) ∧
            Hid (∃ V', Tk w0 w' T M S mE τ.lv (lupd τ.L j (ins max (τ.L j) k (max q s))) V' (fun i => if i = j then q else τ.lr i) (c3 τ.lv)) ∧ Hid (w'.heap[b1]? = some (.cells #[.pointer (some ⟨T j, 0, none⟩), .pointer none, .slice (some ⟨rb, 0, none⟩) 1 rc] 110)) := fun W hg => by
          have hT := HT3.out.gr hg
          have hlv : τ.lv j = true := hT.low j (by omega)
          have hcell := hT.sets.cell j (by omega) hlv
          have hfr := hT.sets.froz j (by omega) hlv
          rw [sAt_lt M S hj] at hcell hfr
          have hne : (V j).ownBlock ≠ some (M j) := fun e => by
            have := hT.sets.base j _ (by omega) hlv e
            have := (hT.ml j hj).1
            omega
          refine (latest_calls W (.pointer (some ⟨rB, 0, none⟩)) (M j) 2 rb rc k s q (V j) (τ.L j) (hT.elFix hfrb hel) hcell hfr (hT.sets.own j (by omega) hlv) hne (hgood.ord j) (hgood.ord j).len).mono fun e w' ⟨he, v', hO⟩ => ⟨he, ?_, ?_⟩
          · have hO' : Out W w' (sAt M S j).1 (sAt M S j).2 (V j) v' (ins max (τ.L j) k (max q s)) := by rw [sAt_lt M S hj]; exact hO
            exact ⟨_, hT.add (by omega) hlv hO'⟩
          · show _ = _
            have hbw : W.heap[b1]? = some (.cells #[.pointer (some ⟨T j, 0, none⟩), .pointer none, .slice (some ⟨rb, 0, none⟩) 1 rc] 110) := by rw [hg.block (World.block_lt_of_cell? _ _ x0)]; exact HB3.out
            rw [hO.block (Array.getElem?_eq_some_iff.1 hbw).1 (by have := (hT.ml j hj).1; have := Hb1.out; omega) (fun e => by have := HV.out j b1 (by omega) hlv e; omega)]
            exact hbw
        go_cut [54] from 44 to 54 (fun _ wx => Hid (∃ V', Tk w0 wx T M S mE τ.lv (lupd τ.L j (ins max (τ.L j) k (max q s))) V' (fun i => if i = j then q else τ.lr i) (c3 τ.lv)) ∧ Hid (wx.heap[b1]? = some (.cells #[.pointer (some ⟨T j, 0, none⟩), .pointer none, .slice (some ⟨rb, 0, none⟩) 1 rc] 110)))
        case first =>
          go_region_with (go_at_call 24; refine (cL _ (by repeat (first | exact Gr.refl _ | refine Gr.drew ?_ | refine Gr.drewN ?_ _))).mono ?_; rintro e W4 ⟨rfl, HT4, HB4⟩)
          all_goals go_wp2_with fail
          all_goals go_meet
          all_goals exact ⟨HT4, HB4⟩
        obtain ⟨HT4, HB4⟩ := hcut
        obtain ⟨W4, rfl⟩ : ∃ W, W = wc := ⟨_, rfl⟩
        obtain ⟨V4, hT4⟩ := HT4.out
        clear x0 x1 x2 y2 cL HT3 HB3
        have x0 : W4.cell? ⟨b1, 0, none⟩ = some (.pointer (some ⟨T j, 0, none⟩)) := by simp only [World.cell?, HB4.out]; rfl
        have x1 : W4.cell? ⟨b1, 1, none⟩ = some (.pointer none) := by simp only [World.cell?, HB4.out]; rfl
        have y3 := hT4.cellFix HE.out.efix HE.out.esp
        obtain ⟨pv, hpv⟩ : ∃ pv, (if τ.lv (6 + j) = true then some (⟨S j, 0, none⟩ : Addr) else none) = pv := ⟨_, rfl⟩
        have lk : ∀ n, (Instr.lookup 112 (.map (some mE)) (.agg #[.pointer (some ⟨T j, 0, none⟩), .pointer none]) false).run Yba.prog (W4.drewN n) = .ok (.pointer pv) (W4.drewN n) := fun n => by
          have hm : MapK (W4.drewN n) T mE _ _ := hT4.mapE.of_block rfl
          have h := hm.lookup (Tk.tabs (W := W4.drewN n) (hT4.gr ((Gr.refl W4).drewN n)) HE.out.tabs HE.out.tfix) Yba.underlying112 (Yba.zeroValue116 _) hj
          have e : ((if τ.lv (6 + j) = true then some (Value.pointer (some ⟨S j, 0, none⟩)) else none).getD (.pointer none)) = .pointer pv := by
            rw [← hpv]
            split <;> rfl
          rw [e] at h
          exact h
        have HT4' : Hid (Tk w0 W4 T M S mE τ.lv (lupd τ.L j (ins max (τ.L j) k (max q s))) V4 (fun i => if i = j then q else τ.lr i) (c3 τ.lv)) := hT4
        clear hT4 HT4
        by_cases hlive : τ.lv (6 + j) = true
        · rw [if_pos hlive] at hpv
          subst hpv
          have Hend : Hid (∀ n, Good ((rs.take (i + 1)).foldl (stepR q) σ) ∧ TkS w0 (W4.drewN n) T M mE ((rs.take (i + 1)).foldl (stepR q) σ)) := fun n => by
            rw [Hτ'.out]
            refine ⟨hgood.stepR q hj hk, S, V4, ?_⟩
            show Tk w0 (W4.drewN n) T M S mE (lvput τ.lv (6 + j)) (lupd τ.L j (ins max (τ.L j) k (max q s))) V4 (fun i => if i = j then q else τ.lr i) (c3 (lvput τ.lv (6 + j)))
            rw [lvput_self hlive]
            exact HT4'.out.gr ((Gr.refl W4).drewN n)
          clear hlive
          go_wp2_with fail
          go_quiet (fail)
          go_wp2_with fail
          go_roundg (nr - (i + 1))
          case measure => omega
          case rel => exact ⟨i + 1, by omega, rfl, by go_num, Hend.out _⟩
        · rw [if_neg hlive] at hpv
          subst hpv
          have Hlv : Hid (τ.lv (6 + j) = false) := by show _ = _; simpa using hlive
          clear hlive
          have Hop : Hid (∀ Wx : World, Wx.heap = (W4.heap.push (.cells #[] 138)).push (.cells #[.slice (some ⟨W4.heap.size, 0, none⟩) 0 0] 91) → Wx.tape = W4.tape → Wx.os = W4.os → Wx.output = W4.output →
              ∃ w', (Instr.mapUpdate 112 (.map (some mE)) (.agg #[.pointer (some ⟨T j, 0, none⟩), .pointer none]) (.pointer (some ⟨W4.heap.size + 1, 0, none⟩))).run Yba.prog Wx = .ok () w' ∧ Hid (Good ((rs.take (i + 1)).foldl (stepR q) σ) ∧ TkS w0 w' T M mE ((rs.take (i + 1)).foldl (stepR q) σ))) := fun Wx h1 h2 h3 h4 => by
            have hLe : lupd τ.L j (ins max (τ.L j) k (max q s)) (6 + j) = [] := by
              unfold lupd
              rw [if_neg (by omega)]
              exact hgood.emp _ Hlv.out
            obtain ⟨w', hr, hk'⟩ := open_run HT4'.out (Tk.tabs HT4'.out HE.out.tabs HE.out.tfix) hj Hlv.out hLe _ rfl Wx h1 h2 h3 h4
            refine ⟨w', hr, ?_⟩
            show Good _ ∧ _
            rw [Hτ'.out]
            exact ⟨hgood.stepR q hj hk, _, _, hk'.out.1⟩
          obtain ⟨Wu, hWu⟩ := Classical.axiomOfChoice (fun n => Hop.out (((W4.drewN n).alloc (.cells #[] 138)).alloc (.cells #[.slice (some ⟨W4.heap.size, 0, none⟩) 0 0] 91)) rfl rfl rfl rfl)
          have hup := fun n => (hWu n).1
          have HT5 : Hid (∀ n, Good ((rs.take (i + 1)).foldl (stepR q) σ) ∧ TkS w0 (Wu n) T M mE ((rs.take (i + 1)).foldl (stepR q) σ)) := fun n => (hWu n).2.out
          clear hWu Hop
          have ga : ∀ n o, Gr W4 ((W4.drewN n).alloc o) := fun n o => ((Gr.refl W4).drewN n).alloc o
          have gb : ∀ n o o', Gr W4 (((W4.drewN n).alloc o).alloc o') := fun n o o' => (((Gr.refl W4).drewN n).alloc o).alloc o'
          have xa0 := fun n o => (ga n o).cell_of x0
          have xa1 := fun n o => (ga n o).cell_of x1
          have xa2 := fun n o => (ga n o).cell_of y3
          have xb0 := fun n o o' => (gb n o o').cell_of x0
          have xb1 := fun n o o' => (gb n o o').cell_of x1
          have xb2 := fun n o o' => (gb n o o').cell_of y3
          clear ga gb
          go_wp2_with fail
          go_quiet (fail)
          go_wp2_with fail
          go_region
          all_goals go_wp2_with fail
          all_goals go_roundg (nr - (i + 1))
          all_goals first | (show (_ : Nat) < _; omega) | exact ⟨i + 1, by omega, rfl, by go_num, HT5.out _⟩
      · have hi' : ¬ (i : Int) < (nr : Int) := by omega
        obtain rfl : i = nr := by omega
        obtain ⟨σ1, Hσ1⟩ : ∃ σ1, Hid (rs.foldl (stepR q) σ = σ1) := ⟨_, rfl⟩
        have Hst1 : Hid (Good σ1 ∧ TkS w0 wr T M mE σ1) := by
          have h := Hst.out
          rw [← Hnr.out, List.take_length, Hσ1.out] at h
          exact h
        obtain ⟨aw, capw, hvw, hrows⟩ := HE.out.rowW
        obtain ⟨_, S0, V0, hT0⟩ := Hst1.out
        have c5 := hT0.cellFix HE.out.cfix HE.out.c5
        rw [hvw] at c5
        obtain ⟨nw, Hnw⟩ : ∃ nw, Hid (ws.length = nw) := ⟨_, rfl⟩
        rw [Hnw.out] at c5 hl2
        clear Hrows hT0 Hst
        have Hrows : Hid (∀ i j k s, ws[i]? = some (j, k, s) → j < 3 ∧ k < 256 ∧ ∃ g rb rc, aw = some ⟨g, 0, none⟩ ∧ Fix w0 M mE g ∧ Fix w0 M mE rb ∧
          w0.cell? ⟨g, i * 3, none⟩ = some (.pointer (some ⟨T j, 0, none⟩)) ∧ w0.cell? ⟨g, i * 3 + 1, none⟩ = some (.pointer none) ∧ w0.cell? ⟨g, i * 3 + 2, none⟩ = some (.slice (some ⟨rb, 0, none⟩) 1 rc) ∧ El w0 rb k s) := hrows
        clear hrows hvw
        go_wp2_with fail
        clear c5
        go_loopg [77] nw (fun gm s77 wx => ∃ i, i ≤ nw ∧ gm = nw - i ∧ s77 = .int .i64 (i : Nat) ∧ Hid (Good ((ws.take i).foldl (stepW q fo) σ1) ∧ TkS w0 wx T M mE ((ws.take i).foldl (stepW q fo) σ1)))
        case atStart => exact ⟨0, by omega, rfl, rfl, Hst1.out⟩
        case round =>
          obtain ⟨i, hi2, rfl, rfl, Hst⟩ := hrel
          by_cases hlt : i < nw
          · have hi3 : (i : Int) < (nw : Int) := by omega
            obtain ⟨⟨j, k, s⟩, hx⟩ : ∃ x, ws[i]? = some x := ⟨_, List.getElem?_eq_getElem (by rw [Hnw.out]; exact hlt)⟩
            obtain ⟨hj, hk, g, rb, rc, rfl, hfg, hfrb, d0, d1, d2, hel⟩ := Hrows.out i j k s hx
            obtain ⟨τ, Hτ⟩ : ∃ τ, Hid ((ws.take i).foldl (stepW q fo) σ1 = τ) := ⟨_, rfl⟩
            have Hτ' : Hid ((ws.take (i + 1)).foldl (stepW q fo) σ1 = stepW q fo τ (j, k, s)) := by
              show _ = _
              rw [List.take_add_one, hx, ← Hτ.out]
              simp [List.foldl_append]
            obtain ⟨hgood, S, V, hT⟩ := (show Good τ ∧ TkS w0 wr T M mE τ by rw [← Hτ.out]; exact Hst.out)
            have e0 := hT.cellFix hfg d0
            have e1 := hT.cellFix hfg d1
            have e2 := hT.cellFix hfg d2
            have c11 := (hT.gr ((Gr.refl wr).alloc (.cells #[.pointer (some ⟨T j, 0, none⟩), .pointer none, .slice (some ⟨rb, 0, none⟩) 1 rc] 110))).cellFix HE.out.cfix HE.out.c11
            clear d0 d1 d2 Hst
            go_upto_if 84 with fail
            have hg1 := (Gr.refl wr).alloc (.cells #[.pointer (some ⟨T j, 0, none⟩), .pointer none, .slice (some ⟨rb, 0, none⟩) 1 rc] 110)
            have hT1 := hT.gr hg1
            have hB1 := heap_alloc_new wr (.cells #[.pointer (some ⟨T j, 0, none⟩), .pointer none, .slice (some ⟨rb, 0, none⟩) 1 rc] 110)
            have HV : Hid (∀ a x, a < 9 → τ.lv a = true → (V a).ownBlock = some x → x < wr.heap.size) := fun a x ha hl hx => (hT.sets.own a ha hl).lt hx
            have HSl : Hid (∀ a, a < 9 → τ.lv a = true → (sAt M S a).1 < wr.heap.size) := fun a ha hl => World.block_lt_of_cell? _ _ (hT.sets.cell a ha hl)
            have HZ : w0.heap.size ≤ wr.heap.size := hT.chg.2.2.2.1
            clear hT hg1 e0 e1 e2 c11
            generalize wr.alloc (.cells #[.pointer (some ⟨T j, 0, none⟩), .pointer none, .slice (some ⟨rb, 0, none⟩) 1 rc] 110) = W1 at *
            generalize wr.heap.size = b1 at *
            have HT : Hid (Tk w0 W1 T M S mE τ.lv τ.L V τ.lr (c3 τ.lv)) := hT1
            have HB : Hid (W1.heap[b1]? = some (.cells #[.pointer (some ⟨T j, 0, none⟩), .pointer none, .slice (some ⟨rb, 0, none⟩) 1 rc] 110)) := hB1
            have Hb1 : Hid (w0.heap.size ≤ b1) := HZ
            clear hT1 hB1 HZ
            go_cut [101] from 85 to 101 (fun _ wx => Hid (∃ V', Tk w0 wx T M S mE τ.lv (doomW q fo τ.L (j, k, s)) V' τ.lr (c3 τ.lv) ∧ ∀ x, (V' (6 + j)).ownBlock = some x → τ.lv (6 + j) = true → x < b1) ∧ Hid (wx.heap[b1]? = some (.cells #[.pointer (some ⟨T j, 0, none⟩), .pointer none, .slice (some ⟨rb, 0, none⟩) 1 rc] 110)))
            case first =>
              cases fo with
              | false =>
                go_wp2_with fail
                go_meet
                exact ⟨⟨V, HT.out, fun x hx hl => HV.out (6 + j) x (by omega) hl hx⟩, HB⟩
              | true =>
                have x0 : W1.cell? ⟨b1, 0, none⟩ = some (.pointer (some ⟨T j, 0, none⟩)) := by simp only [World.cell?, HB.out]; rfl
                have x1 : W1.cell? ⟨b1, 1, none⟩ = some (.pointer none) := by simp only [World.cell?, HB.out]; rfl
                have x2 : W1.cell? ⟨b1, 2, none⟩ = some (.slice (some ⟨rb, 0, none⟩) 1 rc) := by simp only [World.cell?, HB.out]; rfl
                have y1 := HT.out.cellFix HE.out.rfix HE.out.rsp
                have y2 := HT.out.cellFix HE.out.cfix HE.out.c1
                have lk : ∀ n, (Instr.lookup 84 (.map (some mR)) (.agg #[.pointer (some ⟨T j, 0, none⟩), .pointer none]) false).run Yba.prog (W1.drewN n) = .ok (.pointer (some ⟨M j, 0, none⟩)) (W1.drewN n) := fun n => by
                  have hm : MapK (W1.drewN n) T mR (fun j => some (.pointer (some ⟨M j, 0, none⟩))) 3 := HE.out.mapR.of_block (HT.out.fix HE.out.mfix.1 HE.out.mfix.2.1 HE.out.mfix.2.2)
                  exact hm.lookup (Tk.tabs (W := W1.drewN n) (HT.out.gr ((Gr.refl W1).drewN n)) HE.out.tabs HE.out.tfix) Yba.underlying84 (Yba.zeroValue89 _) hj
                have lk1 : (Instr.lookup 84 (.map (some mR)) (.agg #[.pointer (some ⟨T j, 0, none⟩), .pointer none]) false).run Yba.prog W1.drew = .ok (.pointer (some ⟨M j, 0, none⟩)) W1.drew := lk 1
                have cL : ∀ W, Gr W1 W → Calls Yba.prog 24 #[.pointer (some ⟨rB, 0, none⟩), .pointer (some ⟨M j, 4, none⟩), .slice (some ⟨rb, 0, none⟩) 1 rc, .int .u64 (q : Nat)] W fun e w' => e = .returned (.tuple #[]) ∧
                    Hid (∃ V', Tk w0 w' T M S mE τ.lv (doomW q true τ.L (j, k, s)) V' τ.lr (c3 τ.lv) ∧ ∀ x, (V' (6 + j)).ownBlock = some x → τ.lv (6 + j) = true → x < b1) ∧ Hid (w'.heap[b1]? = some (.cells #[.pointer (some ⟨T j, 0, none⟩), .pointer none, .slice (some ⟨rb, 0, none⟩) 1 rc] 110)) := fun W hg => by
                  have hT := HT.out.gr hg
                  have hlv : τ.lv (3 + j) = true := hT.low (3 + j) (by omega)
                  have hcell := hT.sets.cell (3 + j) (by omega) hlv
                  have hfr := hT.sets.froz (3 + j) (by omega) hlv
                  rw [sAt_mid M S hj] at hcell hfr
                  have hne : (V (3 + j)).ownBlock ≠ some (M j) := fun e => by
                    have := hT.sets.base (3 + j) _ (by omega) hlv e
                    have := (hT.ml j hj).1
                    omega
                  refine (latest_calls W (.pointer (some ⟨rB, 0, none⟩)) (M j) 4 rb rc k s q (V (3 + j)) (τ.L (3 + j)) (hT.elFix hfrb hel) hcell hfr (hT.sets.own (3 + j) (by omega) hlv) hne (hgood.ord (3 + j)) (hgood.ord (3 + j)).len).mono fun e w' ⟨he, v', hO⟩ => ⟨he, ?_, ?_⟩
                  · have hO' : Out W w' (sAt M S (3 + j)).1 (sAt M S (3 + j)).2 (V (3 + j)) v' (ins max (τ.L (3 + j)) k (max q s)) := by rw [sAt_mid M S hj]; exact hO
                    have hA := hT.add (by omega) hlv hO'
                    refine ⟨_, hA, fun x hx hl => ?_⟩
                    have hx' : (if 6 + j = 3 + j then v' else V (6 + j)).ownBlock = some x := hx
                    rw [if_neg (by omega)] at hx'
                    exact HV.out (6 + j) x (by omega) hl hx'
                  · show _ = _
                    have hbw : W.heap[b1]? = some (.cells #[.pointer (some ⟨T j, 0, none⟩), .pointer none, .slice (some ⟨rb, 0, none⟩) 1 rc] 110) := by rw [hg.block (World.block_lt_of_cell? _ _ x0)]; exact HB.out
                    rw [hO.block (Array.getElem?_eq_some_iff.1 hbw).1 (by have := (hT.ml j hj).1; have := Hb1.out; omega) (fun e => by have := HV.out (3 + j) b1 (by omega) hlv e; omega)]
                    exact hbw
                clear lk
                have cL' : ∀ W, Gr W1 W → Calls Yba.prog 24 #[.pointer (some ⟨rB, 0, none⟩), .pointer (some ⟨M j, 4, none⟩), .slice (some ⟨rb, 0, none⟩) 1 rc, .int .u64 (q : Nat)] W fun e w' => e = .returned (.tuple #[]) ∧
                    Hid (∃ V', Tk w0 w' T M S mE τ.lv (doomW q true τ.L (j, k, s)) V' τ.lr (c3 τ.lv) ∧ ∀ x, (V' (6 + j)).ownBlock = some x → τ.lv (6 + j) = true → x < b1) ∧ Hid (w'.heap[b1]? = some (.cells #[.pointer (some ⟨T j, 0, none⟩), .pointer none, .slice (some ⟨rb, 0, none⟩) 1 rc] 110)) ∧
                    w'.cell? ⟨b1, 0, none⟩ = some (.pointer (some ⟨T j, 0, none⟩)) ∧ w'.cell? ⟨b1, 1, none⟩ = some (.pointer none) ∧ w'.cell? ⟨b1, 2, none⟩ = some (.slice (some ⟨rb, 0, none⟩) 1 rc) ∧ w'.cell? ⟨rB, 6, none⟩ = some (.map (some mR)) ∧ w'.cell? ⟨cB, 1, none⟩ = some (.int .u64 (q : Nat)) :=
                  fun W hg => (cL W hg).mono fun e w' ⟨he, h1, h2⟩ => by
                    obtain ⟨V', hT', _⟩ := h1.out
                    exact ⟨he, h1, h2, by simp only [World.cell?, h2.out]; rfl, by simp only [World.cell?, h2.out]; rfl, by simp only [World.cell?, h2.out]; rfl, hT'.cellFix HE.out.rfix HE.out.rsp, hT'.cellFix HE.out.cfix HE.out.c1⟩
                clear cL
                go_wp2_with fail
                go_region_held (fun w' => w'.cell? ⟨b1, 0, none⟩ = some (.pointer (some ⟨T j, 0, none⟩)) ∧ w'.cell? ⟨b1, 1, none⟩ = some (.pointer none) ∧ w'.cell? ⟨b1, 2, none⟩ = some (.slice (some ⟨rb, 0, none⟩) 1 rc) ∧ w'.cell? ⟨rB, 6, none⟩ = some (.map (some mR)) ∧ w'.cell? ⟨cB, 1, none⟩ = some (.int .u64 (q : Nat))) (go_keep)
                  (first | (go_at_call 24; refine (cL' _ (by repeat (first | exact Gr.refl _ | refine Gr.drew ?_ | refine Gr.drewN ?_ _))).mono ?_; rintro e W4 ⟨rfl, HT4, HB4, s0, s1, s2, s3, s4⟩))
                all_goals go_wp2_with fail
                all_goals go_meet
                all_goals exact ⟨HT4, HB4⟩
            obtain ⟨HT4, HB4⟩ := hcut
            obtain ⟨W4, rfl⟩ : ∃ W, W = wc := ⟨_, rfl⟩
            obtain ⟨V4, hT4, hV4⟩ := HT4.out
            have HT4' : Hid (Tk w0 W4 T M S mE τ.lv (doomW q fo τ.L (j, k, s)) V4 τ.lr (c3 τ.lv)) := hT4
            have HV4 : Hid (∀ x, (V4 (6 + j)).ownBlock = some x → τ.lv (6 + j) = true → x < b1) := hV4
            have x0 : W4.cell? ⟨b1, 0, none⟩ = some (.pointer (some ⟨T j, 0, none⟩)) := by simp only [World.cell?, HB4.out]; rfl
            have x1 : W4.cell? ⟨b1, 1, none⟩ = some (.pointer none) := by simp only [World.cell?, HB4.out]; rfl
            have y3 := hT4.cellFix HE.out.efix HE.out.esp
            obtain ⟨pv, hpv⟩ : ∃ pv, (if τ.lv (6 + j) = true then some (⟨S j, 0, none⟩ : Addr) else none) = pv := ⟨_, rfl⟩
            have lk : ∀ n, (Instr.lookup 112 (.map (some mE)) (.agg #[.pointer (some ⟨T j, 0, none⟩), .pointer none]) false).run Yba.prog (W4.drewN n) = .ok (.pointer pv) (W4.drewN n) := fun n => by
              have hm : MapK (W4.drewN n) T mE _ _ := hT4.mapE.of_block rfl
              have h := hm.lookup (Tk.tabs (W := W4.drewN n) (hT4.gr ((Gr.refl W4).drewN n)) HE.out.tabs HE.out.tfix) Yba.underlying112 (Yba.zeroValue116 _) hj
              have e : ((if τ.lv (6 + j) = true then some (Value.pointer (some ⟨S j, 0, none⟩)) else none).getD (.pointer none)) = .pointer pv := by
                rw [← hpv]
                split <;> rfl
              rw [e] at h
              exact h
            clear hT4 HT4 hV4 HT HB
            go_wp2_with fail
            go_quiet (fail)
            clear lk
            go_upto_if 110 with fail
            go_cut [11] from 109 to 119 (fun s11 wx => ∃ S' V', s11 = .pointer (some ⟨S' j, 0, none⟩) ∧ Hid (Tk w0 wx T M S' mE (lvput τ.lv (6 + j)) (doomW q fo τ.L (j, k, s)) V' τ.lr (c3 (lvput τ.lv (6 + j))) ∧ S' j ≠ b1 ∧ (V' (6 + j)).ownBlock ≠ some b1) ∧ Hid (wx.heap[b1]? = some (.cells #[.pointer (some ⟨T j, 0, none⟩), .pointer none, .slice (some ⟨rb, 0, none⟩) 1 rc] 110)))
            case first =>
              by_cases hlive : τ.lv (6 + j) = true
              · rw [if_pos hlive] at hpv
                subst hpv
                have Hend : Hid (∀ n, Tk w0 (W4.drewN n) T M S mE (lvput τ.lv (6 + j)) (doomW q fo τ.L (j, k, s)) V4 τ.lr (c3 (lvput τ.lv (6 + j))) ∧ S j ≠ b1 ∧ (V4 (6 + j)).ownBlock ≠ some b1) := fun n => by
                  rw [lvput_self hlive]
                  refine ⟨HT4'.out.gr ((Gr.refl W4).drewN n), ?_, fun e => by have := HV4.out b1 e hlive; omega⟩
                  have h := HSl.out (6 + j) (by omega) hlive
                  rw [sAt_top] at h
                  have h' : S j < b1 := h
                  omega
                clear hlive
                go_wp2_with fail
                go_meet
                exact ⟨S, V4, rfl, Hend.out _, HB4⟩
              · rw [if_neg hlive] at hpv
                subst hpv
                have Hlv : Hid (τ.lv (6 + j) = false) := by show _ = _; simpa using hlive
                clear hlive
                have Hlt : Hid (b1 < W4.heap.size) := World.block_lt_of_cell? _ _ x0
                have Hop : Hid (∀ Wx : World, Wx.heap = (W4.heap.push (.cells #[] 138)).push (.cells #[.slice (some ⟨W4.heap.size, 0, none⟩) 0 0] 91) → Wx.tape = W4.tape → Wx.os = W4.os → Wx.output = W4.output →
                    ∃ w', (Instr.mapUpdate 112 (.map (some mE)) (.agg #[.pointer (some ⟨T j, 0, none⟩), .pointer none]) (.pointer (some ⟨W4.heap.size + 1, 0, none⟩))).run Yba.prog Wx = .ok () w' ∧
                      Hid ((∃ V', Tk w0 w' T M (sput S j (W4.heap.size + 1)) mE (lvput τ.lv (6 + j)) (doomW q fo τ.L (j, k, s)) V' τ.lr (c3 (lvput τ.lv (6 + j))) ∧ sput S j (W4.heap.size + 1) j ≠ b1 ∧ (V' (6 + j)).ownBlock ≠ some b1) ∧ w'.heap[b1]? = some (.cells #[.pointer (some ⟨T j, 0, none⟩), .pointer none, .slice (some ⟨rb, 0, none⟩) 1 rc] 110))) := fun Wx h1 h2 h3 h4 => by
                  have hLe : doomW q fo τ.L (j, k, s) (6 + j) = [] := by
                    unfold doomW
                    split
                    · unfold lupd
                      rw [if_neg (by show 6 + j ≠ 3 + j; omega)]
                      exact hgood.emp _ Hlv.out
                    · exact hgood.emp _ Hlv.out
                  obtain ⟨w', hr, hk'⟩ := open_run HT4'.out (Tk.tabs HT4'.out HE.out.tabs HE.out.tfix) hj Hlv.out hLe _ rfl Wx h1 h2 h3 h4
                  have hl1 := Hlt.out
                  refine ⟨w', hr, ⟨_, hk'.out.1, ?_, ?_⟩, ?_⟩
                  · unfold sput
                    rw [if_pos rfl]
                    omega
                  · intro e
                    have e' : (if 6 + j = 6 + j then Value.slice (some ⟨W4.heap.size, 0, none⟩) 0 0 else V4 (6 + j)).ownBlock = some b1 := e
                    rw [if_pos rfl] at e'
                    have : W4.heap.size = b1 := by simpa [Value.ownBlock] using e'
                    omega
                  · rw [hk'.out.2 b1 hl1 (fun e => ?_)]
                    · exact HB4.out
                    · obtain ⟨es, clock, hm, _⟩ := HT4'.out.mapE
                      rw [← e, HB4.out] at hm
                      cases hm
                obtain ⟨Wu, hWu⟩ := Classical.axiomOfChoice (fun n => Hop.out (((W4.drewN n).alloc (.cells #[] 138)).alloc (.cells #[.slice (some ⟨W4.heap.size, 0, none⟩) 0 0] 91)) rfl rfl rfl rfl)
                have hup := fun n => (hWu n).1
                have hup2 : ∀ n, (Instr.mapUpdate 112 (.map (some mE)) (.agg #[.pointer (some ⟨T j, 0, none⟩), .pointer none]) (.pointer (some ⟨W4.heap.size + 1, 0, none⟩))).run Yba.prog (((W4.drewN n).alloc (.cells #[] 138)).alloc (.cells #[.slice (some ⟨W4.heap.size, 0, none⟩) 0 0] 91)).drew = .ok () (Wu (n + 1)) := fun n => hup (n + 1)
                have HT5 : Hid (∀ n, (∃ V', Tk w0 (Wu n) T M (sput S j (W4.heap.size + 1)) mE (lvput τ.lv (6 + j)) (doomW q fo τ.L (j, k, s)) V' τ.lr (c3 (lvput τ.lv (6 + j))) ∧ sput S j (W4.heap.size + 1) j ≠ b1 ∧ (V' (6 + j)).ownBlock ≠ some b1) ∧ (Wu n).heap[b1]? = some (.cells #[.pointer (some ⟨T j, 0, none⟩), .pointer none, .slice (some ⟨rb, 0, none⟩) 1 rc] 110)) := fun n => (hWu n).2.out
                clear hWu Hop
                have gb : ∀ n o o', Gr W4 (((W4.drewN n).alloc o).alloc o') := fun n o o' => (((Gr.refl W4).drewN n).alloc o).alloc o'
                have gc : ∀ n o o', Gr W4 (((W4.drewN n).alloc o).alloc o').drew := fun n o o' => (gb n o o').drew
                have xb0 := fun n o o' => (gb n o o').cell_of x0
                have xb1 := fun n o o' => (gb n o o').cell_of x1
                have xb2 := fun n o o' => (gb n o o').cell_of y3
                clear gb gc
                go_wp2_with fail
                go_region
                all_goals go_wp2_with fail
                all_goals go_meet
                all_goals obtain ⟨V5, h5, h6, h7⟩ := (HT5.out _).1
                all_goals exact ⟨sput S j (W4.heap.size + 1), V5, by unfold sput; rw [if_pos rfl], ⟨h5, h6, h7⟩, (HT5.out _).2⟩
            obtain ⟨S5, V5, rfl, HT5, HB5⟩ := hcut
            obtain ⟨W5, rfl⟩ : ∃ W, W = wc := ⟨_, rfl⟩
            clear x0 x1 y3 HT4' HV4 HB4 hpv
            have x2 : W5.cell? ⟨b1, 2, none⟩ = some (.slice (some ⟨rb, 0, none⟩) 1 rc) := by simp only [World.cell?, HB5.out]; rfl
            have y2 := HT5.out.1.cellFix HE.out.cfix HE.out.c1
            have cF : ∀ W, Gr W5 W → Calls Yba.prog 25 #[.pointer (some ⟨S5 j, 0, none⟩), .slice (some ⟨rb, 0, none⟩) 1 rc, .int .u64 (q : Nat)] W fun e w' => e = .returned (.tuple #[]) ∧
                Hid (Good ((ws.take (i + 1)).foldl (stepW q fo) σ1) ∧ TkS w0 w' T M mE ((ws.take (i + 1)).foldl (stepW q fo) σ1)) := fun W hg => by
              have hT := HT5.out.1.gr hg
              have hlv : lvput τ.lv (6 + j) (6 + j) = true := by unfold lvput; rw [if_pos rfl]
              have hcell := hT.sets.cell (6 + j) (by omega) hlv
              have hfr := hT.sets.froz (6 + j) (by omega) hlv
              have hoff := fun x => hT.sets.off (6 + j) (6 + j) x (by omega) (by omega) hlv hlv
              rw [sAt_top] at hcell hfr hoff
              have hdt : doomW q fo τ.L (j, k, s) (6 + j) = τ.L (6 + j) := by
                unfold doomW
                split
                · unfold lupd
                  rw [if_neg (by show 6 + j ≠ 3 + j; omega)]
                · rfl
              have hord : Ord (doomW q fo τ.L (j, k, s) (6 + j)) := by rw [hdt]; exact hgood.ord _
              refine (first_calls W (S5 j) 0 rb rc k s q (V5 (6 + j)) (doomW q fo τ.L (j, k, s) (6 + j)) (hT.elFix hfrb hel) hcell hfr (hT.sets.own (6 + j) (by omega) hlv) (fun e => hoff _ e rfl) hord hord.len).mono fun e w' ⟨he, v', hO⟩ => ⟨he, ?_⟩
              have hO' : Out W w' (sAt M S5 (6 + j)).1 (sAt M S5 (6 + j)).2 (V5 (6 + j)) v' (ins early (doomW q fo τ.L (j, k, s) (6 + j)) k (early q s)) := by rw [sAt_top]; exact hO
              have hA := hT.add (by omega) hlv hO'
              show Good _ ∧ _
              rw [Hτ'.out]
              exact ⟨hgood.stepW q fo hj hk, S5, _, hA⟩
            clear HT5 HB5
            go_wp2_with fail
            go_region_with (go_at_call 25; refine (cF _ (by repeat (first | exact Gr.refl _ | refine Gr.drew ?_ | refine Gr.drewN ?_ _))).mono ?_; rintro e W6 ⟨rfl, HT6⟩)
            all_goals go_wp2_with fail
            all_goals go_roundg (nw - (i + 1))
            all_goals first | (show (_ : Nat) < _; omega) | exact ⟨i + 1, by omega, rfl, by go_num, HT6⟩
          · have hi3 : ¬ (i : Int) < (nw : Int) := by omega
            obtain rfl : i = nw := by omega
            go_wp2_with fail
            go_end0
            refine ⟨rfl, ?_⟩
            have h := Hst.out.2
            rw [← Hnw.out, List.take_length] at h
            rw [Hσ1.out]
            exact h

end Go.Proofs.Ybulkbopq
