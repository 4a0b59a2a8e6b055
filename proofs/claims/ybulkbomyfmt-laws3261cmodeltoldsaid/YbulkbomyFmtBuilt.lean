/-
  LawS3261CBuilt: the walk.
-/
import Derived.Test.YbulkbomyFmtRound
import Derived.OwnWalk
namespace Go.Proofs.YbulkbomyFmt
open Go.RowKit

/-- What the walk is told of the sub-options that came in. -/
structure Subs (w : World) (sb so n : Nat) (code : Nat → Nat) (da : Nat → Option Addr) (dc : Nat → Nat) (xs : Nat → List Int) : Prop where
  code : ∀ k, k < n → code k < 256 ∧ w.cell? ⟨sb, so + k * 2, none⟩ = some (.int .u8 (code k))
  data : ∀ k, k < n → w.cell? ⟨sb, so + k * 2 + 1, none⟩ = some (.slice (da k) (xs k).length (dc k)) ∧ (xs k).length ≤ dc k ∧ dc k ≤ maxLen
  src : ∀ k, k < n → Src w w.heap.size (da k) (xs k)
  byte : ∀ k, k < n → ∀ x ∈ xs k, 0 ≤ x ∧ x ≤ 255

theorem Src.take {w : World} {B : Nat} {a : Option Addr} {d : List Int} (h : Src w B a d) (n : Nat) : Src w B a (d.take n) := fun h0 => by
  rw [List.length_take] at h0
  obtain ⟨b, o, e, hb, hc⟩ := h (by omega)
  refine ⟨b, o, e, hb, fun j hj => ?_⟩
  rw [List.length_take] at hj
  rw [hc j (by omega), List.getD_eq_getElem?_getD, List.getD_eq_getElem?_getD, List.getElem?_take, if_pos (by omega)]

theorem Owns.full {w : World} {base : Nat} {v : Value} {xs : List Int} (h : Owns w base v xs) :
    ∃ a cap, v = .slice a xs.length cap ∧ xs.length ≤ cap ∧ cap ≤ maxLen ∧ (0 < xs.length → ∃ b o, a = some ⟨b, o, none⟩ ∧ ∀ j, j < xs.length → w.cell? ⟨b, o + j, none⟩ = some (.int .u8 (xs.getD j 0))) := by
  obtain ⟨a, cap, e, hm, hc⟩ := h.bytes
  subst e
  refine ⟨a, cap, rfl, ?_, ?_, hc⟩
  · rcases h.2 with ⟨h1, h2⟩ | ⟨g, cap', cur, h1, _, _, h2, _⟩
    · omega
    · cases h1; exact h2
  · rcases h.2 with ⟨h1, h2⟩ | ⟨g, cap', cur, h1, _, _, _, h2, _⟩
    · simp only [Value.slice.injEq] at h1; omega
    · cases h1; exact h2

theorem neqNil31 (w : World) : (binOp .neq 31 (.map none) (.map none)).run Ybaf.prog w = .ok (.bool false) w := by kernel_rfl
theorem assert39 (v : Value) (w : World) : (Instr.typeAssert (.iface 39 v) 25 39 true).run Ybaf.prog w = .ok (.tuple #[v, .bool true]) w := by kernel_rfl

theorem decode_len (m : Nat) (w : World) (a : Option Addr) (cap : Nat) (bs : List Int) (s : ByteArray) (hm : bs.length = m) (hmax : bs.length ≤ 1048576) (hcap : bs.length ≤ cap) (hcm : cap ≤ maxLen) (hbytes : ∀ x ∈ bs, 0 ≤ x ∧ x ≤ 255)
    (hcell : 0 < bs.length → ∃ pb po, a = some ⟨pb, po, none⟩ ∧ ∀ j, j < bs.length → w.cell? ⟨pb, po + j, none⟩ = some (.int .u8 (bs.getD j 0)))
    (hg0 : w.cell? ⟨1, 0, none⟩ = some (.bool false)) (hg1 : w.cell? ⟨1, 1, none⟩ = some (.string s)) :
    Calls Ybaf.prog 11 #[.slice a m cap] w fun e w' => Below w.heap.size w w' ∧
      (((Pl.all bs).2.2 = true ∧ e = .returned (.tuple #[.map (some w.heap.size), .nilIface]) ∧ ∃ base, Dec w' base w.heap.size (Pl.all bs).1) ∨
       ((Pl.all bs).2.2 = false ∧ ∃ p, e = .returned (.tuple #[.map none, .iface 39 (.pointer (some ⟨p, 0, none⟩))]) ∧ w'.cell? ⟨p, 0, none⟩ = some (.int .i64 (Pl.all bs).2.1))) := by
  subst hm
  exact decode_any w a cap bs s hmax hcap hcm hbytes hcell hg0 hg1

set_option maxRecDepth 100000 in
set_option maxHeartbeats 400000 in
theorem built_some (w : World) (a : Option Addr) (sb so n cap : Nat) (ha : 0 < n → a = some ⟨sb, so, none⟩) (hn : n ≤ 512) (hcap : n ≤ cap) (tl : Bool) (tb : Int) (ht0 : 0 ≤ tb) (ht1 : tb ≤ 255) (code : Nat → Nat) (da : Nat → Option Addr) (dc : Nat → Nat) (xs : Nat → List Int) (hS : Subs w sb so n code da dc xs) (s : ByteArray)
    (hg0 : w.cell? ⟨1, 0, none⟩ = some (.bool false)) (hg1 : w.cell? ⟨1, 1, none⟩ = some (.string s)) :
    Calls Ybaf.prog 6 #[.slice a n cap, .bool tl, .int .u8 tb] w fun e w' => e = .returned (.bool true) ∧ Below w.heap.size w w' := by
  have hn' : ¬ (512 : Int) < (n : Int) := by omega
  have z34 := zero34
  have z35 := zero35
  have Ha : Hid (0 < n → a = some ⟨sb, so, none⟩) := ha
  clear ha
  go_enter Ybaf.func6, Ybaf.ntmps6
  go_wp2_with fail
  have hst : St w ((w.alloc (.cells zV 34)).alloc (.cells zS 35)) w.heap.size (fun _ => .slice none 0 0) (ents code xs 0) := by
    refine ⟨(Fam.zero _ _ _).congr fun i hi => by simp [xsOf, ents, Pl.vals, Pl.enc], ?_, ?_, ((Below.refl _ w).alloc (Nat.le_refl _) _).alloc (by simp) _, by simp⟩
    · exact (Arr.made w _ 34).of_block (Below.heap_alloc _ _ _ (by simp))
    · have := Arr.made (w.alloc (.cells zV 34)) (.bool false) 35
      rw [World.size_alloc] at this
      exact this
  generalize (w.alloc (.cells zV 34)).alloc (.cells zS 35) = W at *
  go_loopw [7, 10, 11] (fun bufv cntv kv wr => ∃ k vs, k ≤ n ∧ kv = .int .i64 (k : Nat) ∧ cntv = .int .i64 (Pl.cnt (ents code xs k) : Nat) ∧ bufv = vs 256 ∧ St w wr w.heap.size vs (ents code xs k)) (fun _ _ kv _ => n - (intOf kv).toNat)
  case atStart => exact ⟨0, _, Nat.zero_le _, rfl, rfl, rfl, hst⟩
  case round =>
    obtain ⟨k, vs, hk, rfl, rfl, rfl, hst⟩ := hrel
    have hbel := hst.2.2.2.1
    by_cases hlt : k < n
    · have hi : (k : Int) < (n : Int) := by omega
      obtain rfl := Ha.out (by omega)
      have hsb : sb < w.heap.size := block_lt_of_cell (hS.code k hlt).2
      have hc1 := hS.code k hlt
      have hd1 := hS.data k hlt
      have g1 : wr.cell? ⟨sb, so + k * 2, none⟩ = some (.int .u8 (code k)) := by rw [hbel.cell hsb]; exact hc1.2
      have g2 : wr.cell? ⟨sb, so + k * 2 + 1, none⟩ = some (.slice (da k) (xs k).length (dc k)) := by rw [hbel.cell hsb]; exact hd1.1
      have hel := ents_len code xs k
      have hlt255 : ((xs k).take 255).length ≤ 255 := List.length_take_le _ _
      obtain ⟨v1, w2, v2, w3, av, nv, cv, w5, e1, e2, c3, f3, c4, e3, c5, f5, vs', hv2, hst'⟩ := round_built w wr w.heap.size vs _ hst (code k) hc1.1 (da k) (dc k) ((xs k).take 255) ((hS.src k hlt).take 255) (by omega)
      rw [← ents_succ code xs k] at hst'
      have hcnt := Pl.cnt_snoc (ents code xs k) (code k) ((xs k).take 255)
      rw [← ents_succ code xs k] at hcnt
      have Hst' : Hid (St w (w5.setCell ⟨w.heap.size, code k, none⟩ (.slice av nv cv)) w.heap.size vs' (ents code xs (k + 1))) := hst'
      have Hv2 : Hid (vs' 256 = v2) := hv2
      have hcode : ((code k : Nat) : Int) < 256 := by have := hc1.1; omega
      have hcb : (Pl.cnt (ents code xs k) : Int) ≤ 512 := by
        have h1 := Pl.cnt_le (ents code xs k)
        have h2 : (ents code xs k).length = k := by simp [ents]
        omega
      have hdc : (xs k).length ≤ dc k := hd1.2.1
      have hdm : dc k ≤ maxLen := hd1.2.2
      unfold maxLen at hdm
      have Hrest : Hid (St w wr w.heap.size vs (ents code xs k)) := hst
      clear hst' hv2 hst hd1 hc1 hlt255
      have fin : ∀ cn : Int, cn = (Pl.cnt (ents code xs k) : Int) + (if Pl.seen (ents code xs k) (code k) then 0 else 1) → cn = ((Pl.cnt (ents code xs (k + 1)) : Nat) : Int) := by
        intro cn h
        rw [hcnt, h]
        split <;> simp
      have Fin : Hid (∀ cn : Int, cn = (Pl.cnt (ents code xs k) : Int) + (if Pl.seen (ents code xs k) (code k) then 0 else 1) → cn = ((Pl.cnt (ents code xs (k + 1)) : Nat) : Int)) := fin
      clear fin hcnt
      by_cases h255 : (xs k).length ≤ 255
      · have h255' : ¬ (255 : Int) < ((xs k).length : Int) := by omega
        rw [List.take_of_length_le h255] at e1 e2 e3
        cases hs : Pl.seen (ents code xs k) (code k) with
        | true =>
          rw [hs] at c3 c4 e3 Fin
          simp only [if_true] at c4 e3
          clear hs
          go_wp2_with (first | (at_builtin; refine wpList_append_eq rfl _ _ 22 rfl _ _ v1 rfl rfl e1 ?_) | (at_builtin; refine wpList_append_eq rfl _ _ 22 rfl _ _ v2 rfl rfl e2 ?_) | (at_builtin; refine wpList_append_eq rfl _ _ 22 rfl _ _ (.slice av nv cv) rfl rfl e3 ?_))
          exact ⟨⟨k + 1, vs', by omega, by go_num, by rw [← Fin.out _ rfl]; simp, Hv2.out.symm, Hst'.out⟩, by simp [intOf]; omega⟩
        | false =>
          rw [hs] at c3 c4 e3 Fin
          simp only [Bool.false_eq_true, if_false] at c4 e3
          clear hs
          go_wp2_with (first | (at_builtin; refine wpList_append_eq rfl _ _ 22 rfl _ _ v1 rfl rfl e1 ?_) | (at_builtin; refine wpList_append_eq rfl _ _ 22 rfl _ _ v2 rfl rfl e2 ?_) | (at_builtin; refine wpList_append_eq rfl _ _ 22 rfl _ _ (.slice av nv cv) rfl rfl e3 ?_))
          exact ⟨⟨k + 1, vs', by omega, by go_num, by rw [← Fin.out _ rfl]; simp, Hv2.out.symm, Hst'.out⟩, by simp [intOf]; omega⟩
      · have h255' : (255 : Int) < ((xs k).length : Int) := by omega
        have hdl : ((xs k).take 255).length = 255 := by rw [List.length_take]; omega
        rw [hdl] at e1 e2 e3
        rw [show ((255 : Nat) : Int) = 255 from rfl] at e1
        have h255c : (255 : Int) ≤ (dc k : Int) := by omega
        clear hdl
        cases hs : Pl.seen (ents code xs k) (code k) with
        | true =>
          rw [hs] at c3 c4 e3 Fin
          simp only [if_true] at c4 e3
          clear hs
          go_wp2_with (first | (at_builtin; refine wpList_append_eq rfl _ _ 22 rfl _ _ v1 rfl rfl e1 ?_) | (at_builtin; refine wpList_append_eq rfl _ _ 22 rfl _ _ v2 rfl rfl e2 ?_) | (at_builtin; refine wpList_append_eq rfl _ _ 22 rfl _ _ (.slice av nv cv) rfl rfl e3 ?_))
          exact ⟨⟨k + 1, vs', by omega, by go_num, by rw [← Fin.out _ rfl]; simp, Hv2.out.symm, Hst'.out⟩, by simp [intOf]; omega⟩
        | false =>
          rw [hs] at c3 c4 e3 Fin
          simp only [Bool.false_eq_true, if_false] at c4 e3
          clear hs
          go_wp2_with (first | (at_builtin; refine wpList_append_eq rfl _ _ 22 rfl _ _ v1 rfl rfl e1 ?_) | (at_builtin; refine wpList_append_eq rfl _ _ 22 rfl _ _ v2 rfl rfl e2 ?_) | (at_builtin; refine wpList_append_eq rfl _ _ 22 rfl _ _ (.slice av nv cv) rfl rfl e3 ?_))
          exact ⟨⟨k + 1, vs', by omega, by go_num, by rw [← Fin.out _ rfl]; simp, Hv2.out.symm, Hst'.out⟩, by simp [intOf]; omega⟩
    · obtain rfl : k = n := by omega
      have hge : ¬ (k : Int) < (k : Int) := by omega
      obtain ⟨hfam, hV, hSn, _, hsz⟩ := hst
      have hbo := hfam.1 256 (by omega)
      have hx256 : xsOf (ents code xs k) 256 = Pl.enc (ents code xs k) := by simp [xsOf]
      rw [hx256] at hbo
      have hel := ents_len code xs k
      have hby := ents_bytes code xs k (fun j hj => (hS.code j hj).1) hS.byte k (Nat.le_refl _)
      obtain ⟨ba, bc, hbv, hble, hbm, hbc⟩ := hbo.full
      have hg0r : wr.cell? ⟨1, 0, none⟩ = some (.bool false) := by rw [hbel.cell (block_lt_of_cell hg0)]; exact hg0
      have hg1r : wr.cell? ⟨1, 1, none⟩ = some (.string s) := by rw [hbel.cell (block_lt_of_cell hg1)]; exact hg1
      have hel' : ((Pl.enc (ents code xs k)).length : Int) ≤ 131584 := by omega
      cases tl with
      | false =>
        have hall := Pl.all_enc (ents code xs k) [] (by simp)
        rw [List.append_nil] at hall
        have hcnt := (Pl.cnt (ents code xs k))
        generalize hE : ents code xs k = E at *
        clear hE hcnt
        have Hall : Hid (Pl.all (Pl.enc E) = (E, (Pl.enc E).length, [].isEmpty (α := Int))) := hall
        clear hall hx256 hbo
        go_wp2_with fail
        refine (decode_any wr ba bc (Pl.enc E) s (by omega) hble hbm hby hbc hg0r hg1r).mono ?_
        rintro e w1 ⟨hb1, h1⟩
        rcases h1 with ⟨h1, rfl, base, hdec⟩ | ⟨h1, _⟩
        · rw [Hall.out] at hdec
          have hB : Below w.heap.size w w1 := hbel.trans (hb1.mono (by omega))
          have hV1 := hV.of_block (hb1.block _ (by omega))
          have hS1 := hSn.of_block (hb1.block (w.heap.size + 1) (by omega))
          have hY : ∀ c : Nat, c < 256 → Bytes w1 (vs c) (Pl.vals E c) := fun c hc => by
            have ho := hfam.1 c (by omega)
            have := ho.of_heap (w' := w1) (fun g hg => hb1.block g (ho.own_lt hg).2)
            rw [show xsOf E c = Pl.vals E c by simp [xsOf, hc]] at this
            exact this.bytes
          clear hfam hV hSn hbc hby hb1 h1
          go_wp2_with fail
          refine (match_yes w1 wr.heap.size base w.heap.size (w.heap.size + 1) E vs hdec (fun c hc => hS1.cell hc) (fun c hc => hV1.cell hc) hY).mono ?_
          rintro e w' ⟨rfl, nq, rfl⟩
          go_wp2
          go_ret
          exact ⟨rfl, below_drewN hB nq⟩
        · rw [Hall.out] at h1
          cases h1
      | true =>
        have hall := Pl.all_enc (ents code xs k) [tb] (by simp)
        generalize hE : ents code xs k = E at *
        clear hE
        have Hall : Hid (Pl.all (Pl.enc E ++ [tb]) = (E, (Pl.enc E).length, [tb].isEmpty)) := hall
        clear hall hx256
        have hW1 : Owns (wr.alloc (.cells #[.int .u8 tb] 5)) (w.heap.size + 2) (vs 256) (Pl.enc E) := hbo.of_heap (fun g hg => Below.heap_alloc _ _ _ (hbo.own_lt hg).2)
        obtain ⟨v1, w2, e1, ho1, hg1', _⟩ := hW1.append (some ⟨wr.heap.size, 0, none⟩) 1 [tb] (fun _ => ⟨_, _, rfl, fun j hj => by
          simp at hj
          subst hj
          simp⟩) (by simp; omega) (by simp; omega) 22
        have hB2 : Below w.heap.size w w2 := (hbel.alloc (by omega) _).grown hg1' (by simp; omega) (fun g hg => by have := (hbo.own_lt hg).1; omega)
        obtain ⟨ba2, bc2, hbv2, hble2, hbm2, hbc2⟩ := ho1.full
        subst hbv2
        rw [show [tb].length = 1 from rfl] at e1
        have hg0r2 : w2.cell? ⟨1, 0, none⟩ = some (.bool false) := by rw [hB2.cell (block_lt_of_cell hg0)]; exact hg0
        have hg1r2 : w2.cell? ⟨1, 1, none⟩ = some (.string s) := by rw [hB2.cell (block_lt_of_cell hg1)]; exact hg1
        clear hW1 hg1' hbo hfam hV hSn ho1 hbc hg0r hg1r
        go_wp2_with (at_builtin; refine wpList_append_eq rfl _ _ 22 rfl _ _ (.slice ba2 (Pl.enc E ++ [tb]).length bc2) rfl rfl e1 ?_)
        refine (decode_len ((Pl.enc E).length + 1) w2 ba2 bc2 (Pl.enc E ++ [tb]) s (by simp) (by simp; omega) hble2 hbm2 (fun x hx => by
          rcases List.mem_append.1 hx with h | h
          · exact hby x h
          · simp at h; subst h; exact ⟨ht0, ht1⟩) hbc2 hg0r2 hg1r2).mono ?_
        rintro e w3 ⟨hb3, h3⟩
        rcases h3 with ⟨h3, _⟩ | ⟨h3, p, rfl, hp⟩
        · rw [Hall.out] at h3
          cases h3
        · rw [Hall.out] at hp
          have hB : Below w.heap.size w w3 := hB2.trans (hb3.mono (by have := hB2.size; omega))
          clear hbc2 hby hb3 h3
          simp only at hp
          have nn := neqNil31
          have as39 := assert39
          go_wp2
          go_ret
          exact ⟨rfl, hB⟩

theorem built_long (w : World) (a : Option Addr) (n cap : Nat) (v1 v2 : Value) (hn : 512 < n) : Calls Ybaf.prog 6 #[.slice a n cap, v1, v2] w fun e w' => e = .returned (.bool true) ∧ Below w.heap.size w w' := by
  have hn' : (512 : Int) < (n : Int) := by omega
  go_enter Ybaf.func6, Ybaf.ntmps6
  go_wp2
  go_ret
  exact ⟨rfl, Below.refl _ _⟩

end Go.Proofs.YbulkbomyFmt
