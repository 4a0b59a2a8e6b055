/-
  walkOptions by its contract, at sub-options' layout.
-/
import Derived.Test.YbulkbomyFmtVisit
import Derived.Stop.FmtLaws
import Derived.Stop.CallBack
import Derived.Stop.IfaceNil
namespace Go.Proofs.YbulkbomyFmt
open Go.RowKit Go.Extern.Stop Go.Stop Go.Extern

theorem visit_any (w : World) (bx b base c pb po pcap : Nat) (d : List Int) (es : List (Int × List Int)) (hc : c < 256) (hbx : bx ≠ b) (hbxb : bx < base) (hbb : b < base) (hbase : base ≤ w.heap.size)
    (hbox : w.cell? ⟨bx, 0, none⟩ = some (.map (some b))) (h : Dec w base b es) (hd : ∀ j, j < d.length → w.cell? ⟨pb, po + j, none⟩ = some (.int .u8 (d.getD j 0)))
    (hlen : (Pl.vals es c).length + d.length ≤ 1099511627776) (m : Nat) (hm : d.length = m) :
    Calls Ybaf.prog 22 #[.int .u8 c, .slice (some ⟨pb, po, none⟩) m pcap, .pointer (some ⟨bx, 0, none⟩)] w fun e w' => e = .returned (.tuple #[]) ∧ Dec w' base b (es ++ [((c : Int), d)]) ∧ KeptBut base b w w' := by
  subst hm
  cases hs : Pl.seen es c with
  | true => exact visit_seen w bx b base c pb po pcap d es hc hbx hbxb hbb hbase hbox h hd hlen hs
  | false => exact visit_unseen w bx b base c pb po pcap d es hc hbx hbxb hbb hbase hbox h hd (by omega) hs

theorem Ybaf.call23 (args : Array Value) (w : World) : (callFunc 23 args).run Ybaf.prog w = ((FmtStop.sprintf #[9, 63] #[9] args).run Ybaf.prog w).andThen fun v w' => .ok (.value v) w' :=
  run_callFunc_extern Ybaf.func23 (by kernel_rfl) (by kernel_rfl) (by kernel_rfl) (by kernel_rfl) args w
theorem Ybaf.guard' (name : String) (w : World) : (FmtStop.guard name).run Ybaf.prog w = .ok () w := by kernel_rfl
theorem Ybaf.spr1 : FmtStop.printed? ⟨#[37, 115, 32, 37, 100, 32, 104, 97, 115, 32, 110, 111, 32, 108, 101, 110, 103, 116, 104, 32, 98, 121, 116, 101]⟩ 2 = some [(0, 115, false), (1, 100, false)] := by kernel_rfl
theorem Ybaf.spr2 : FmtStop.printed? ⟨#[37, 115, 32, 37, 100, 32, 115, 97, 121, 115, 32, 37, 100, 32, 98, 121, 116, 101, 115, 32, 98, 117, 116, 32, 37, 100, 32, 102, 111, 108, 108, 111, 119]⟩ 4 = some [(0, 115, false), (1, 100, false), (2, 100, false), (3, 100, false)] := by kernel_rfl
def Ybaf.shp9 : List UInt8 := [12, 6, 0, 0, 0, 0, 0, 0, 0, 115, 116, 114, 105, 110, 103]
def Ybaf.shp3 : List UInt8 := [5, 3, 0, 0, 0, 0, 0, 0, 0, 105, 110, 116]
def Ybaf.shp5 : List UInt8 := [6, 5, 0, 0, 0, 0, 0, 0, 0, 117, 105, 110, 116, 56]
theorem Ybaf.op9_115 (name : String) (x : ByteArray) (w : World) : (FmtStop.operand name false 115 false (.iface 9 (.string x))).run Ybaf.prog w = .ok (Ybaf.shp9, FmtStop.pack x.data.toList) w := by kernel_rfl
theorem Ybaf.op5_100 (name : String) (x : Int) (w : World) : (FmtStop.operand name false 100 false (.iface 5 (.int .u8 x))).run Ybaf.prog w = .ok (Ybaf.shp5, digits 8 (x % 18446744073709551616).toNat) w := by kernel_rfl
theorem Ybaf.op3_100 (name : String) (x : Int) (w : World) : (FmtStop.operand name false 100 false (.iface 3 (.int .i64 x))).run Ybaf.prog w = .ok (Ybaf.shp3, digits 8 (x % 18446744073709551616).toNat) w := by kernel_rfl

theorem err_end {b : Nat} {w wr : World} (h : Below b w wr) (hb : b ≤ wr.heap.size) (o : Obj) (i : Nat) (v : Value) :
    Below b w ((wr.alloc o).alloc (.cells #[.int .i64 i, v] 42)).drew ∧ ((wr.alloc o).alloc (.cells #[.int .i64 i, v] 42)).drew.cell? ⟨wr.heap.size + 1, 0, none⟩ = some (.int .i64 i) :=
  ⟨((h.alloc hb o).alloc (by simp; omega) _).drew, by simp⟩

set_option maxRecDepth 100000 in
set_option maxHeartbeats 400000 in
theorem walk_some (w : World) (pb po cap bx b : Nat) (bs : List Int) (s : ByteArray) (hlen : 0 < bs.length) (hmax : bs.length ≤ 1048576) (hcap : bs.length ≤ cap) (hcm : cap ≤ maxLen) (hbytes : ∀ x ∈ bs, 0 ≤ x ∧ x ≤ 255)
    (hcell : ∀ j, j < bs.length → w.cell? ⟨pb, po + j, none⟩ = some (.int .u8 (bs.getD j 0))) (hmap : MapIs w .u8 b (fun _ => none) 0) (hbx : bx ≠ b) (hbox : w.cell? ⟨bx, 0, none⟩ = some (.map (some b))) :
    Calls Ybaf.prog 21 #[.slice (some ⟨pb, po, none⟩) bs.length cap, .int .i64 0, .agg #[.bool false, .string s], .func (.func 22) #[] #[.pointer (some ⟨bx, 0, none⟩)]] w fun e w' => Below b w w' ∧
      (((Pl.all bs).2.2 = true ∧ e = .returned .nilIface ∧ Dec w' (w.heap.size + 1) b (Pl.all bs).1) ∨ ((Pl.all bs).2.2 = false ∧ ∃ p, e = .returned (.iface 39 (.pointer (some ⟨p, 0, none⟩))) ∧ w'.cell? ⟨p, 0, none⟩ = some (.int .i64 (Pl.all bs).2.1))) := by
  unfold maxLen at hcm
  go_enter Ybaf.func21, Ybaf.ntmps21
  go_wp2_with fail
  have hb0 : b < w.heap.size := hmap.lt
  have hbx0 : bx < w.heap.size := block_lt_of_cell hbox
  have hpb : pb < w.heap.size := block_lt_of_cell (hcell 0 hlen)
  have hpbb : pb ≠ b := by
    intro e
    obtain ⟨es, clock, hh, _⟩ := hmap
    have := hcell 0 hlen
    subst e
    simp [World.cell?, hh] at this
  have hW : Below w.heap.size w (w.alloc (.cells #[.bool false, .string s] 61)) := (Below.refl _ w).alloc (Nat.le_refl _) _
  have hsz : (w.alloc (.cells #[.bool false, .string s] 61)).heap.size = w.heap.size + 1 := by simp
  have hdec : Dec (w.alloc (.cells #[.bool false, .string s] 61)) (w.heap.size + 1) b [] :=
    ⟨fun _ => none, fun _ => .slice none 0 0, hmap.of_block (hW.block b hb0), Fam.zero _ _ _, fun _ _ => rfl⟩
  have hl0 : (w.alloc (.cells #[.bool false, .string s] 61)).cell? ⟨w.heap.size, 0, none⟩ = some (.bool false) := by simp
  have hl1 : (w.alloc (.cells #[.bool false, .string s] 61)).cell? ⟨w.heap.size, 1, none⟩ = some (.string s) := by simp
  generalize hWW : w.alloc (.cells #[.bool false, .string s] 61) = W at *
  clear hWW
  go_loopw [9] (fun iv wr => ∃ i es, Pl.At bs i es ∧ iv = .int .i64 (i : Nat) ∧ Dec wr (w.heap.size + 1) b es ∧ KeptBut (w.heap.size + 1) b W wr) (fun iv _ => bs.length - (intOf iv).toNat)
  case atStart => exact ⟨0, [], Pl.At.start bs, rfl, hdec, Below.refl _ _, fun _ _ _ => rfl⟩
  case round =>
    obtain ⟨i, es, hat, rfl, hd, hkb⟩ := hrel
    have hile := hat.1
    have hbel : Below b w wr := (hW.mono (Nat.le_of_lt hb0)).trans hkb.1
    have hbs : b ≤ wr.heap.size := by have := hbel.size; omega
    have hws : w.heap.size + 1 ≤ wr.heap.size := by have := hkb.1.size; omega
    by_cases hlt : i < bs.length
    · have hi : (i : Int) < (bs.length : Int) := by omega
      have cellr : ∀ j, j < bs.length → wr.cell? ⟨pb, po + j, none⟩ = some (.int .u8 (bs.getD j 0)) := fun j hj => by
        rw [World.cell?_of_block (w := W) (hkb.2 pb (by omega) hpbb), hW.cell hpb]
        exact hcell j hj
      have g1 := cellr i hlt
      have gl0 : wr.cell? ⟨w.heap.size, 0, none⟩ = some (.bool false) := by rw [World.cell?_of_block (w := W) (hkb.2 w.heap.size (by omega) (by omega))]; exact hl0
      have gl1 : wr.cell? ⟨w.heap.size, 1, none⟩ = some (.string s) := by rw [World.cell?_of_block (w := W) (hkb.2 w.heap.size (by omega) (by omega))]; exact hl1
      have c23 := Ybaf.call23
      have gd := Ybaf.guard'
      have o9 := Ybaf.op9_115
      have o5 := Ybaf.op5_100
      have o3 := Ybaf.op3_100
      have s1 := Ybaf.spr1
      have s2 := Ybaf.spr2
      by_cases hend : i + 1 = bs.length
      · have he : ((i : Int) + 1 == (bs.length : Int)) = true := by rw [beq_iff_eq]; omega
        have Hall : Hid (Pl.all bs = (es, i, false)) := hat.stray hend
        clear hat hd hcell cellr hbytes hmap hkb hdec
        go_wp2
        go_ret
        refine ⟨(err_end hbel hbs _ _ _).1, .inr ⟨by rw [Hall.out], _, rfl, ?_⟩⟩
        rw [Hall.out]
        exact (err_end hbel hbs _ _ _).2
      · have he : ((i : Int) + 1 == (bs.length : Int)) = false := by rw [beq_eq_false_iff_ne]; omega
        have hi1 : (i : Int) + 1 < (bs.length : Int) := by omega
        have g2 := cellr (i + 1) (by omega)
        have hi10 : (0 : Int) ≤ (i : Int) + 1 := by omega
        have htn : ((i : Int) + 1).toNat = i + 1 := by omega
        have hx := hbytes (bs.getD (i + 1) 0) (by rw [List.getD_eq_getElem?_getD, List.getElem?_eq_getElem (by omega)]; exact List.getElem_mem _)
        have hc0 := hbytes (bs.getD i 0) (by rw [List.getD_eq_getElem?_getD, List.getElem?_eq_getElem (by omega)]; exact List.getElem_mem _)
        obtain ⟨l, hl⟩ := Int.eq_ofNat_of_zero_le hx.1
        obtain ⟨c, hc⟩ := Int.eq_ofNat_of_zero_le hc0.1
        rw [hl] at g2 hx
        rw [hc] at g1 hc0
        have hl255 : l ≤ 255 := by omega
        have hl255' : (l : Int) ≤ 255 := by omega
        by_cases hfit : i + 2 + l ≤ bs.length
        · have hnot : ¬ (bs.length : Int) < (i : Int) + 2 + (l : Int) := by omega
          have hstep := hat.step (by omega) (by rw [hl]; exact hfit)
          rw [hl, hc] at hstep
          have Hstep : Hid (Pl.At bs (i + 2 + l) (es ++ [((c : Int), (bs.drop (i + 2)).take l)])) := hstep
          have Hat : Hid (Pl.At bs i es) := hat
          have Hhl : Hid (bs.getD (i + 1) 0 = (l : Nat)) := hl
          have Hhc : Hid (bs.getD i 0 = (c : Nat)) := hc
          have Hcell : Hid (∀ j, j < bs.length → wr.cell? ⟨pb, po + j, none⟩ = some (.int .u8 (bs.getD j 0))) := cellr
          clear hstep hat hcell hbytes hdec hl hc cellr
          have hdl : ((bs.drop (i + 2)).take l).length = l := by rw [List.length_take, List.length_drop]; omega
          have Hdl : Hid (((bs.drop (i + 2)).take l).length = l) := hdl
          clear hdl
          have hboxr : wr.cell? ⟨bx, 0, none⟩ = some (.map (some b)) := by rw [World.cell?_of_block (w := W) (hkb.2 bx (by omega) hbx), hW.cell hbx0]; exact hbox
          have hvl : (Pl.vals es c).length + l ≤ 1099511627776 := by
            have h1 := Pl.vals_length es c
            obtain ⟨_, f, _, _, h2⟩ := Hat.out
            omega
          by_cases hcl : cap = i + 2
          · have hl00 : Hid (l = 0) := by show l = 0; omega
            have hcl' : i + 2 = cap := hcl.symm
            clear hcl
            go_wp2_with fail
            go_quiet (fail)
            go_wp2_with fail
            refine (visit_any (wr.drewN nq) bx b (w.heap.size + 1) c pb po _ _ es (by omega) hbx (by omega) (by omega) hws hboxr hd (fun j hj => by rw [Hdl.out, hl00.out] at hj; omega) (by rw [Hdl.out]; exact hvl) l Hdl.out).mono ?_
            rintro e w1 ⟨rfl, hd1, hkb1⟩
            go_wp2_with fail
            exact ⟨⟨_, _, Hstep.out, by go_num, hd1, (below_drewN hkb.1 nq).trans hkb1.1, fun g hg hne => (hkb1.2 g hg hne).trans (hkb.2 g hg hne)⟩, by simp [intOf]; omega⟩
          · go_wp2_with fail
            go_quiet (fail)
            go_wp2_with fail
            refine (visit_any (wr.drewN nq) bx b (w.heap.size + 1) c pb (po + (i + 2)) _ ((bs.drop (i + 2)).take l) es (by omega) hbx (by omega) (by omega) hws hboxr hd (fun j hj => by
              rw [Hdl.out] at hj
              have := Hcell.out (i + 2 + j) (by omega)
              rw [List.getD_eq_getElem?_getD, List.getElem?_take, if_pos hj, List.getElem?_drop, ← List.getD_eq_getElem?_getD, Nat.add_assoc]
              exact this) (by rw [Hdl.out]; exact hvl) l Hdl.out).mono ?_
            rintro e w1 ⟨rfl, hd1, hkb1⟩
            go_wp2_with fail
            exact ⟨⟨_, _, Hstep.out, by go_num, hd1, (below_drewN hkb.1 nq).trans hkb1.1, fun g hg hne => (hkb1.2 g hg hne).trans (hkb.2 g hg hne)⟩, by simp [intOf]; omega⟩
        · have hnot : (bs.length : Int) < (i : Int) + 2 + (l : Int) := by omega
          have Hall : Hid (Pl.all bs = (es, i, false)) := hat.short (by omega) (by rw [hl]; simpa using hfit)
          clear hat hd hcell cellr hbytes hmap hkb hdec hl hc
          go_wp2_with fail
          go_quiet (fail)
          have hbel1 : Below b w (wr.drewN nq) := below_drewN hbel nq
          have hbs1 : b ≤ (wr.drewN nq).heap.size := hbs
          have gl1' : (wr.drewN nq).cell? ⟨w.heap.size, 1, none⟩ = some (.string s) := gl1
          generalize wr.drewN nq = w1 at *
          go_wp2
          go_ret
          refine ⟨(err_end hbel1 hbs1 _ _ _).1, .inr ⟨by rw [Hall.out], _, rfl, ?_⟩⟩
          rw [Hall.out]
          exact (err_end hbel1 hbs1 _ _ _).2
    · have Hall : Hid (Pl.all bs = (es, i, true)) := hat.fin (by omega)
      clear hat hcell hbytes hmap hdec
      go_wp2
      go_ret
      refine ⟨hbel, .inl ⟨by rw [Hall.out], rfl, ?_⟩⟩
      rw [Hall.out]
      exact hd

end Go.Proofs.YbulkbomyFmt
