/-
  LawS3266CTake: it returns true.
-/
import Derived.Test.YbulkbopqTStart
import Derived.Test.YbulkbopqTTake
import Derived.Test.YbulkbopqTStep
import Derived.Test.YbulkbopqTSrc
import Derived.Test.YbulkbopqTFin
namespace Go.Proofs.Ybulkbopq
open Go.RowKit Go.Sort

attribute [local go_sem ↓] hideOp_eq

set_option maxRecDepth 100000 in
set_option maxHeartbeats 40000000 in
theorem law_walk (w : World) (aR aW : Option Addr) (lR cR lW cW : Nat) (fo pre : Bool) (q : Nat) (xr xw : List (Nat × Nat × Nat)) (hR : SrcT w aR lR xr) (hW : SrcT w aW lW xw) (_hq : q < 18446744073709551616) :
    Calls Yba.prog 7 #[.slice aR lR cR, .slice aW lW cW, .bool fo, .bool pre, .int .u64 (q : Nat)] w fun e w' => e = .returned (.bool true) ∧ Below w.heap.size w w' := by
  by_cases hlr : lR ≤ 1024
  · by_cases hlw : lW ≤ 1024
    · have hlr' : ¬ (1024 : Int) < (lR : Int) := by omega
      have hlw' : ¬ (1024 : Int) < (lW : Int) := by omega
      have hmm : ∀ w : World, (Instr.makeMap 84 none).run Yba.prog w = .ok (.map (some w.heap.size)) (w.alloc (.map #[] 0)) := fun _ => by kernel_rfl
      obtain ⟨B, hBs⟩ : ∃ B, w.heap.size = B := ⟨_, rfl⟩
      go_enter Yba.func7, Yba.ntmps7
      go_wp2_with fail
      have hL0 := Lm.start w B hBs (((((((w.alloc (.cells z78 78)).alloc (.cells z78 78)).alloc (.cells z78 78)).alloc (.cells #[.pointer (some ⟨B, 0, none⟩), .pointer none, .pointer (some ⟨B + 1, 0, none⟩), .pointer none, .pointer (some ⟨B + 1 + 1, 0, none⟩), .pointer none] 82)).alloc (.map #[] 0)).alloc
        (.cells #[.int .i32 0, .int .u32 0, .int .u64 0, .int .u64 0, .slice none 0 0, .slice none 0 0, .map (some (B + 1 + 1 + 1 + 1))] 88))) rfl rfl rfl rfl
      unfold z78 at hL0
      generalize (((((((w.alloc (.cells #[.string ⟨#[]⟩, .slice none 0 0, .int .i64 0, .pointer none, .int .u32 0, .pointer none, .int .i32 0, .int .u32 0, .pointer none, .pointer none, .int .u32 0, .int .i32 0, .int .u32 0, .int .u32 0, .bool false] 78)).alloc (.cells #[.string ⟨#[]⟩, .slice none 0 0, .int .i64 0, .pointer none, .int .u32 0, .pointer none, .int .i32 0, .int .u32 0, .pointer none, .pointer none, .int .u32 0, .int .i32 0, .int .u32 0, .int .u32 0, .bool false] 78)).alloc (.cells #[.string ⟨#[]⟩, .slice none 0 0, .int .i64 0, .pointer none, .int .u32 0, .pointer none, .int .i32 0, .int .u32 0, .pointer none, .pointer none, .int .u32 0, .int .i32 0, .int .u32 0, .int .u32 0, .bool false] 78)).alloc (.cells #[.pointer (some ⟨B, 0, none⟩), .pointer none, .pointer (some ⟨B + 1, 0, none⟩), .pointer none, .pointer (some ⟨B + 1 + 1, 0, none⟩), .pointer none] 82)).alloc (.map #[] 0)).alloc
        (.cells #[.int .i32 0, .int .u32 0, .int .u64 0, .int .u64 0, .slice none 0 0, .slice none 0 0, .map (some (B + 1 + 1 + 1 + 1))] 88))) = W0 at *
      go_loopg [13] 3 (fun gm s13 wr => ∃ i, i ≤ 3 ∧ gm = 3 - i ∧ s13 = .int .i64 (i : Nat) ∧ Hid (Lm w wr B i))
      case atStart => exact ⟨0, by omega, rfl, rfl, hL0⟩
      case round =>
        clear hL0
        obtain ⟨i, hi, rfl, rfl, HL⟩ := hrel
        by_cases hlt : i < 3
        · have hi' : (i : Int) < 3 := by omega
          as_aux_lemma =>
            obtain ⟨Wu, hWu⟩ := Classical.axiomOfChoice (fun n => HL.out.step hlt ((wr.drewN n).alloc (.cells #[.slice none 0 0, .slice none 0 0, .slice none 0 0, .int .u64 0, .slice none 0 0] 93)) rfl rfl rfl rfl)
            have hup : ∀ n, (Instr.mapUpdate 84 (.map (some (B + 1 + 1 + 1 + 1))) (.agg #[.pointer (some ⟨B + i, 0, none⟩), .pointer none]) (.pointer (some ⟨wr.heap.size, 0, none⟩))).run Yba.prog ((wr.drewN n).alloc (.cells #[.slice none 0 0, .slice none 0 0, .slice none 0 0, .int .u64 0, .slice none 0 0] 93)) = .ok () (Wu n) := fun n => (hWu n).1
            have HU : Hid (∀ n, Lm w (Wu n) B (i + 1)) := fun n => (hWu n).2.out
            have k0 : wr.cell? ⟨B + 1 + 1 + 1, i * 2, none⟩ = some (.pointer (some ⟨B + i, 0, none⟩)) := (HL.out.ks i hlt).1
            have k1 : wr.cell? ⟨B + 1 + 1 + 1, i * 2 + 1, none⟩ = some (.pointer none) := (HL.out.ks i hlt).2
            have k2 : wr.cell? ⟨B + 1 + 1 + 1 + 1 + 1, 6, none⟩ = some (.map (some (B + 1 + 1 + 1 + 1))) := HL.out.rsp
            have ga : ∀ n o, Gr wr ((wr.drewN n).alloc o) := fun n o => ((Gr.refl wr).drewN n).alloc o
            have xa0 := fun n o => (ga n o).cell_of k0
            have xa1 := fun n o => (ga n o).cell_of k1
            have xa2 := fun n o => (ga n o).cell_of k2
            have hup1 : (Instr.mapUpdate 84 (.map (some (B + 1 + 1 + 1 + 1))) (.agg #[.pointer (some ⟨B + i, 0, none⟩), .pointer none]) (.pointer (some ⟨wr.heap.size, 0, none⟩))).run Yba.prog (wr.alloc (.cells #[.slice none 0 0, .slice none 0 0, .slice none 0 0, .int .u64 0, .slice none 0 0] 93)).drew = .ok () (Wu 1) := hup 1
            have xb0 := fun o => ((Gr.refl wr).alloc o).cell_of k0
            have xb1 := fun o => ((Gr.refl wr).alloc o).cell_of k1
            have xb2 := fun o => ((Gr.refl wr).alloc o).cell_of k2
            clear hWu ga hR hW
            go_wp2_with fail
            go_region
            all_goals go_wp2_with fail
            all_goals go_roundg (3 - (i + 1))
            all_goals first | (show (_ : Nat) < _; omega) | exact ⟨i + 1, by omega, rfl, by go_num, HU.out _⟩
        · have hi' : ¬ (i : Int) < 3 := by omega
          obtain rfl : i = 3 := by omega
          have hz := zero104
          have hs : wr.heap.size = B + 9 := HL.out.size
          go_wp2_with fail
          obtain ⟨sn, hsn⟩ : ∃ sn, Value.int .u64 (IntKind.u64.wrap ((q : Int) + 1)) = sn := ⟨_, rfl⟩
          rw [hsn]
          have hLs := Ls.start HL.out q fo sn ((((((wr.alloc (.cells #[sn, .int .u64 (q : Nat), .bool false, .pointer none, .slice none 0 0, .slice none 0 0, .slice none 0 0, .slice none 0 0, .int .u64 0, .int .u64 0, .bool false, .bool fo] 98)).alloc (.cells zM 104)).alloc (.cells zM 104)).alloc (.cells zM 104)).alloc
            (.cells #[.bool false, .bool false, .bool false] 105)).alloc (.cells #[.bool false, .bool false, .bool false] 105)) rfl rfl rfl rfl
          generalize ((((((wr.alloc (.cells #[sn, .int .u64 (q : Nat), .bool false, .pointer none, .slice none 0 0, .slice none 0 0, .slice none 0 0, .slice none 0 0, .int .u64 0, .int .u64 0, .bool false, .bool fo] 98)).alloc (.cells zM 104)).alloc (.cells zM 104)).alloc (.cells zM 104)).alloc
            (.cells #[.bool false, .bool false, .bool false] 105)).alloc (.cells #[.bool false, .bool false, .bool false] 105)) = W1 at *
          clear hs hz HL
          go_loopg [74] lR (fun gm s74 wr => ∃ i vr, i ≤ lR ∧ gm = lR - i ∧ s74 = .int .i64 (i : Nat) ∧ Hid (Ls w wr B q fo sn (tr (xr.take i)) [] vr (.slice none 0 0) (modR q (tr (xr.take i))) (fun _ _ => none) (fun _ _ => none) (used (tr (xr.take i))) (used (tr (xr.take i)))))
          case atStart => exact ⟨0, _, by omega, rfl, rfl, hLs⟩
          case round =>
            clear hLs
            obtain ⟨i, vr, hi2, rfl, rfl, HL⟩ := hrel
            by_cases hlt : i < lR
            · have hi3 : (i : Int) < (lR : Int) := by omega
              as_aux_lemma =>
                obtain ⟨⟨sp, k, s⟩, hx⟩ : ∃ x, xr[i]? = some x := ⟨_, List.getElem?_eq_getElem (by rw [hR.1]; exact hlt)⟩
                obtain ⟨pb, po, rfl, hpb, hc⟩ := hR.2.2 (by omega)
                obtain ⟨hsp, hk, hs64⟩ := hR.2.1 _ (List.mem_of_getElem? hx)
                obtain ⟨d0, d1, d2⟩ := hc i _ hx
                have hpb' : pb < B := by omega
                have e0 : wr.cell? ⟨pb, po + i * 3, none⟩ = some (.int .u8 (sp : Nat)) := by rw [HL.out.low.cell hpb']; exact d0
                have e1 : wr.cell? ⟨pb, po + i * 3 + 1, none⟩ = some (.int .u8 (k : Nat)) := by rw [HL.out.low.cell hpb']; exact d1
                have e2 : wr.cell? ⟨pb, po + i * 3 + 2, none⟩ = some (.int .u64 (s : Nat)) := by rw [HL.out.low.cell hpb']; exact d2
                obtain ⟨j, hj⟩ : ∃ j : Nat, (sp : Int) % 3 = (j : Int) := ⟨sp % 3, by omega⟩
                have hj3 : (j : Int) < 3 := by omega
                have hspb : (sp : Int) < 256 := by have : sp < 256 := hsp; omega
                have hjn : j < 3 := by omega
                obtain ⟨R, HR⟩ : ∃ R, Hid (tr (xr.take i) = R) := ⟨_, rfl⟩
                have HR2 : Hid (tr (xr.take (i + 1)) = R ++ [(j, k, s)]) := by
                  show _ = _
                  have hjt : sp % 3 = j := by omega
                  rw [← HR.out, List.take_add_one, hx]
                  unfold tr
                  simp [hjt]
                have hll : R.length ≤ 1024 := by rw [← HR.out]; unfold tr; rw [List.length_map, List.length_take]; omega
                rw [HR.out] at HL
                clear d0 d1 d2 hc hR hW
                go_wp2_with fail
                have HL2 : Hid (Ls w (wr.alloc (.cells #[.int .u8 (sp : Nat), .int .u8 (k : Nat), .int .u64 (s : Nat)] 107)) B q fo sn R [] vr (.slice none 0 0) (modR q R) (fun _ _ => none) (fun _ _ => none) (used R) (used R)) := HL.out.gr ((Gr.refl wr).alloc (.cells #[.int .u8 (sp : Nat), .int .u8 (k : Nat), .int .u64 (s : Nat)] 107))
                have hB2 : Bx (wr.alloc (.cells #[.int .u8 (sp : Nat), .int .u8 (k : Nat), .int .u64 (s : Nat)] 107)) wr.heap.size sp k s := heap_alloc_new wr (.cells #[.int .u8 (sp : Nat), .int .u8 (k : Nat), .int .u64 (s : Nat)] 107)
                have hb1 : B + 15 ≤ wr.heap.size := HL.out.size
                clear e0 e1 e2 HL
                generalize wr.alloc (.cells #[.int .u8 (sp : Nat), .int .u8 (k : Nat), .int .u64 (s : Nat)] 107) = W2 at *
                generalize wr.heap.size = b1 at *
                have hb9 : B + 9 ≠ b1 := by omega
                obtain ⟨H, hH⟩ : ∃ H, W2.heap.size = H := ⟨_, rfl⟩
                have hcall := HL2.out.callR hjn hB2 hk (H := H)
                have happ := HL2.out.appR hll hjn hB2 hb1 hH
                have x1 := hB2.c1
                have x2 := hB2.c2
                have k0 : W2.cell? ⟨B + 1 + 1 + 1, j * 2, none⟩ = some (.pointer (some ⟨B + j, 0, none⟩)) := (HL2.out.ks j hjn).1
                have k1 : W2.cell? ⟨B + 1 + 1 + 1, j * 2 + 1, none⟩ = some (.pointer none) := (HL2.out.ks j hjn).2
                have c4 : W2.cell? ⟨B + 9, 4, none⟩ = some vr := by rw [HL2.out.cc.cell (by omega)]; rfl
                have HB2 : Hid (Bx W2 b1 sp k s) := hB2
                clear hB2
                rw [show Op.load 96 (Operand.tmp 85) = hideOp (Op.load 96 (Operand.tmp 85)) from rfl]
                go_cut [99] from 82 to 99 (fun _ wx => ∃ v, Hid (Ls w wx B q fo sn (R ++ [(j, k, s)]) [] v (.slice none 0 0) (modR q R) (fun _ _ => none) (fun _ _ => none) (used R) (used R)) ∧ Hid (Bx wx b1 sp k s))
                case first =>
                  as_aux_lemma =>
                    go_region_held3 (fun w' => w'.cell? ⟨B + 1 + 1 + 1, j * 2, none⟩ = some (.pointer (some ⟨B + j, 0, none⟩)) ∧ w'.cell? ⟨B + 1 + 1 + 1, j * 2 + 1, none⟩ = some (.pointer none) ∧ w'.cell? ⟨b1, 1, none⟩ = some (.int .u8 (k : Nat)) ∧ w'.cell? ⟨b1, 2, none⟩ = some (.int .u64 (s : Nat)))
                      (first | (refine ⟨?_, ?_, ?_, ?_⟩ <;> first | assumption | exact cell_alloc_of (by assumption) _ | exact cell_set_of (by assumption) (by first | assumption | (show B + 9 ≠ B + 1 + 1 + 1; omega)) _) | go_keep)
                      (first | (go_at_call 16; refine (hcall _ (by repeat (first | exact Gr.refl _ | refine Gr.drew ?_ | refine Gr.drewN ?_ _)) (by simpa using hH)).mono ?_; rintro e W3 ⟨rfl, HG3, hs3, y1, y2, y3, y4, y5, y6⟩; have y7 := fun o => cell_alloc_of y1 o) | (refine step_append_ex rfl _ _ 96 (by rfl) vr _ (by rfl) (by rfl) (happ _ (row_new HG3.out _) (row_at hs3 _)) ?_; rintro p m c W5 ⟨f4, HL5, HB5, z1, z2, z3, z4, z5⟩))
                    all_goals go_wp2_with fail
                    all_goals go_meet
                    all_goals exact ⟨_, HL5, HB5⟩
                obtain ⟨v3, HL3, HB3⟩ := hcut
                obtain ⟨W3, rfl⟩ : ∃ W, W = wc := ⟨_, rfl⟩
                clear HL2 HB2 hcall happ x1 x2 k0 k1 c4
                have hb13 : b1 ≠ B + 9 + 1 + 1 + 1 + 1 := by omega
                have hb14 : b1 ≠ B + 9 + 1 + 1 + 1 + 1 + 1 := by omega
                have hb10 : b1 ≠ B + 9 + 1 := by omega
                have u1 : W3.cell? ⟨B + 9 + 1 + 1 + 1 + 1, j, none⟩ = some (.bool (used R j)) := HL3.out.hus.cell hjn
                have u2 : W3.frozen? ⟨B + 9 + 1 + 1 + 1 + 1, j, none⟩ = false := HL3.out.hus.frozen j
                have u3 : W3.cell? ⟨B + 9 + 1 + 1 + 1 + 1 + 1, j, none⟩ = some (.bool (used R j)) := HL3.out.hru.cell hjn
                have u4 : W3.frozen? ⟨B + 9 + 1 + 1 + 1 + 1 + 1, j, none⟩ = false := HL3.out.hru.frozen j
                have HL4 := HL3.out.setUs hjn
                have u5 : (W3.setCell ⟨B + 9 + 1 + 1 + 1 + 1, j, none⟩ (.bool true)).cell? ⟨B + 9 + 1 + 1 + 1 + 1 + 1, j, none⟩ = some (.bool (used R j)) := HL4.hru.cell hjn
                have u6 : (W3.setCell ⟨B + 9 + 1 + 1 + 1 + 1, j, none⟩ (.bool true)).frozen? ⟨B + 9 + 1 + 1 + 1 + 1 + 1, j, none⟩ = false := HL4.hru.frozen j
                have HL5 : Hid (Ls w ((W3.setCell ⟨B + 9 + 1 + 1 + 1 + 1, j, none⟩ (.bool true)).setCell ⟨B + 9 + 1 + 1 + 1 + 1 + 1, j, none⟩ (.bool true)) B q fo sn (R ++ [(j, k, s)]) [] v3 (.slice none 0 0) (modR q R) (fun _ _ => none) (fun _ _ => none) (fun i => if i = j then true else used R i) (fun i => if i = j then true else used R i)) := HL4.setRu hjn
                have HB5 : Hid (Bx ((W3.setCell ⟨B + 9 + 1 + 1 + 1 + 1, j, none⟩ (.bool true)).setCell ⟨B + 9 + 1 + 1 + 1 + 1 + 1, j, none⟩ (.bool true)) b1 sp k s) := (HB3.out.set hb13 _).set hb14 _
                clear HL4
                go_wp2_with fail
                clear HL3 HB3 u1 u2 u3 u4 u5 u6
                generalize (W3.setCell ⟨B + 9 + 1 + 1 + 1 + 1, j, none⟩ (.bool true)).setCell ⟨B + 9 + 1 + 1 + 1 + 1 + 1, j, none⟩ (.bool true) = W5 at *
                have x1 := HB5.out.c1
                have x2 := HB5.out.c2
                have hk3 : (k : Int) < 256 := by omega
                have m1 : W5.cell? ⟨B + 9 + 1, j * 256 + k, none⟩ = some (.bool (modR q R j k).isSome) := (mod_of_arr HL5.out.rd hjn k hk).1
                have m2 : W5.frozen? ⟨B + 9 + 1, j * 256 + k, none⟩ = false := HL5.out.rd.frozen _
                go_cut [109] from 104 to 109 (fun _ wx => ∃ n, wx = (W5.drewN n).setCell ⟨B + 9 + 1, j * 256 + k, none⟩ (.bool true))
                case first =>
                  go_region_held3 (fun w' => w'.cell? ⟨b1, 1, none⟩ = some (.int .u8 (k : Nat)))
                    (first | exact cell_set_of (by assumption) (Ne.symm hb10) _ | go_keep)
                    (fail)
                  all_goals go_wp2_with fail
                  all_goals go_meet
                  all_goals exact ⟨_, rfl⟩
                obtain ⟨n, rfl⟩ := hcut
                have HL6 : Hid (Ls w (W5.drewN n) B q fo sn (R ++ [(j, k, s)]) [] v3 (.slice none 0 0) (modR q R) (fun _ _ => none) (fun _ _ => none) (fun i => if i = j then true else used R i) (fun i => if i = j then true else used R i)) := HL5.out.gr ((Gr.refl W5).drewN n)
                have HB6 : Hid (Bx (W5.drewN n) b1 sp k s) := HB5.out.gr ((Gr.refl W5).drewN n)
                clear HL5 HB5 x1 x2 m1 m2
                generalize W5.drewN n = W6 at *
                obtain ⟨o, ho⟩ : ∃ o, (modR q R j k).getD 0 = o := ⟨_, rfl⟩
                obtain ⟨m, hm⟩ : ∃ m, max q s = m := ⟨_, rfl⟩
                obtain ⟨mx, hmx⟩ : ∃ mx, max o m = mx := ⟨_, rfl⟩
                have hmz : max ((o : Nat) : Int) (max (q : Int) (s : Int)) = ((mx : Nat) : Int) := by omega
                have HL7 : Hid (∀ n, Ls w (((W6.setCell ⟨B + 9 + 1, j * 256 + k, none⟩ (.bool true)).drewN n).setCell ⟨B + 9 + 1, 768 + j * 256 + k, none⟩ (.int .u64 (mx : Nat))) B q fo sn (R ++ [(j, k, s)]) [] v3 (.slice none 0 0) (modR q (R ++ [(j, k, s)])) (fun _ _ => none) (fun _ _ => none) (used (R ++ [(j, k, s)])) (used (R ++ [(j, k, s)]))) := fun n => by
                  have := (HL6.out.gr ((Gr.refl W6).drewN n)).putR (s := s) hjn hk
                  rw [ho, hm, hmx] at this
                  exact this.nextR
                have HB7 := HB6.out.set hb10 (p := ⟨B + 9 + 1, j * 256 + k, none⟩) (.bool true)
                have m3 := mod_set1 HL6.out.rd hjn hk
                rw [ho] at m3
                generalize hW7 : W6.setCell ⟨B + 9 + 1, j * 256 + k, none⟩ (.bool true) = W7 at *
                have m4 : W7.cell? ⟨B + 9 + 1, 768 + j * 256 + k, none⟩ = some (.int .u64 (o : Nat)) := m3.1
                have m5 : W7.frozen? ⟨B + 9 + 1, 768 + j * 256 + k, none⟩ = false := m3.2
                have x1 := HB7.c1
                have x2 := HB7.c2
                clear m3 hW7 HL6 HB6 HB7 ho hm hmx
                go_wp2_with fail
                rw [show Op.load 28 (Operand.tmp 118) = hideOp (Op.load 28 (Operand.tmp 118)) from rfl]
                go_region_held3 (fun w' => w'.cell? ⟨b1, 1, none⟩ = some (.int .u8 (k : Nat)) ∧ w'.cell? ⟨b1, 2, none⟩ = some (.int .u64 (s : Nat)))
                  (first | (refine ⟨?_, ?_⟩ <;> exact cell_set_of (by assumption) (Ne.symm hb10) _) | go_keep)
                  (fail)
                all_goals go_wp2_with fail
                all_goals go_roundg (lR - (i + 1))
                all_goals first | (show (_ : Nat) < _; omega) | exact ⟨i + 1, v3, by omega, rfl, by go_num, by rw [HR2.out]; first | exact HL7.out 1 | exact HL7.out 0 | exact HL7.out _⟩
            · have hi3 : ¬ (i : Int) < (lR : Int) := by omega
              obtain ⟨rs, HR⟩ : ∃ R, Hid (tr xr = R) := ⟨_, rfl⟩
              rw [show xr.take i = xr from List.take_of_length_le (by rw [hR.1]; omega), HR.out] at HL
              have hrl : rs.length ≤ 1024 := by rw [← HR.out]; unfold tr; rw [List.length_map, hR.1]; exact hlr
              have hrk : Ok rs := by
                rw [← HR.out]
                exact tr_ok hR
              go_wp2_with fail
              go_loopg [131] lW (fun gm s131 wr => ∃ i vw, i ≤ lW ∧ gm = lW - i ∧ s131 = .int .i64 (i : Nat) ∧ Hid (Ls w wr B q fo sn rs (tr (xw.take i)) vr vw (modR q rs) (modW q (tr (xw.take i))) (modD q fo (tr (xw.take i))) (used (rs ++ tr (xw.take i))) (used rs)))
              case atStart =>
                refine ⟨0, .slice none 0 0, by omega, rfl, rfl, ?_⟩
                have e : modD q fo (tr (xw.take 0)) = fun _ _ => none := by cases fo <;> rfl
                have e2 : used (rs ++ tr (xw.take 0)) = used rs := by rw [List.take_zero]; show used (rs ++ []) = _; rw [List.append_nil]
                show Ls _ _ _ _ _ _ _ _ _ _ _ _ _ _ _
                rw [e, e2]
                exact HL.out
              case round =>
                clear HL HR hi2 hi3 hlt
                obtain ⟨i, vw, hi2, rfl, rfl, HL⟩ := hrel
                by_cases hlt : i < lW
                · have hi3 : (i : Int) < (lW : Int) := by omega
                  as_aux_lemma =>
                    obtain ⟨⟨sp, k, s⟩, hx⟩ : ∃ x, xw[i]? = some x := ⟨_, List.getElem?_eq_getElem (by rw [hW.1]; exact hlt)⟩
                    obtain ⟨pb, po, rfl, hpb, hc⟩ := hW.2.2 (by omega)
                    obtain ⟨hsp, hk, hs64⟩ := hW.2.1 _ (List.mem_of_getElem? hx)
                    obtain ⟨d0, d1, d2⟩ := hc i _ hx
                    have hpb' : pb < B := by omega
                    have e0 : wr.cell? ⟨pb, po + i * 3, none⟩ = some (.int .u8 (sp : Nat)) := by rw [HL.out.low.cell hpb']; exact d0
                    have e1 : wr.cell? ⟨pb, po + i * 3 + 1, none⟩ = some (.int .u8 (k : Nat)) := by rw [HL.out.low.cell hpb']; exact d1
                    have e2 : wr.cell? ⟨pb, po + i * 3 + 2, none⟩ = some (.int .u64 (s : Nat)) := by rw [HL.out.low.cell hpb']; exact d2
                    obtain ⟨j, hj⟩ : ∃ j : Nat, (sp : Int) % 3 = (j : Int) := ⟨sp % 3, by omega⟩
                    have hj3 : (j : Int) < 3 := by omega
                    have hspb : (sp : Int) < 256 := by have : sp < 256 := hsp; omega
                    have hjn : j < 3 := by omega
                    obtain ⟨R, HR⟩ : ∃ R, Hid (tr (xw.take i) = R) := ⟨_, rfl⟩
                    have HR2 : Hid (tr (xw.take (i + 1)) = R ++ [(j, k, s)]) := by
                      show _ = _
                      have hjt : sp % 3 = j := by omega
                      rw [← HR.out, List.take_add_one, hx]
                      unfold tr
                      simp [hjt]
                    have hll : R.length ≤ 1024 := by rw [← HR.out]; unfold tr; rw [List.length_map, List.length_take]; omega
                    rw [HR.out] at HL
                    clear d0 d1 d2 hc hR hW
                    go_wp2_with fail
                    have HL2 : Hid (Ls w (wr.alloc (.cells #[.int .u8 (sp : Nat), .int .u8 (k : Nat), .int .u64 (s : Nat)] 107)) B q fo sn rs R vr vw (modR q rs) (modW q R) (modD q fo R) (used (rs ++ R)) (used rs)) := HL.out.gr ((Gr.refl wr).alloc (.cells #[.int .u8 (sp : Nat), .int .u8 (k : Nat), .int .u64 (s : Nat)] 107))
                    have hB2 : Bx (wr.alloc (.cells #[.int .u8 (sp : Nat), .int .u8 (k : Nat), .int .u64 (s : Nat)] 107)) wr.heap.size sp k s := heap_alloc_new wr (.cells #[.int .u8 (sp : Nat), .int .u8 (k : Nat), .int .u64 (s : Nat)] 107)
                    have hb1 : B + 15 ≤ wr.heap.size := HL.out.size
                    clear e0 e1 e2 HL
                    generalize wr.alloc (.cells #[.int .u8 (sp : Nat), .int .u8 (k : Nat), .int .u64 (s : Nat)] 107) = W2 at *
                    generalize wr.heap.size = b1 at *
                    have hb9 : B + 9 ≠ b1 := by omega
                    obtain ⟨H, hH⟩ : ∃ H, W2.heap.size = H := ⟨_, rfl⟩
                    have hcall := HL2.out.callR hjn hB2 hk (H := H)
                    have happ := HL2.out.appW hll hjn hB2 hb1 hH
                    have x1 := hB2.c1
                    have x2 := hB2.c2
                    have k0 : W2.cell? ⟨B + 1 + 1 + 1, j * 2, none⟩ = some (.pointer (some ⟨B + j, 0, none⟩)) := (HL2.out.ks j hjn).1
                    have k1 : W2.cell? ⟨B + 1 + 1 + 1, j * 2 + 1, none⟩ = some (.pointer none) := (HL2.out.ks j hjn).2
                    have c4 : W2.cell? ⟨B + 9, 5, none⟩ = some vw := by rw [HL2.out.cc.cell (by omega)]; rfl
                    have HB2 : Hid (Bx W2 b1 sp k s) := hB2
                    clear hB2
                    rw [show Op.load 96 (Operand.tmp 142) = hideOp (Op.load 96 (Operand.tmp 142)) from rfl]
                    go_cut [156] from 139 to 156 (fun _ wx => ∃ v, Hid (Ls w wx B q fo sn rs (R ++ [(j, k, s)]) vr v (modR q rs) (modW q R) (modD q fo R) (used (rs ++ R)) (used rs)) ∧ Hid (Bx wx b1 sp k s))
                    case first =>
                      as_aux_lemma =>
                        go_region_held3 (fun w' => w'.cell? ⟨B + 1 + 1 + 1, j * 2, none⟩ = some (.pointer (some ⟨B + j, 0, none⟩)) ∧ w'.cell? ⟨B + 1 + 1 + 1, j * 2 + 1, none⟩ = some (.pointer none) ∧ w'.cell? ⟨b1, 1, none⟩ = some (.int .u8 (k : Nat)) ∧ w'.cell? ⟨b1, 2, none⟩ = some (.int .u64 (s : Nat)))
                          (first | (refine ⟨?_, ?_, ?_, ?_⟩ <;> first | assumption | exact cell_alloc_of (by assumption) _ | exact cell_set_of (by assumption) (by first | assumption | (show B + 9 ≠ B + 1 + 1 + 1; omega)) _) | go_keep)
                          (first | (go_at_call 16; refine (hcall _ (by repeat (first | exact Gr.refl _ | refine Gr.drew ?_ | refine Gr.drewN ?_ _)) (by simpa using hH)).mono ?_; rintro e W3 ⟨rfl, HG3, hs3, y1, y2, y3, y4, y5, y6⟩; have y7 := fun o => cell_alloc_of y2 o) | (refine step_append_ex rfl _ _ 96 (by rfl) vw _ (by rfl) (by rfl) (happ _ (row_new HG3.out _) (row_at hs3 _)) ?_; rintro p m c W5 ⟨f4, HL5, HB5, z1, z2, z3, z4, z5⟩))
                        all_goals go_wp2_with fail
                        all_goals go_meet
                        all_goals exact ⟨_, HL5, HB5⟩
                    obtain ⟨v3, HL3, HB3⟩ := hcut
                    obtain ⟨W3, rfl⟩ : ∃ W, W = wc := ⟨_, rfl⟩
                    clear HL2 HB2 hcall happ x1 x2 k0 k1 c4
                    have hb13 : b1 ≠ B + 9 + 1 + 1 + 1 + 1 := by omega
                    have hb11 : b1 ≠ B + 9 + 1 + 1 := by omega
                    have hb12 : b1 ≠ B + 9 + 1 + 1 + 1 := by omega
                    have u1 : W3.cell? ⟨B + 9 + 1 + 1 + 1 + 1, j, none⟩ = some (.bool (used (rs ++ R) j)) := HL3.out.hus.cell hjn
                    have u2 : W3.frozen? ⟨B + 9 + 1 + 1 + 1 + 1, j, none⟩ = false := HL3.out.hus.frozen j
                    have HL5 : Hid (Ls w (W3.setCell ⟨B + 9 + 1 + 1 + 1 + 1, j, none⟩ (.bool true)) B q fo sn rs (R ++ [(j, k, s)]) vr v3 (modR q rs) (modW q R) (modD q fo R) (fun i => if i = j then true else used (rs ++ R) i) (used rs)) := HL3.out.setUs hjn
                    have HB5 : Hid (Bx (W3.setCell ⟨B + 9 + 1 + 1 + 1 + 1, j, none⟩ (.bool true)) b1 sp k s) := HB3.out.set hb13 _
                    go_wp2_with fail
                    clear HL3 HB3 u1 u2
                    generalize W3.setCell ⟨B + 9 + 1 + 1 + 1 + 1, j, none⟩ (.bool true) = W5 at *
                    have hk3 : (k : Int) < 256 := by omega
                    obtain ⟨us, Hus⟩ : ∃ us, Hid ((fun i => if i = j then true else used (rs ++ R) i) = us) := ⟨_, rfl⟩
                    rw [Hus.out] at HL5
                    have x1 := HB5.out.c1
                    have x2 := HB5.out.c2
                    have m1 : W5.cell? ⟨B + 9 + 1 + 1, j * 256 + k, none⟩ = some (.bool (modW q R j k).isSome) := (mod_of_arr HL5.out.wr hjn k hk).1
                    have m2 : W5.frozen? ⟨B + 9 + 1 + 1, j * 256 + k, none⟩ = false := HL5.out.wr.frozen _
                    go_cut [164] from 159 to 164 (fun _ wx => ∃ n, wx = (W5.drewN n).setCell ⟨B + 9 + 1 + 1, j * 256 + k, none⟩ (.bool true))
                    case first =>
                      go_region_held3 (fun w' => w'.cell? ⟨b1, 1, none⟩ = some (.int .u8 (k : Nat)))
                        (first | exact cell_set_of (by assumption) (Ne.symm hb11) _ | go_keep)
                        (fail)
                      all_goals go_wp2_with fail
                      all_goals go_meet
                      all_goals exact ⟨_, rfl⟩
                    obtain ⟨n, rfl⟩ := hcut
                    have HL6 : Hid (Ls w (W5.drewN n) B q fo sn rs (R ++ [(j, k, s)]) vr v3 (modR q rs) (modW q R) (modD q fo R) us (used rs)) := HL5.out.gr ((Gr.refl W5).drewN n)
                    have HB6 : Hid (Bx (W5.drewN n) b1 sp k s) := HB5.out.gr ((Gr.refl W5).drewN n)
                    clear HL5 HB5 x1 x2 m1 m2
                    generalize W5.drewN n = W6 at *
                    obtain ⟨o, ho⟩ : ∃ o, (modW q R j k).getD 0 = o := ⟨_, rfl⟩
                    have cm := fun W a b => min_calls W a b
                    have HL7 : Hid (∀ n, Ls w (((W6.setCell ⟨B + 9 + 1 + 1, j * 256 + k, none⟩ (.bool true)).drewN n).setCell ⟨B + 9 + 1 + 1, 768 + j * 256 + k, none⟩ (.int .u64 (early o (early q s) : Nat))) B q fo sn rs (R ++ [(j, k, s)]) vr v3 (modR q rs) (mstep early q (modW q R) (j, k, s)) (modD q fo R) us (used rs)) := fun n => by
                      have := (HL6.out.gr ((Gr.refl W6).drewN n)).putW (s := s) hjn hk
                      rw [ho] at this
                      exact this
                    have HB7 := HB6.out.set hb11 (p := ⟨B + 9 + 1 + 1, j * 256 + k, none⟩) (.bool true)
                    have HB8 : Hid (∀ n, Bx (((W6.setCell ⟨B + 9 + 1 + 1, j * 256 + k, none⟩ (.bool true)).drewN n).setCell ⟨B + 9 + 1 + 1, 768 + j * 256 + k, none⟩ (.int .u64 (early o (early q s) : Nat))) b1 sp k s) := fun n => (HB7.gr ((Gr.refl _).drewN n)).set hb11 _
                    have m3 := mod_set1 HL6.out.wr hjn hk
                    rw [ho] at m3
                    generalize hW7 : W6.setCell ⟨B + 9 + 1 + 1, j * 256 + k, none⟩ (.bool true) = W7 at *
                    have m4 : W7.cell? ⟨B + 9 + 1 + 1, 768 + j * 256 + k, none⟩ = some (.int .u64 (o : Nat)) := m3.1
                    have m5 : W7.frozen? ⟨B + 9 + 1 + 1, 768 + j * 256 + k, none⟩ = false := m3.2
                    have x1 := HB7.c1
                    have x2 := HB7.c2
                    clear m3 hW7 HL6 HB6 HB7 ho
                    go_wp2_with fail
                    rw [show Op.load 28 (Operand.tmp 173) = hideOp (Op.load 28 (Operand.tmp 173)) from rfl]
                    go_cut [182] from 165 to 182 (fun _ wx => Hid (Ls w wx B q fo sn rs (R ++ [(j, k, s)]) vr v3 (modR q rs) (mstep early q (modW q R) (j, k, s)) (modD q fo R) us (used rs)) ∧ Hid (Bx wx b1 sp k s))
                    case first =>
                      go_region_held3 (fun w' => w'.cell? ⟨b1, 1, none⟩ = some (.int .u8 (k : Nat)) ∧ w'.cell? ⟨b1, 2, none⟩ = some (.int .u64 (s : Nat)))
                        (first | (refine ⟨?_, ?_⟩ <;> exact cell_set_of (by assumption) (Ne.symm hb11) _) | go_keep)
                        (first | (go_at_call 17; refine (cm _ _ _).mono ?_; rintro e w' ⟨rfl, rfl⟩))
                      all_goals go_wp2_with fail
                      all_goals go_meet
                      all_goals first | exact ⟨HL7.out 1, HB8.out 1⟩ | exact ⟨HL7.out 0, HB8.out 0⟩ | exact ⟨HL7.out _, HB8.out _⟩
                    obtain ⟨HL5, HB5⟩ := hcut
                    obtain ⟨W5, rfl⟩ : ∃ W, W = wc := ⟨_, rfl⟩
                    clear cm HL7 HB8 m4 m5 x1 x2
                    cases fo with
                    | false =>
                      go_wp2_with fail
                      go_roundg (lW - (i + 1))
                      case measure => omega
                      case rel =>
                        refine ⟨i + 1, v3, by omega, rfl, by go_num, ?_⟩
                        rw [HR2.out]
                        rw [← Hus.out] at HL5
                        exact HL5.out.nextW
                    | true =>
                      go_wp2_with fail
                      have x1 := HB5.out.c1
                      have x2 := HB5.out.c2
                      have m1 : W5.cell? ⟨B + 9 + 1 + 1 + 1, j * 256 + k, none⟩ = some (.bool (modD q true R j k).isSome) := (mod_of_arr HL5.out.dm hjn k hk).1
                      have m2 : W5.frozen? ⟨B + 9 + 1 + 1 + 1, j * 256 + k, none⟩ = false := HL5.out.dm.frozen _
                      go_cut [189] from 184 to 189 (fun _ wx => ∃ n, wx = (W5.drewN n).setCell ⟨B + 9 + 1 + 1 + 1, j * 256 + k, none⟩ (.bool true))
                      case first =>
                        go_region_held3 (fun w' => w'.cell? ⟨b1, 1, none⟩ = some (.int .u8 (k : Nat)))
                          (first | exact cell_set_of (by assumption) (Ne.symm hb12) _ | go_keep)
                          (fail)
                        all_goals go_wp2_with fail
                        all_goals go_meet
                        all_goals exact ⟨_, rfl⟩
                      obtain ⟨n, rfl⟩ := hcut
                      have HL6 : Hid (Ls w (W5.drewN n) B q true sn rs (R ++ [(j, k, s)]) vr v3 (modR q rs) (mstep early q (modW q R) (j, k, s)) (modD q true R) us (used rs)) := HL5.out.gr ((Gr.refl W5).drewN n)
                      have HB6 : Hid (Bx (W5.drewN n) b1 sp k s) := HB5.out.gr ((Gr.refl W5).drewN n)
                      clear HL5 HB5 x1 x2 m1 m2
                      generalize W5.drewN n = W6 at *
                      obtain ⟨o, ho⟩ : ∃ o, (modD q true R j k).getD 0 = o := ⟨_, rfl⟩
                      obtain ⟨m, hm⟩ : ∃ m, max q s = m := ⟨_, rfl⟩
                      obtain ⟨mx, hmx⟩ : ∃ mx, max o m = mx := ⟨_, rfl⟩
                      have hmz : max ((o : Nat) : Int) (max (q : Int) (s : Int)) = ((mx : Nat) : Int) := by omega
                      have HL7 : Hid (∀ n, Ls w (((W6.setCell ⟨B + 9 + 1 + 1 + 1, j * 256 + k, none⟩ (.bool true)).drewN n).setCell ⟨B + 9 + 1 + 1 + 1, 768 + j * 256 + k, none⟩ (.int .u64 (mx : Nat))) B q true sn rs (R ++ [(j, k, s)]) vr v3 (modR q rs) (mstep early q (modW q R) (j, k, s)) (mstep max q (modD q true R) (j, k, s)) us (used rs)) := fun n => by
                        have := (HL6.out.gr ((Gr.refl W6).drewN n)).putD (s := s) hjn hk
                        rw [ho, hm, hmx] at this
                        exact this
                      have HB7 := HB6.out.set hb12 (p := ⟨B + 9 + 1 + 1 + 1, j * 256 + k, none⟩) (.bool true)
                      have HB8 : Hid (∀ n, Bx (((W6.setCell ⟨B + 9 + 1 + 1 + 1, j * 256 + k, none⟩ (.bool true)).drewN n).setCell ⟨B + 9 + 1 + 1 + 1, 768 + j * 256 + k, none⟩ (.int .u64 (mx : Nat))) b1 sp k s) := fun n => (HB7.gr ((Gr.refl _).drewN n)).set hb12 _
                      have m3 := mod_set1 HL6.out.dm hjn hk
                      rw [ho] at m3
                      generalize hW7 : W6.setCell ⟨B + 9 + 1 + 1 + 1, j * 256 + k, none⟩ (.bool true) = W7 at *
                      have m4 : W7.cell? ⟨B + 9 + 1 + 1 + 1, 768 + j * 256 + k, none⟩ = some (.int .u64 (o : Nat)) := m3.1
                      have m5 : W7.frozen? ⟨B + 9 + 1 + 1 + 1, 768 + j * 256 + k, none⟩ = false := m3.2
                      have x1 := HB7.c1
                      have x2 := HB7.c2
                      clear m3 hW7 HL6 HB6 HB7 ho hm hmx
                      go_wp2_with fail
                      rw [show Op.load 28 (Operand.tmp 198) = hideOp (Op.load 28 (Operand.tmp 198)) from rfl]
                      go_region_held3 (fun w' => w'.cell? ⟨b1, 1, none⟩ = some (.int .u8 (k : Nat)) ∧ w'.cell? ⟨b1, 2, none⟩ = some (.int .u64 (s : Nat)))
                        (first | (refine ⟨?_, ?_⟩ <;> exact cell_set_of (by assumption) (Ne.symm hb12) _) | go_keep)
                        (fail)
                      all_goals go_wp2_with fail
                      all_goals go_roundg (lW - (i + 1))
                      all_goals first | (show (_ : Nat) < _; omega) | exact ⟨i + 1, v3, by omega, rfl, by go_num, by rw [HR2.out]; have := HL7.out; rw [← Hus.out] at this; first | exact (this 1).nextD | exact (this 0).nextD | exact (this _).nextD⟩
                · have hi3 : ¬ (i : Int) < (lW : Int) := by omega
                  as_aux_lemma =>
                    have hT : xw.take i = xw := List.take_of_length_le (by rw [hW.1]; omega)
                    obtain ⟨ws, HWs⟩ : ∃ R, Hid (tr xw = R) := ⟨_, rfl⟩
                    rw [hT, HWs.out] at HL
                    have hwl : ws.length ≤ 1024 := by rw [← HWs.out]; unfold tr; rw [List.length_map, hW.1]; exact hlw
                    have hwk : Ok ws := by rw [← HWs.out]; exact tr_ok hW
                    clear hT hR hW HWs
                    go_upto_if 211 with fail
                    go_cut [26] from 212 to 215 (fun s26 wx => ∃ eB mE w0, s26 = .pointer (some ⟨eB, 0, none⟩) ∧ Hid (Rdy wr wx w0 B q fo rs ws vr vw eB mE))
                    case first =>
                      as_aux_lemma =>
                        have hmm2 : ∀ w : World, (Instr.makeMap 112 none).run Yba.prog w = .ok (.map (some w.heap.size)) (w.alloc (.map #[] 0)) := fun _ => by kernel_rfl
                        cases pre with
                        | true =>
                          go_wp2_with fail
                          go_meet
                          exact ⟨_, _, _, rfl, HL.out.rdyT hrk hwk _⟩
                        | false =>
                          go_wp2_with fail
                          go_meet
                          obtain ⟨w0, h0⟩ := HL.out.rdyF hrk hwk (.int .i64 0)
                          exact ⟨_, _, w0, rfl, h0⟩
                    obtain ⟨eB, mE, w0, rfl, HRd⟩ := hcut
                    obtain ⟨W4, rfl⟩ : ∃ W, W = wc := ⟨_, rfl⟩
                    have ctake := HRd.out.fin HL.out hrk hwk hrl hwl
                    clear HL HRd
                    go_upto_region 37 with fail
                    go_cut [219] from 216 to 219 (fun _ wx => Hid (∃ S, Lf w wx B q fo rs ws eB mE (used (rs ++ ws)) (used rs) S))
                    case first =>
                      go_wp2_with (go_at_call 18; refine ctake.mono ?_; rintro e W5 ⟨rfl, HF0⟩)
                      go_meet
                      exact HF0
                    clear ctake
                    obtain ⟨S, hF⟩ := hcut.out
                    obtain ⟨W5, rfl⟩ : ∃ W, W = wc := ⟨_, rfl⟩
                    obtain ⟨us, Hus⟩ : ∃ us, Hid (used (rs ++ ws) = us) := ⟨_, rfl⟩
                    obtain ⟨ru, Hru⟩ : ∃ ru, Hid (used rs = ru) := ⟨_, rfl⟩
                    rw [Hus.out, Hru.out] at hF
                    clear hcut Hus Hru hrk hwk hrl hwl
                    have HF : Hid (Lf w W5 B q fo rs ws eB mE us ru S) := hF
                    have y1 : W5.cell? ⟨eB, 2, none⟩ = some (.map (some mE)) := hF.esp
                    have y2 : W5.cell? ⟨B + 1 + 1 + 1 + 1 + 1, 6, none⟩ = some (.map (some (B + 1 + 1 + 1 + 1))) := hF.rsp
                    have y3 := eql_map (some mE)
                    have y4 : (Builtin.len_ #[84] 3 #[.map (some (B + 1 + 1 + 1 + 1))]).run Yba.prog W5 = .ok (.int .i64 3) W5 := hF.mapR.len Yba.underlying84 3
                    clear hF
                    go_wp2_with fail
                    clear y1 y2 y3 y4
                    go_loopg [27, 28] 3 (fun gm s27 s28 wr => ∃ i m, i ≤ 3 ∧ gm = 3 - i ∧ s28 = .int .i64 (i : Nat) ∧ s27 = .int .i64 (m : Nat) ∧ Hid (m = cntU us i) ∧ Hid (Lf w wr B q fo rs ws eB mE us ru S))
                    case atStart => exact ⟨0, 0, by omega, rfl, rfl, rfl, rfl, HF⟩
                    case round =>
                      clear HF hi2 hi3 hlt
                      obtain ⟨i, m, hi2, rfl, rfl, rfl, Hm, HF⟩ := hrel
                      have hmi : m ≤ i := by rw [Hm.out]; exact cntU_le us i
                      by_cases hlt : i < 3
                      · have hi' : (i : Int) < 3 := by omega
                        as_aux_lemma =>
                          have k0 : wr.cell? ⟨B + 1 + 1 + 1, i * 2, none⟩ = some (.pointer (some ⟨B + i, 0, none⟩)) := (HF.out.ks i hlt).1
                          have k1 : wr.cell? ⟨B + 1 + 1 + 1, i * 2 + 1, none⟩ = some (.pointer none) := (HF.out.ks i hlt).2
                          have u1 : wr.cell? ⟨B + 9 + 1 + 1 + 1 + 1, i, none⟩ = some (.bool (us i)) := HF.out.hus.cell hlt
                          have y1 : wr.cell? ⟨eB, 2, none⟩ = some (.map (some mE)) := HF.out.esp
                          go_upto_if 239 with fail
                          go_cut [27] from 239 to 241 (fun s27 wx => s27 = .int .i64 (cntU us (i + 1) : Nat) ∧ wx = wr)
                          case first =>
                            have c27 : cntU us (i + 1) = m + if us i = true then 1 else 0 := by show cntU us i + _ = _; rw [← Hm.out]
                            have hmi' : (m : Int) ≤ 3 := by omega
                            clear u1
                            cases hu : us i with
                            | true =>
                              rw [hu, if_pos rfl] at c27
                              go_wp2_with fail
                              go_meet
                              exact ⟨by rw [c27]; go_num, rfl⟩
                            | false =>
                              rw [hu, if_neg (by simp)] at c27
                              go_wp2_with fail
                              go_meet
                              exact ⟨by rw [c27]; rfl, rfl⟩
                          obtain ⟨rfl, rfl⟩ := hcut
                          obtain ⟨wr, rfl⟩ : ∃ W, W = wc := ⟨_, rfl⟩
                          obtain ⟨p, hp, Hp, hlk⟩ := HF.out.lookE hlt
                          go_wp2_with fail
                          go_quiet (fail)
                          have HF2 : Hid (Lf w (wr.drewN nq) B q fo rs ws eB mE us ru S) := HF.out.gr ((Gr.refl wr).drewN nq)
                          clear HF hlk k0 k1 u1 y1
                          generalize wr.drewN nq = W2 at *
                          have u1 : W2.cell? ⟨B + 9 + 1 + 1 + 1 + 1, i, none⟩ = some (.bool (us i)) := HF2.out.hus.cell hlt
                          go_wp2_with fail
                          clear u1
                          go_cut [270] from 237 to 270 (fun s270 wx => s270 = .bool false ∧ Hid (Lf w wx B q fo rs ws eB mE us ru S))
                          case first =>
                            as_aux_lemma =>
                              cases hu : us i with
                              | true =>
                                obtain rfl := Hp.out hu
                                obtain ⟨v, z1, z2⟩ := HF2.out.okW hlt hu
                                have q0 := fun n os => Gr.cell_of (a := W2) (b := grow (W2.drewN n) os) ⟨n, os, rfl⟩ z1
                                have cS : ∀ n os, CsOk (grow (W2.drewN n) os) v (B + 9 + 1 + 1) (i * 256) (B + 9 + 1 + 1) (768 + i * 256) := fun n os => z2 _ ⟨n, os, rfl⟩
                                have hmix := mixed
                                clear z1 z2
                                go_quiet_grown (first | (go_at_call 19; refine Calls.grown_of (CsOk.calls ?_); exact cS _ _))
                                go_wp2_with fail
                                go_meet
                                exact ⟨rfl, HF2.out.gr ⟨nq, osq, rfl⟩⟩
                              | false =>
                                obtain rfl : p = none := by rw [hu] at hp; cases p with | none => rfl | some a => exact absurd hp (by simp)
                                go_region
                                all_goals go_wp2_with fail
                                all_goals go_meet
                                all_goals exact ⟨rfl, HF2.out.gr (by repeat (first | exact Gr.refl _ | refine Gr.drew ?_ | refine Gr.drewN ?_ _))⟩
                          as_aux_lemma =>
                            obtain ⟨rfl, HF3⟩ := hcut
                            obtain ⟨W3, rfl⟩ : ∃ W, W = wc := ⟨_, rfl⟩
                            clear HF2 hp Hp
                            have k0 : W3.cell? ⟨B + 1 + 1 + 1, i * 2, none⟩ = some (.pointer (some ⟨B + i, 0, none⟩)) := (HF3.out.ks i hlt).1
                            have k1 : W3.cell? ⟨B + 1 + 1 + 1, i * 2 + 1, none⟩ = some (.pointer none) := (HF3.out.ks i hlt).2
                            have y2 : W3.cell? ⟨B + 1 + 1 + 1 + 1 + 1, 6, none⟩ = some (.map (some (B + 1 + 1 + 1 + 1))) := HF3.out.rsp
                            have hlk := HF3.out.lookR hlt
                            go_wp2_with fail
                            go_quiet (fail)
                            have HF4 : Hid (Lf w (W3.drewN nq) B q fo rs ws eB mE us ru S) := HF3.out.gr ((Gr.refl W3).drewN nq)
                            clear HF3 hlk k0 k1 y2
                            generalize W3.drewN nq = W4 at *
                            have u1 : W4.cell? ⟨B + 9 + 1 + 1 + 1 + 1 + 1, i, none⟩ = some (.bool (ru i)) := HF4.out.hru.cell hlt
                            obtain ⟨m0, m1, m3⟩ := HF4.out.marks i hlt
                            obtain ⟨l, Hl⟩ : ∃ l, Hid ((if ru i = true then q else 0) = l) := ⟨_, rfl⟩
                            rw [Hl.out] at m3
                            go_upto_if 283 with fail
                            go_cut [31] from 281 to 284 (fun s31 wx => s31 = .int .u64 (l : Nat) ∧ wx = W4)
                            case first =>
                              have h1 := Hl.out
                              clear m0 m1 m3 u1
                              cases hu : ru i with
                              | true =>
                                rw [hu, if_pos rfl] at h1
                                subst h1
                                go_wp2_with fail
                                go_meet
                                exact ⟨rfl, rfl⟩
                              | false =>
                                rw [hu, if_neg (by simp)] at h1
                                subst h1
                                go_wp2_with fail
                                go_meet
                                exact ⟨rfl, rfl⟩
                            obtain ⟨rfl, rfl⟩ := hcut
                            obtain ⟨W4, rfl⟩ : ∃ W, W = wc := ⟨_, rfl⟩
                            go_wp2_with fail
                            clear m0 m1 m3 u1
                            obtain ⟨v, z1, z2⟩ := HF4.out.okR hlt
                            obtain ⟨v', z3, z4⟩ := HF4.out.okD hlt
                            have q0 := fun n os => Gr.cell_of (a := W4) (b := grow (W4.drewN n) os) ⟨n, os, rfl⟩ z1
                            have q1 := fun n os => Gr.cell_of (a := W4) (b := grow (W4.drewN n) os) ⟨n, os, rfl⟩ z3
                            have cS : ∀ n os, CsOk (grow (W4.drewN n) os) v (B + 9 + 1) (i * 256) (B + 9 + 1) (768 + i * 256) := fun n os => z2 _ ⟨n, os, rfl⟩
                            have cD : ∀ n os, CsOk (grow (W4.drewN n) os) v' (B + 9 + 1 + 1 + 1) (i * 256) (B + 9 + 1 + 1 + 1) (768 + i * 256) := fun n os => z4 _ ⟨n, os, rfl⟩
                            have hmix := mixed
                            clear z1 z2 z3 z4
                            go_quiet_grown (first | (go_at_call 19; refine Calls.grown_of (CsOk.calls ?_); first | exact cS _ _ | exact cD _ _))
                            go_wp2_with fail
                            go_roundg (3 - (i + 1))
                            case measure => omega
                            case rel => exact ⟨i + 1, _, by omega, rfl, by go_num, rfl, rfl, HF4.out.gr ⟨nq, osq, rfl⟩⟩
                      · have hi' : ¬ (i : Int) < 3 := by omega
                        as_aux_lemma =>
                          obtain rfl : i = 3 := by omega
                          have y1 : wr.cell? ⟨eB, 2, none⟩ = some (.map (some mE)) := HF.out.esp
                          have y2 : wr.cell? ⟨eB, 0, none⟩ = some (.int .u64 7) := HF.out.e0
                          have y4 : (Builtin.len_ #[112] 3 #[.map (some mE)]).run Yba.prog wr = .ok (.int .i64 (m : Nat)) wr := by
                            have e : cntU us 3 = (if us 0 = true then 1 else 0) + (if us 1 = true then 1 else 0) + (if us 2 = true then 1 else 0) := by simp [cntU]
                            have := HF.out.mapE.len Yba.underlying112 3
                            rw [← e, ← Hm.out] at this
                            exact this
                          go_wp2_with fail
                          go_ret
                          exact ⟨rfl, HF.out.low⟩
    · have hlr' : ¬ (1024 : Int) < (lR : Int) := by omega
      have hlw' : (1024 : Int) < (lW : Int) := by omega
      as_aux_lemma =>
        go_enter Yba.func7, Yba.ntmps7
        go_wp2_with fail
        go_ret
        exact ⟨rfl, Below.refl _ w⟩
  · have hlr' : (1024 : Int) < (lR : Int) := by omega
    as_aux_lemma =>
      go_enter Yba.func7, Yba.ntmps7
      go_wp2_with fail
      go_ret
      exact ⟨rfl, Below.refl _ w⟩

end Go.Proofs.Ybulkbopq
