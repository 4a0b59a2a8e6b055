/-
  decodeOptions and DecodeSubOptions by their contracts.
-/
import Derived.Test.YbulkbomyFmtWalk
namespace Go.Proofs.YbulkbomyFmt
open Go.RowKit

set_option maxRecDepth 100000 in
set_option maxHeartbeats 400000 in
theorem walk_none (w : World) (a : Option Addr) (cap bx b : Nat) (s : ByteArray) (hmap : MapIs w .u8 b (fun _ => none) 0) :
    Calls Ybaf.prog 21 #[.slice a 0 cap, .int .i64 0, .agg #[.bool false, .string s], .func (.func 22) #[] #[.pointer (some ⟨bx, 0, none⟩)]] w fun e w' => Below b w w' ∧ e = .returned .nilIface ∧ Dec w' (w.heap.size + 1) b [] := by
  have hb0 : b < w.heap.size := hmap.lt
  have hW : Below w.heap.size w (w.alloc (.cells #[.bool false, .string s] 61)) := (Below.refl _ w).alloc (Nat.le_refl _) _
  have hdec : Dec (w.alloc (.cells #[.bool false, .string s] 61)) (w.heap.size + 1) b [] :=
    ⟨fun _ => none, fun _ => .slice none 0 0, hmap.of_block (hW.block b hb0), Fam.zero _ _ _, fun _ _ => rfl⟩
  go_enter Ybaf.func21, Ybaf.ntmps21
  go_wp2_with fail
  refine wp_loop_rounds 1 ?_
  rw [rounds_succ]
  go_wp2
  go_ret
  exact ⟨hW.mono (Nat.le_of_lt hb0), rfl, hdec⟩

/-- walkOptions, whatever the payload's length. -/
theorem walk_any (w : World) (a : Option Addr) (cap bx b : Nat) (bs : List Int) (s : ByteArray) (hmax : bs.length ≤ 1048576) (hcap : bs.length ≤ cap) (hcm : cap ≤ maxLen) (hbytes : ∀ x ∈ bs, 0 ≤ x ∧ x ≤ 255)
    (hcell : 0 < bs.length → ∃ pb po, a = some ⟨pb, po, none⟩ ∧ ∀ j, j < bs.length → w.cell? ⟨pb, po + j, none⟩ = some (.int .u8 (bs.getD j 0))) (hmap : MapIs w .u8 b (fun _ => none) 0) (hbx : bx ≠ b) (hbox : w.cell? ⟨bx, 0, none⟩ = some (.map (some b))) :
    Calls Ybaf.prog 21 #[.slice a bs.length cap, .int .i64 0, .agg #[.bool false, .string s], .func (.func 22) #[] #[.pointer (some ⟨bx, 0, none⟩)]] w fun e w' => Below b w w' ∧
      (((Pl.all bs).2.2 = true ∧ e = .returned .nilIface ∧ Dec w' (w.heap.size + 1) b (Pl.all bs).1) ∨ ((Pl.all bs).2.2 = false ∧ ∃ p, e = .returned (.iface 39 (.pointer (some ⟨p, 0, none⟩))) ∧ w'.cell? ⟨p, 0, none⟩ = some (.int .i64 (Pl.all bs).2.1))) := by
  rcases Nat.eq_zero_or_pos bs.length with h0 | h0
  · have hn : bs = [] := List.eq_nil_of_length_eq_zero h0
    subst hn
    refine (walk_none w a cap bx b s hmap).mono ?_
    rintro e w' ⟨h1, h2, h3⟩
    exact ⟨h1, .inl ⟨rfl, h2, h3⟩⟩
  · obtain ⟨pb, po, rfl, hc⟩ := hcell h0
    exact walk_some w pb po cap bx b bs s h0 hmax hcap hcm hbytes hc hmap hbx hbox

set_option maxRecDepth 100000 in
set_option maxHeartbeats 400000 in
theorem opts_any (w : World) (a : Option Addr) (cap b : Nat) (bs : List Int) (s : ByteArray) (hmax : bs.length ≤ 1048576) (hcap : bs.length ≤ cap) (hcm : cap ≤ maxLen) (hbytes : ∀ x ∈ bs, 0 ≤ x ∧ x ≤ 255)
    (hcell : 0 < bs.length → ∃ pb po, a = some ⟨pb, po, none⟩ ∧ ∀ j, j < bs.length → w.cell? ⟨pb, po + j, none⟩ = some (.int .u8 (bs.getD j 0))) (hmap : MapIs w .u8 b (fun _ => none) 0) :
    Calls Ybaf.prog 18 #[.map (some b), .slice a bs.length cap, .int .i64 0, .agg #[.bool false, .string s]] w fun e w' => Below b w w' ∧
      (((Pl.all bs).2.2 = true ∧ e = .returned .nilIface ∧ ∃ base, Dec w' base b (Pl.all bs).1) ∨ ((Pl.all bs).2.2 = false ∧ ∃ p, e = .returned (.iface 39 (.pointer (some ⟨p, 0, none⟩))) ∧ w'.cell? ⟨p, 0, none⟩ = some (.int .i64 (Pl.all bs).2.1))) := by
  have hb0 : b < w.heap.size := hmap.lt
  go_enter Ybaf.func18, Ybaf.ntmps18
  go_wp2_with fail
  have hB : Below w.heap.size w ((w.alloc (.cells #[.map (some b)] 31)).alloc (.cells #[.bool false, .string s] 61)) := ((Below.refl _ w).alloc (Nat.le_refl _) _).alloc (by simp) _
  have hbox : ((w.alloc (.cells #[.map (some b)] 31)).alloc (.cells #[.bool false, .string s] 61)).cell? ⟨w.heap.size, 0, none⟩ = some (.map (some b)) := by simp
  generalize hw2 : (w.alloc (.cells #[.map (some b)] 31)).alloc (.cells #[.bool false, .string s] 61) = w2 at *
  clear hw2
  refine (walk_any w2 a cap w.heap.size b bs s hmax hcap hcm hbytes (fun h => by
    obtain ⟨pb, po, e, hc⟩ := hcell h
    exact ⟨pb, po, e, fun j hj => by rw [hB.cell (block_lt_of_cell (hc j hj))]; exact hc j hj⟩) (hmap.of_block (hB.block b hb0)) (by omega) hbox).mono ?_
  rintro e w' ⟨h1, h2⟩
  have hBw : Below b w w' := (hB.mono (Nat.le_of_lt hb0)).trans h1
  rcases h2 with ⟨h2, rfl, h3⟩ | ⟨h2, p, rfl, h3⟩
  · have H2 : Hid ((Pl.all bs).2.2 = true) := h2
    clear h2
    go_wp2
    go_ret
    exact ⟨hBw, .inl ⟨H2.out, rfl, _, h3⟩⟩
  · have H2 : Hid ((Pl.all bs).2.2 = false) := h2
    have H3 : Hid (w'.cell? ⟨p, 0, none⟩ = some (.int .i64 (Pl.all bs).2.1)) := h3
    clear h2 h3
    go_wp2
    go_ret
    exact ⟨hBw, .inr ⟨H2.out, p, rfl, H3.out⟩⟩

set_option maxRecDepth 100000 in
set_option maxHeartbeats 400000 in
theorem decode_any (w : World) (a : Option Addr) (cap : Nat) (bs : List Int) (s : ByteArray) (hmax : bs.length ≤ 1048576) (hcap : bs.length ≤ cap) (hcm : cap ≤ maxLen) (hbytes : ∀ x ∈ bs, 0 ≤ x ∧ x ≤ 255)
    (hcell : 0 < bs.length → ∃ pb po, a = some ⟨pb, po, none⟩ ∧ ∀ j, j < bs.length → w.cell? ⟨pb, po + j, none⟩ = some (.int .u8 (bs.getD j 0)))
    (hg0 : w.cell? ⟨1, 0, none⟩ = some (.bool false)) (hg1 : w.cell? ⟨1, 1, none⟩ = some (.string s)) :
    Calls Ybaf.prog 11 #[.slice a bs.length cap] w fun e w' => Below w.heap.size w w' ∧
      (((Pl.all bs).2.2 = true ∧ e = .returned (.tuple #[.map (some w.heap.size), .nilIface]) ∧ ∃ base, Dec w' base w.heap.size (Pl.all bs).1) ∨
       ((Pl.all bs).2.2 = false ∧ ∃ p, e = .returned (.tuple #[.map none, .iface 39 (.pointer (some ⟨p, 0, none⟩))]) ∧ w'.cell? ⟨p, 0, none⟩ = some (.int .i64 (Pl.all bs).2.1))) := by
  have hmm := @run_makeMap Ybaf.prog
  have hb1 : 1 < w.heap.size := block_lt_of_cell hg0
  go_enter Ybaf.func11, Ybaf.ntmps11
  go_wp2_with fail
  have hB : Below w.heap.size w (w.alloc (.map #[] 0)) := (Below.refl _ w).alloc (Nat.le_refl _) _
  have hmap : MapIs (w.alloc (.map #[] 0)) .u8 w.heap.size (fun _ => none) 0 := MapIs.made w .u8
  generalize hw2 : w.alloc (.map #[] 0) = w2 at *
  clear hw2
  refine (opts_any w2 a cap w.heap.size bs s hmax hcap hcm hbytes (fun h => by
    obtain ⟨pb, po, e, hc⟩ := hcell h
    exact ⟨pb, po, e, fun j hj => by rw [hB.cell (block_lt_of_cell (hc j hj))]; exact hc j hj⟩) hmap).mono ?_
  rintro e w' ⟨h1, h2⟩
  have hBw : Below w.heap.size w w' := hB.trans h1
  rcases h2 with ⟨h2, rfl, h3⟩ | ⟨h2, p, rfl, h3⟩
  · have H2 : Hid ((Pl.all bs).2.2 = true) := h2
    clear h2
    go_wp2
    go_ret2
    exact ⟨hBw, .inl ⟨H2.out, rfl, h3⟩⟩
  · have H2 : Hid ((Pl.all bs).2.2 = false) := h2
    have H3 : Hid (w'.cell? ⟨p, 0, none⟩ = some (.int .i64 (Pl.all bs).2.1)) := h3
    clear h2 h3
    go_wp2
    go_ret2
    exact ⟨hBw, .inr ⟨H2.out, p, rfl, H3.out⟩⟩

end Go.Proofs.YbulkbomyFmt
