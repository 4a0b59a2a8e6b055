/-
  Plain lists: sub-options laid out, and read back. No Go in sight.
-/
namespace Go.Proofs.YbulkbomyFmt.Pl

/-- What the sub-options of code c join to. -/
def vals (es : List (Int × List Int)) (c : Int) : List Int := es.flatMap fun e => if e.1 = c then e.2 else []
def seen (es : List (Int × List Int)) (c : Int) : Bool := es.any fun e => e.1 == c
def cntA (s : List Int) : List (Int × List Int) → Nat
  | [] => 0
  | e :: r => (if s.contains e.1 then 0 else 1) + cntA (e.1 :: s) r
/-- How many different codes. -/
def cnt (es : List (Int × List Int)) : Nat := cntA [] es
def enc (es : List (Int × List Int)) : List Int := es.flatMap fun e => e.1 :: (e.2.length : Int) :: e.2

theorem vals_snoc (es : List (Int × List Int)) (k : Int) (d : List Int) (c : Int) : vals (es ++ [(k, d)]) c = if k = c then vals es c ++ d else vals es c := by
  unfold vals
  rw [List.flatMap_append]
  by_cases h : k = c <;> simp [h]

theorem seen_snoc (es : List (Int × List Int)) (k : Int) (d : List Int) (c : Int) : seen (es ++ [(k, d)]) c = (seen es c || k == c) := by
  simp [seen]

theorem cntA_snoc : ∀ (es : List (Int × List Int)) (s : List Int) (k : Int) (d : List Int), cntA s (es ++ [(k, d)]) = cntA s es + if (s.contains k || seen es k) then 0 else 1
  | [], s, k, d => by simp [cntA, seen]
  | e :: r, s, k, d => by
    rw [List.cons_append, cntA, cntA, cntA_snoc r (e.1 :: s) k d]
    have h : ((e.1 :: s).contains k || seen r k) = (s.contains k || seen (e :: r) k) := by
      rw [Bool.eq_iff_iff]
      simp only [seen, List.contains_cons, List.any_cons, Bool.or_eq_true, beq_iff_eq]
      constructor
      · rintro ((h | h) | h)
        · exact .inr (.inl h.symm)
        · exact .inl h
        · exact .inr (.inr h)
      · rintro (h | h | h)
        · exact .inl (.inr h)
        · exact .inl (.inl h.symm)
        · exact .inr h
    rw [h]
    omega

theorem cnt_snoc (es : List (Int × List Int)) (k : Int) (d : List Int) : cnt (es ++ [(k, d)]) = cnt es + if seen es k then 0 else 1 := by
  unfold cnt
  rw [cntA_snoc]
  simp

theorem enc_snoc (es : List (Int × List Int)) (k : Int) (d : List Int) : enc (es ++ [(k, d)]) = enc es ++ (k :: (d.length : Int) :: d) := by
  simp [enc]

theorem vals_length (es : List (Int × List Int)) (c : Int) : (vals es c).length ≤ (enc es).length := by
  induction es with
  | nil => simp [vals, enc]
  | cons e r ih =>
    have h1 : vals (e :: r) c = (if e.1 = c then e.2 else []) ++ vals r c := rfl
    have h2 : enc (e :: r) = (e.1 :: (e.2.length : Int) :: e.2) ++ enc r := rfl
    rw [h1, h2, List.length_append, List.length_append, List.length_cons, List.length_cons]
    split
    · omega
    · rw [List.length_nil]; omega

theorem cntA_le : ∀ (es : List (Int × List Int)) (s : List Int), cntA s es ≤ es.length
  | [], _ => by simp [cntA]
  | e :: r, s => by
    have := cntA_le r (e.1 :: s)
    rw [cntA, List.length_cons]
    split <;> omega

theorem cnt_le (es : List (Int × List Int)) : cnt es ≤ es.length := cntA_le es []

/-- The walk over code, length, data: the sub-options read; where it ended; whether all was read. -/
def parse : Nat → List Int → Nat → List (Int × List Int) × Nat × Bool
  | 0, _, i => ([], i, true)
  | _ + 1, [], i => ([], i, true)
  | _ + 1, [_], i => ([], i, false)
  | f + 1, c :: l :: r, i => if r.length < l.toNat then ([], i, false) else
      ((c, r.take l.toNat) :: (parse f (r.drop l.toNat) (i + 2 + l.toNat)).1, (parse f (r.drop l.toNat) (i + 2 + l.toNat)).2)

def all (bs : List Int) : List (Int × List Int) × Nat × Bool := parse (bs.length + 1) bs 0

/-- At offset i the sub-options es have been read. -/
def At (bs : List Int) (i : Nat) (es : List (Int × List Int)) : Prop :=
  i ≤ bs.length ∧ ∃ f, bs.length - i < f ∧ all bs = (es ++ (parse f (bs.drop i) i).1, (parse f (bs.drop i) i).2) ∧ (enc es).length = i

theorem At.start (bs : List Int) : At bs 0 [] := ⟨Nat.zero_le _, bs.length + 1, by omega, by simp [all], rfl⟩

theorem At.fin {bs : List Int} {i : Nat} {es : List (Int × List Int)} (h : At bs i es) (hi : i = bs.length) : all bs = (es, i, true) := by
  obtain ⟨_, f, hf, h, _⟩ := h
  subst hi
  rw [h]
  obtain ⟨f, rfl⟩ : ∃ g, f = g + 1 := ⟨f - 1, by omega⟩
  simp [parse]

theorem At.stray {bs : List Int} {i : Nat} {es : List (Int × List Int)} (h : At bs i es) (hi : i + 1 = bs.length) : all bs = (es, i, false) := by
  obtain ⟨_, f, hf, h, _⟩ := h
  rw [h]
  obtain ⟨f, rfl⟩ : ∃ g, f = g + 1 := ⟨f - 1, by omega⟩
  have hd : bs.drop i = [bs[i]'(by omega)] := by
    rw [List.drop_eq_getElem_cons (by omega), List.drop_of_length_le (by omega)]
  rw [hd]
  simp [parse]

theorem drop_two {bs : List Int} {i : Nat} (h : i + 1 < bs.length) : bs.drop i = bs.getD i 0 :: bs.getD (i + 1) 0 :: bs.drop (i + 2) := by
  rw [List.drop_eq_getElem_cons (by omega), List.drop_eq_getElem_cons (by omega)]
  simp [show i < bs.length by omega, h]

theorem At.short {bs : List Int} {i : Nat} {es : List (Int × List Int)} (h : At bs i es) (hi : i + 1 < bs.length) (hl : bs.length < i + 2 + (bs.getD (i + 1) 0).toNat) : all bs = (es, i, false) := by
  obtain ⟨_, f, hf, h, _⟩ := h
  rw [h]
  obtain ⟨f, rfl⟩ : ∃ g, f = g + 1 := ⟨f - 1, by omega⟩
  rw [drop_two hi, parse, if_pos (by rw [List.length_drop]; omega)]
  simp

theorem At.step {bs : List Int} {i : Nat} {es : List (Int × List Int)} (h : At bs i es) (hi : i + 1 < bs.length) (hl : i + 2 + (bs.getD (i + 1) 0).toNat ≤ bs.length) :
    At bs (i + 2 + (bs.getD (i + 1) 0).toNat) (es ++ [(bs.getD i 0, (bs.drop (i + 2)).take (bs.getD (i + 1) 0).toNat)]) := by
  obtain ⟨_, f, hf, h, he⟩ := h
  obtain ⟨f, rfl⟩ : ∃ g, f = g + 1 := ⟨f - 1, by omega⟩
  refine ⟨hl, f, by omega, ?_, ?_⟩
  · rw [h, drop_two hi, parse, if_neg (by rw [List.length_drop]; omega), List.drop_drop]
    simp [Nat.add_assoc]
  · rw [enc_snoc, List.length_append, he, List.length_cons, List.length_cons, List.length_take, List.length_drop]
    omega

theorem parse_enc : ∀ (es : List (Int × List Int)) (f i : Nat) (t : List Int), (enc es ++ t).length < f → t.length ≤ 1 → parse f (enc es ++ t) i = (es, i + (enc es).length, t.isEmpty)
  | [], f, i, t, hf, ht => by
    obtain ⟨f, rfl⟩ : ∃ g, f = g + 1 := ⟨f - 1, by omega⟩
    match t, ht with
    | [], _ => simp [enc, parse]
    | [x], _ => simp [enc, parse]
  | e :: r, f, i, t, hf, ht => by
    obtain ⟨f, rfl⟩ : ∃ g, f = g + 1 := ⟨f - 1, by omega⟩
    have he : enc (e :: r) ++ t = e.1 :: (e.2.length : Int) :: (e.2 ++ (enc r ++ t)) := by simp [enc]
    have hlen : (enc (e :: r)).length = 2 + e.2.length + (enc r).length := by simp [enc]; omega
    rw [he, parse, Int.toNat_natCast, if_neg (by simp), List.take_left, List.drop_left, parse_enc r f _ t (by rw [he] at hf; simp at hf ⊢; omega) ht]
    rw [hlen]
    simp
    omega

theorem all_enc (es : List (Int × List Int)) (t : List Int) (ht : t.length ≤ 1) : all (enc es ++ t) = (es, (enc es).length, t.isEmpty) := by
  unfold all
  rw [parse_enc es _ 0 t (by omega) ht]
  simp

end Go.Proofs.YbulkbomyFmt.Pl
