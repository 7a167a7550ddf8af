import PyProof.Rows.All
import Wide.All
import OpenK.AllK
import Wide.FinOn
import Lean
import PySem.Challenge.RW_uy0009_02
set_option Elab.async false
section
open PySem PySem.W PyProof.Rows Builtin Builtin.Str PySem.StrLaws

namespace Mine

/-- the place of y in x between lo and hi, or -1: str.find with two bounds -/
noncomputable def find4 (x y : Str) (lo hi : Int) : Int :=
  match occurrences x y (PySem.fromIndex x.length lo) (min (PySem.fromIndex x.length hi) x.length) 1 with
  | k :: _ => (k : Int)
  | [] => -1

theorem gives_find4 (x y : Str) (i j : Int) (t u v v' : Tok) : Gives («str.find» ⟨[.str x t, .str y u, .int i v, .int j v'], []⟩) (.int (find4 x y i j)) := by
  show Gives (match occurrences x y (fromIndex x.length i) (min (fromIndex x.length j) x.length) 1 with | k :: _ => retInt k | [] => (do rule "str.find.not-found"; retInt (-1))) _
  unfold find4
  cases occurrences x y (fromIndex x.length i) (min (fromIndex x.length j) x.length) 1 with
  | nil => exact .rule (.of_eq rfl)
  | cons k _ => exact .of_eq rfl

theorem call_find4 {prog : Program} {w : World} {A : Around} {E : Value → Shared → Prop} {s : Shared} {x y : Str} {t u v v' : Tok} {i j : Int} {Q : Value → Shared → Prop}
    (hq : Q (.int (find4 x y i j) s.toks) { s with toks := s.toks + 1 }) : wpAny (model prog w) A (call (.builtin "str.find") [.str x t, .str y u, .int i v, .int j v']) Q E s :=
  call_gives F.slot_str_find (typeIs_str _ _ _) F.entry_str_find (F.args_str_find_4 _ _ _ _) (gives_find4 x y i j t u v v') hq

theorem occ_first_from (x y : Str) (lo hi : Nat) :
    (occurrences x y lo hi 1 = [] ∧ ∀ i, lo ≤ i → ¬ At x y hi i) ∨
    ∃ i r, occurrences x y lo hi 1 = i :: r ∧ lo ≤ i ∧ At x y hi i ∧ ∀ k, lo ≤ k → k < i → ¬ At x y hi k := by
  rw [occ_eq]
  rcases occ_first x y hi 1 (Nat.le_refl _) (List.range' lo (hi + 1 - lo)) lo (fun i hi => by have := List.mem_range'_1.mp hi; omega) with ⟨h0, hn⟩ | ⟨pre, a, post, e, h0, ha, hn⟩
  · refine .inl ⟨by rw [h0], fun i hlo hi => ?_⟩
    exact hn i (by have := hi.1; rw [List.mem_range'_1]; omega) hi
  · have hs := range'_split_from e
    generalize (forIn (List.range' lo (hi + 1 - lo)) ((#[] : Array Nat), lo) (occBody x y hi 1)).run.fst = arr at h0
    have h1 : arr.toList[0]? = some a := by simpa using h0
    refine .inr ⟨a, arr.toList.tail, ?_, hs.1, ha, fun k hk0 hk => hn k (hs.2 k hk0 hk)⟩
    cases hL : arr.toList with
    | nil => rw [hL] at h1; cases h1
    | cons b t => rw [hL] at h1; simp at h1; rw [h1]; rfl

theorem fromIndex_nat (n k : Nat) : PySem.fromIndex n (k : Int) = k := by
  unfold PySem.fromIndex
  rw [if_neg (by omega)]
  omega

theorem find4_spec (x y : Str) (lo hi : Nat) (hh : hi ≤ x.length) :
    (find4 x y lo hi = -1 ∧ ∀ i, lo ≤ i → ¬ At x y hi i) ∨ ∃ i : Nat, find4 x y lo hi = (i : Int) ∧ lo ≤ i ∧ At x y hi i ∧ ∀ k, lo ≤ k → k < i → ¬ At x y hi k := by
  unfold find4
  rw [fromIndex_nat, fromIndex_nat, Nat.min_eq_left hh]
  rcases occ_first_from x y lo hi with ⟨e, h⟩ | ⟨i, r, e, h1, h2, h3⟩
  · rw [e]; exact .inl ⟨rfl, h⟩
  · rw [e]; exact .inr ⟨i, rfl, h1, h2, h3⟩

/-! ### the function -/
noncomputable abbrev dots : Str := Str.ofString "..."

/-- the last loop of _ellipsis_match -/
noncomputable def emLoop (got : Str) : List Str → Int → Int → Bool
  | [], _, _ => true
  | w :: r, sp, ep => if find4 got w sp ep < 0 then false else emLoop got r (find4 got w sp ep + (w.length : Int)) ep

/-- what goes on behind the head and the last part -/
noncomputable def emTail (got : Str) (ws : List Str) (sp ep : Int) : Bool := if sp > ep then false else emLoop got ws sp ep

/-- the last part -/
noncomputable def emLast (got : Str) (ws : List Str) (sp : Int) : Bool :=
  if (ws.getLastD Str.empty).length = 0 then emTail got ws sp got.length
  else if Txt.endswith got (ws.getLastD Str.empty) then emTail got ws.dropLast sp (got.length - (ws.getLastD Str.empty).length)
  else false

/-- the first part -/
noncomputable def emHead (got : Str) (ws : List Str) : Bool :=
  if (ws.headD Str.empty).length = 0 then emLast got ws 0
  else if Txt.startswith got (ws.headD Str.empty) then emLast got ws.tail (ws.headD Str.empty).length
  else false

/-- _ellipsis_match -/
noncomputable def em (want got : Str) : Bool :=
  if Txt.contains want dots then emHead got (Txt.split want dots) else want == got

/-! ### what it means -/
noncomputable abbrev ls (x : Str) : List Nat := x.cps.toList
theorem ls_length (x : Str) : (ls x).length = x.length := by simp [ls, Str.length]
theorem ls_append (x y : Str) : ls (x ++ y) = ls x ++ ls y := by simp [ls, Str.cps_append]
theorem ls_inj {x y : Str} (h : ls x = ls y) : x = y := Str.ext' (Array.toList_inj.mp h)
theorem dots_ls : ls dots = [46, 46, 46] := by decide +kernel
theorem dots_len : dots.length = 3 := by decide +kernel

theorem at_iff {x y : Str} {hi i : Nat} : At x y hi i ↔ i + y.length ≤ hi ∧ ((ls x).drop i).take y.length = ls y := by
  unfold At
  rw [subAt_eq]
  simp

/-- the middle parts find their places one behind the other -/
noncomputable def Placed (got : Str) (ep : Nat) : List Str → Nat → Prop
  | [], lo => lo ≤ ep
  | w :: r, lo => ∃ k, lo ≤ k ∧ At got w ep k ∧ Placed got ep r (k + w.length)

theorem Placed.anti {got : Str} {ep : Nat} : ∀ {ws : List Str} {lo lo' : Nat}, lo' ≤ lo → Placed got ep ws lo → Placed got ep ws lo'
  | [], _, _, h, p => Nat.le_trans h p
  | _ :: _, _, _, h, ⟨k, hk, p⟩ => ⟨k, Nat.le_trans h hk, p⟩

theorem emLoop_iff (got : Str) (ep : Nat) (he : ep ≤ got.length) : ∀ (ws : List Str) (lo : Nat), lo ≤ ep → (emLoop got ws lo ep = true ↔ Placed got ep ws lo)
  | [], lo, h => by simp [emLoop, Placed, h]
  | w :: r, lo, h => by
    unfold emLoop Placed
    rcases find4_spec got w lo ep he with ⟨e, hn⟩ | ⟨i, e, h1, h2, h3⟩
    · rw [e]
      simp only [show ((-1 : Int) < 0) = True by simp, if_true, Bool.false_eq_true, false_iff]
      rintro ⟨k, hk, ha, _⟩
      exact hn k hk ha
    · rw [e, if_neg (by omega)]
      have hz := h2.1
      have ih := emLoop_iff got ep he r (i + w.length) hz
      have e2 : ((i : Int) + (w.length : Int)) = ((i + w.length : Nat) : Int) := by omega
      rw [e2, ih]
      constructor
      · intro p; exact ⟨i, h1, h2, p⟩
      · rintro ⟨k, hk, ha, p⟩
        refine p.anti ?_
        have : i ≤ k := Nat.le_of_not_lt fun c => h3 k hk c ha
        omega

/-- no dot in it -/
noncomputable def Plain (x : Str) : Prop := 46 ∉ ls x

theorem at_dots {x : Str} {i : Nat} (h : At x dots x.length i) : (ls x)[i]? = some 46 ∧ (ls x)[i + 1]? = some 46 ∧ (ls x)[i + 2]? = some 46 := by
  have h2 := (at_iff.mp h).2
  rw [dots_len, dots_ls] at h2
  have e : ∀ j, j < 3 → (ls x)[i + j]? = ([46, 46, 46] : List Nat)[j]? := by
    intro j hj
    rw [← h2, List.getElem?_take_of_lt hj, List.getElem?_drop]
  exact ⟨e 0 (by omega), e 1 (by omega), e 2 (by omega)⟩

theorem plain_contains {x : Str} (h : Plain x) : Txt.contains x dots = false := by
  unfold Txt.contains
  rw [Bool.eq_false_iff]
  intro hc
  obtain ⟨i, h1, h2⟩ := (found_iff x dots).mp hc
  exact h (List.mem_of_getElem? (at_dots (x := x) (i := i) ⟨h1, h2⟩).1)

theorem em_plain {x y : Str} (h : Plain x) : em x y = (x == y) := by
  unfold em
  rw [plain_contains h]
  rfl

theorem ls_join_cons (p q : Str) (r : List Str) : ls (Str.join dots (p :: q :: r)) = ls p ++ ([46, 46, 46] ++ ls (Str.join dots (q :: r))) := by
  show ls (p ++ dots ++ Str.join dots (q :: r)) = _
  rw [ls_append, ls_append, dots_ls, List.append_assoc]

/-- the greedy cuts of a text that was glued are the glue's places -/
theorem parts_of (x : Str) (f : Nat) (hf : ∀ k, f ≤ k → ¬ At x dots x.length k) : ∀ (ps : List Str) (p : Str) (pre : List Nat) (cuts : List Nat),
    (∀ q ∈ p :: ps, Plain q) → ls x = pre ++ ls (Str.join dots (p :: ps)) → ChainG x dots x.length pre.length cuts f → partsFrom x 3 pre.length cuts = p :: ps
  | [], p, pre, cuts, hp, hx, hc => by
    have hx' : ls x = pre ++ ls p := hx
    have hno : ∀ k, pre.length ≤ k → ¬ At x dots x.length k := by
      intro k hk ha
      have h1 := (at_dots ha).1
      rw [hx', List.getElem?_append_right hk] at h1
      exact hp p (.head _) (List.mem_of_getElem? h1)
    cases cuts with
    | nil =>
      show [strSub x pre.length x.length] = [p]
      congr 1
      apply ls_inj
      show ls (strSub x pre.length x.length) = ls p
      unfold ls
      rw [strSub_toList]
      show ((ls x).drop pre.length).take (x.length - pre.length) = ls p
      rw [hx', List.drop_left, List.take_of_length_le]
      rw [← ls_length x, hx', List.length_append]; omega
    | cons c r =>
      exact absurd hc.2.1 (hno c hc.1)
  | q :: r, p, pre, cuts, hp, hx, hc => by
    rw [ls_join_cons] at hx
    have hlen : x.length = pre.length + ((ls p).length + (3 + (ls (Str.join dots (q :: r))).length)) := by
      rw [← ls_length x, hx]; simp only [List.length_append, List.length_cons, List.length_nil]
    have hat : At x dots x.length (pre.length + (ls p).length) := by
      rw [at_iff, dots_len, dots_ls]
      refine ⟨by omega, ?_⟩
      rw [hx, ← List.append_assoc, List.drop_append_of_le_length (by simp), List.drop_of_length_le (by simp)]
      rfl
    have hno : ∀ k, pre.length ≤ k → k < pre.length + (ls p).length → ¬ At x dots x.length k := by
      intro k hk hk2 ha
      have h1 := (at_dots ha).1
      rw [hx, List.getElem?_append_right hk, List.getElem?_append_left (by omega)] at h1
      exact hp p (.head _) (List.mem_of_getElem? h1)
    cases cuts with
    | nil =>
      have e : f = pre.length := hc
      exact absurd hat (hf _ (by omega))
    | cons c r' =>
      obtain ⟨h1, h2, h3, h4⟩ := hc
      have ec : c = pre.length + (ls p).length := by
        rcases Nat.lt_trichotomy c (pre.length + (ls p).length) with h | h | h
        · exact absurd h2 (hno c h1 h)
        · exact h
        · exact absurd hat (h3 _ (by omega) h)
      subst ec
      show strSub x pre.length (pre.length + (ls p).length) :: partsFrom x 3 (pre.length + (ls p).length + 3) r' = p :: q :: r
      have e1 : strSub x pre.length (pre.length + (ls p).length) = p := by
        apply ls_inj
        unfold ls
        rw [strSub_toList]
        show ((ls x).drop pre.length).take (pre.length + (ls p).length - pre.length) = ls p
        rw [hx, List.drop_left, Nat.add_sub_cancel_left, List.take_left]
      have e2 := parts_of x f hf r q (pre ++ ls p ++ [46, 46, 46]) r' (fun z hz => hp z (.tail _ hz)) (by rw [hx]; simp) (by
        rw [dots_len] at h4
        have e3 : (pre ++ ls p ++ [46, 46, 46]).length = pre.length + (ls p).length + 3 := by simp only [List.length_append, List.length_cons, List.length_nil]
        rw [e3]; exact h4)
      rw [e1]
      have e3 : (pre ++ ls p ++ [46, 46, 46]).length = pre.length + (ls p).length + 3 := by simp only [List.length_append, List.length_cons, List.length_nil]
      rw [e3] at e2
      rw [e2]

theorem join_contains (p q : Str) (r : List Str) : Txt.contains (Str.join dots (p :: q :: r)) dots = true := by
  unfold Txt.contains
  rw [found_iff]
  refine ⟨p.length, ?_⟩
  have : At (Str.join dots (p :: q :: r)) dots (Str.join dots (p :: q :: r)).length p.length := by
    rw [at_iff, dots_len, dots_ls, ls_join_cons, ← ls_length p, ← ls_length (Str.join dots (p :: q :: r)), ls_join_cons]
    refine ⟨by simp, ?_⟩
    rw [List.drop_left]; rfl
  exact this

theorem kind_dots : Builtin.Str.strKind dots = 1 := by decide +kernel
theorem kind_ge (x : Str) : 1 ≤ Builtin.Str.strKind x := by
  unfold Builtin.Str.strKind
  split
  · omega
  · split <;> omega

theorem split_join (p q : Str) (r : List Str) (h : ∀ z ∈ p :: q :: r, Plain z) : Txt.split (Str.join dots (p :: q :: r)) dots = p :: q :: r := by
  have hc := join_contains p q r
  obtain ⟨i, hi, _⟩ := (found_iff _ _).mp hc
  unfold Txt.split
  rw [if_neg (by
    rw [kind_dots]
    have := kind_ge (Str.join dots (p :: q :: r))
    simp only [Bool.or_eq_true, decide_eq_true_eq]
    omega)]
  obtain ⟨f, h1, h2⟩ := occ_tight (Str.join dots (p :: q :: r)) dots (by rw [dots_len]; omega)
  have key := parts_of _ f h2 (q :: r) p [] _ h (by simp) h1
  split
  · rename_i he
    rw [List.isEmpty_iff.mp he] at key
    have hk : ([strSub (Str.join dots (p :: q :: r)) 0 (Str.join dots (p :: q :: r)).length] : List Str) = p :: q :: r := key
    have := congrArg List.length hk
    simp at this
  · rw [partsBetween_eq, dots_len]
    exact key

theorem startswith_iff (x y : Str) : Txt.startswith x y = true ↔ y.length ≤ x.length ∧ (ls x).take y.length = ls y := by
  unfold Txt.startswith
  rw [subAt_eq]
  simp
theorem endswith_iff (x y : Str) : Txt.endswith x y = true ↔ y.length ≤ x.length ∧ ((ls x).drop (x.length - y.length)).take y.length = ls y := by
  unfold Txt.endswith
  rw [subAt_eq]
  simp

/-- the meaning of _ellipsis_match on parts glued by dots -/
theorem em_iff (a b : Str) (mid : List Str) (h : ∀ z ∈ a :: (mid ++ [b]), Plain z) (y : Str) :
    em (Str.join dots (a :: (mid ++ [b]))) y = true ↔
      Txt.startswith y a = true ∧ Txt.endswith y b = true ∧ a.length + b.length ≤ y.length ∧ Placed y (y.length - b.length) mid a.length := by
  obtain ⟨q, r, e⟩ : ∃ q r, mid ++ [b] = q :: r := by
    cases mid with
    | nil => exact ⟨b, [], rfl⟩
    | cons m ms => exact ⟨m, ms ++ [b], rfl⟩
  unfold em
  rw [e] at h ⊢
  rw [join_contains, if_pos rfl, split_join a q r h]
  -- the tail, for any list that ends with b
  have last : ∀ (ws : List Str) (sp : Nat), emLast y (ws ++ [b]) sp = true ↔ Txt.endswith y b = true ∧ sp + b.length ≤ y.length ∧ Placed y (y.length - b.length) ws sp := by
    intro ws sp
    unfold emLast
    have e1 : (ws ++ [b]).getLastD Str.empty = b := by simp
    have e2 : (ws ++ [b]).dropLast = ws := by simp
    rw [e1, e2]
    by_cases hb : b.length = 0
    · rw [if_pos hb]
      have hE : Txt.endswith y b = true := by
        rw [endswith_iff, hb]
        have : ls b = [] := by rw [← List.length_eq_zero_iff, ls_length, hb]
        rw [this]; simp
      unfold emTail
      have addE : ∀ (vs : List Str) (lo : Nat), Placed y y.length (vs ++ [b]) lo ↔ Placed y y.length vs lo := by
        intro vs
        induction vs with
        | nil =>
          intro lo
          show (∃ k, lo ≤ k ∧ At y b y.length k ∧ k + b.length ≤ y.length) ↔ lo ≤ y.length
          have hlb : ls b = [] := by rw [← List.length_eq_zero_iff, ls_length, hb]
          constructor
          · rintro ⟨k, h1, _, h3⟩; omega
          · intro hl
            refine ⟨lo, Nat.le_refl _, ?_, by omega⟩
            rw [at_iff, hb, hlb]
            simp [hl]
        | cons v vs ih =>
          intro lo
          show (∃ k, lo ≤ k ∧ At y v y.length k ∧ Placed y y.length (vs ++ [b]) (k + v.length)) ↔ (∃ k, lo ≤ k ∧ At y v y.length k ∧ Placed y y.length vs (k + v.length))
          simp only [ih]
      rw [hb, Nat.sub_zero]
      simp only [hE, true_and, Nat.add_zero]
      by_cases hs : sp ≤ y.length
      · rw [if_neg (by omega), emLoop_iff y y.length (Nat.le_refl _) _ _ hs, addE]
        simp [hs]
      · rw [if_pos (by omega)]
        simp [hs]
    · rw [if_neg hb]
      by_cases hE : Txt.endswith y b = true
      · rw [if_pos hE]
        have hl := ((endswith_iff _ _).mp hE).1
        have e3 : ((y.length : Int) - (b.length : Int)) = ((y.length - b.length : Nat) : Int) := by omega
        rw [e3]
        unfold emTail
        by_cases hs : sp ≤ y.length - b.length
        · rw [if_neg (by omega), emLoop_iff y (y.length - b.length) (by omega) _ _ hs]
          constructor
          · intro p; exact ⟨hE, by omega, p⟩
          · exact fun p => p.2.2
        · rw [if_pos (by omega)]
          simp only [Bool.false_eq_true, false_iff]
          rintro ⟨_, h2, _⟩
          omega
      · rw [if_neg hE]
        simp [hE]
  unfold emHead
  have e4 : (a :: q :: r).headD Str.empty = a := rfl
  have e5 : (a :: q :: r).tail = q :: r := rfl
  rw [e4, e5, ← e]
  by_cases ha : a.length = 0
  · rw [if_pos ha]
    have hla : ls a = [] := by rw [← List.length_eq_zero_iff, ls_length, ha]
    have hS : Txt.startswith y a = true := by rw [startswith_iff, ha, hla]; simp
    have := last (a :: mid) 0
    rw [List.cons_append] at this
    have e6 : ((0 : Nat) : Int) = 0 := rfl
    rw [e6] at this
    rw [this, ha]
    simp only [hS, true_and, Nat.zero_add]
    constructor
    · rintro ⟨h1, h2, k, _, hk, p⟩
      exact ⟨h1, h2, p.anti (Nat.zero_le _)⟩
    · rintro ⟨h1, h2, p⟩
      refine ⟨h1, h2, 0, Nat.le_refl _, ?_, by rw [ha]; exact p⟩
      rw [at_iff, ha, hla]
      simp
  · rw [if_neg ha]
    by_cases hS : Txt.startswith y a = true
    · rw [if_pos hS, last mid a.length]
      simp only [hS, true_and]
    · rw [if_neg hS]
      simp [hS]

end Mine
end
section
namespace Mine

/-- Thue, Morse: is the number of ones odd -/
noncomputable def tm (n : Nat) : Bool := if h : n = 0 then false else xor (n % 2 == 1) (tm (n / 2))
termination_by n
decreasing_by omega

/-- does the number end with an odd number of ones -/
noncomputable def oddOnes (n : Nat) : Bool := if n % 4 = 3 then oddOnes (n / 4) else n % 2 == 1
termination_by n
decreasing_by omega

/-- _law_square -/
noncomputable def square (place size : Nat) : Bool :=
  if h : size % 2 = 0 ∧ 0 < size then
    if place % 2 = 1 then false else square (place / 2) (size / 2)
  else if size = 1 then oddOnes place
  else size == 3 && place % 2 == 1 && oddOnes (place / 2) && oddOnes (place / 2 + 2)
termination_by size
decreasing_by omega

/-! the finite part: n = 16 m + r -/
/-- oddOnes of 2 ^ w m + r, by oddOnes of m -/
noncomputable def ob : Nat → Bool → Nat → Bool
  | 0, o, _ => o
  | w + 1, o, r => if r % 2 = 0 then false else !ob w o (r / 2)
/-- the letter at place r of the 32 from 16 m on -/
noncomputable def fT (a b : Bool) (j : Nat) : Bool := if j < 16 then xor a (tm j) else xor b (tm (j - 16))
/-- square at 2 ^ w m + r -/
noncomputable def sq : Nat → Bool → Nat → Nat → Bool
  | 0, _, _, _ => false
  | w + 1, o, r, size =>
    if size % 2 = 0 then (if r % 2 = 1 then false else sq w o (r / 2) (size / 2))
    else if size = 1 then ob (w + 1) o r
    else size == 3 && r % 2 == 1 && ob w o (r / 2) && (if r / 2 + 2 < 2 ^ w then ob w o (r / 2 + 2) else ob w false (r / 2 + 2 - 2 ^ w))
/-- squares of 5 and 7, at each rest -/
theorem table : ∀ a b : Bool, ∀ r, r < 16 → ∀ s, s < 8 → ((List.range (s + 1)).all fun i => fT a b (r + i) == fT a b (r + (s + 1) + i)) = sq 4 (a == b) r (s + 1) := by
  decide +kernel

end Mine
end
section
open PySem PySem.W PyProof.Rows PySem.Calls
set_option maxRecDepth 100000
namespace Mine
section
variable {prog : Program} {w : World} {A : Around} {E : Value → Shared → Prop} {s : Shared} {env : Env} {h₀ : Heap} {x : Str} {body : List Stmt} {Q : Flow → Shared → Prop}

/-- the frame between the turns: the loop's own name and the junk names hold anything, the others what the state says -/
noncomputable def frMap {σ : Type} (Ms : σ → Str → Option Value) (junk : List Str) (u : Str → Option Value) (c : σ) : Str → Option Value :=
  fun y => if junk.contains y then u y else Ms c y

/-- a turn's end -/
noncomputable def StEnd {σ : Type} (h₀ : Heap) (L : Addr) (x : Str) (Ms : σ → Str → Option Value) (junk : List Str) (Inv : σ → Prop) (news : List (Addr × Obj)) (s₁ s₂ : Shared) : Prop :=
  ∃ (c : σ) (h' : Heap) (tk : Nat) (m' : Str → Option Value) (news' : List (Addr × Obj)), s₂ = { s₁ with heap := h', toks := tk } ∧ Fr h₀ L h' m' ∧ News h₀ L h' news' ∧ (∀ p ∈ news, p ∈ news') ∧ Inv c ∧ ∀ z, z ≠ x → junk.contains z = false → m' z = Ms c z
noncomputable def StPost {σ : Type} (h₀ : Heap) (L : Addr) (x : Str) (Ms : σ → Str → Option Value) (junk : List Str) (Inv : σ → Prop) (news : List (Addr × Obj)) (Q : Flow → Shared → Prop) (s₁ : Shared) (f : Flow) (s₂ : Shared) : Prop :=
  match f with
  | .ret v => Q (.ret v) s₂
  | .brk => Q .next s₂
  | _ => StEnd h₀ L x Ms junk Inv news s₁ s₂

theorem st_end {σ : Type} {L : Addr} {Ms : σ → Str → Option Value} {junk : List Str} {Inv : σ → Prop} {news news' : List (Addr × Obj)} {s₁ : Shared} {h' : Heap} {tk : Nat} {m' : Str → Option Value} (c : σ)
    (F : Fr h₀ L h' m') (N : News h₀ L h' news') (hn : ∀ p ∈ news, p ∈ news') (hi : Inv c) (hm : ∀ z, z ≠ x → junk.contains z = false → m' z = Ms c z) :
    StEnd h₀ L x Ms junk Inv news s₁ { s₁ with heap := h', toks := tk } := ⟨c, h', tk, m', news', rfl, F, N, hn, hi, hm⟩

theorem loop_st {σ : Type} {I : Addr} {fp wr : List Addr} {n : Nat} {P : Nat → Value → Prop} {St : Nat → Heap → Prop} {m₀ : Str → Option Value} {news : List (Addr × Obj)}
    (Ms : σ → Str → Option Value) (junk : List Str) (Inv : Nat → σ → Prop) (c₀ : σ)
    (W : Walks prog w A I fp wr n P St) (hLf : env.locals ∉ fp) (hwr : ∀ b ∈ wr, h₀.get? b = none) (hnw : ∀ p ∈ news, p.1 ∉ wr) (hfp : ∀ q ∈ news, q.1 ∉ fp) (hst : St 0 s.heap) (F : Fr h₀ env.locals s.heap m₀) (N : News h₀ env.locals s.heap news)
    (h0 : ∀ z, z ≠ x → junk.contains z = false → m₀ z = Ms c₀ z) (hi : Inv 0 c₀)
    (turn : ∀ i v (c : σ) u h tk own, i < n → P i v → OwnOff own (news.map (·.1)) → Inv i c → Fr h₀ env.locals h (fun y => if y = x then some v else frMap Ms junk u c y) → News h₀ env.locals h (news ++ own) →
      wpAny (model prog w) A (execs body env) (StPost h₀ env.locals x Ms junk (Inv (i + 1)) (news ++ own) Q { s with heap := h, toks := tk }) E { s with heap := h, toks := tk })
    (done : ∀ (c : σ) u h tk, Inv n c → Fr h₀ env.locals h (fun y => if y = x then u y else frMap Ms junk u c y) → News h₀ env.locals h news → Q .next { s with heap := h, toks := tk }) :
    LoopAtV prog w A h₀ env x body Q E (.ref I) s := by
  have fr : ∀ {c : σ} {m₁ : Str → Option Value}, (∀ z, z ≠ x → junk.contains z = false → m₁ z = Ms c z) → ∀ y, y ≠ x → frMap Ms junk m₁ c y = m₁ y := by
    intro c m₁ hm y hy
    unfold frMap
    cases hj : junk.contains y with
    | true => simp
    | false => simp only [Bool.false_eq_true, if_false]; exact (hm y hy hj).symm
  refine loop_invN (fun i m nx => nx = news ∧ ∃ c : σ, Inv i c ∧ ∀ z, z ≠ x → junk.contains z = false → m z = Ms c z) W hLf hwr hnw hfp hst F N ⟨rfl, c₀, hi, h0⟩ ?_ ?_
  · rintro i v m₁ nx h tk own hin hP _ hoff ⟨rfl, c, hc, hm⟩ F₁ N₁
    have em : (fun y => if y = x then some v else m₁ y) = fun y => if y = x then some v else frMap Ms junk m₁ c y := by
      funext y
      by_cases hy : y = x
      · rw [if_pos hy, if_pos hy]
      · rw [if_neg hy, if_neg hy, fr hm y hy]
    rw [em] at F₁
    refine wpAny_mono (turn i v c m₁ h tk own hin hP hoff hc F₁ N₁) (fun f s₂ p => ?_) fun _ _ e => e
    have up : StEnd h₀ env.locals x Ms junk (Inv (i + 1)) (nx ++ own) { s with heap := h, toks := tk } s₂ →
        InvEndN h₀ env.locals (fun m nx' => nx' = nx ∧ ∃ c : σ, Inv (i + 1) c ∧ ∀ z, z ≠ x → junk.contains z = false → m z = Ms c z) own (nx.map (·.1)) { s with heap := h, toks := tk } s₂ := by
      rintro ⟨c', h', tk', m', news', rfl, F', N', hn, hi', hm'⟩
      exact InvEndN.intro F' N' ⟨rfl, c', hi', hm'⟩ rfl (fun p hp => hn p (List.mem_append.mpr (.inl hp))) (fun p hp => hn p (List.mem_append.mpr (.inr hp)))
    cases f with
    | ret v => exact p
    | brk => exact p
    | next => exact up p
    | cont => exact up p
  · rintro m₁ nx h tk ⟨rfl, c, hc, hm⟩ F₁ N₁
    refine done c m₁ h tk hc ?_ N₁
    have em : m₁ = fun y => if y = x then m₁ y else frMap Ms junk m₁ c y := by
      funext y
      by_cases hy : y = x
      · rw [if_pos hy]
      · rw [if_neg hy, fr hm y hy]
    rw [← em]
    exact F₁

/-- a for over a list of the call's own; the list leaves the ledger -/
theorem iter_list_st {σ : Type} {D : Addr} {vs : List Value} {nn : Nat} {m₀ : Str → Option Value} {news : List (Addr × Obj)}
    (Ms : σ → Str → Option Value) (junk : List Str) (Inv : Nat → σ → Prop) (c₀ : σ)
    (hh : A.handled = none) (F : Fr h₀ env.locals s.heap m₀) (N : News h₀ env.locals s.heap news) (hD : News h₀ env.locals s.heap [(D, listOf vs.toArray nn)]) (hap : ∀ p ∈ news, p.1 ≠ D)
    (h0 : ∀ z, z ≠ x → junk.contains z = false → m₀ z = Ms c₀ z) (hi : Inv 0 c₀)
    (turn : ∀ i v (c : σ) u h tk own, vs[i]? = some v → OwnOff own (news.map (·.1)) → Inv i c → Fr h₀ env.locals h (fun y => if y = x then some v else frMap Ms junk u c y) → News h₀ env.locals h (news ++ own) →
      wpAny (model prog w) A (execs body env) (StPost h₀ env.locals x Ms junk (Inv (i + 1)) (news ++ own) Q { s with heap := h, toks := tk }) E { s with heap := h, toks := tk })
    (done : ∀ (c : σ) u h tk, Inv vs.length c → Fr h₀ env.locals h (fun y => if y = x then u y else frMap Ms junk u c y) → News h₀ env.locals h news → Q .next { s with heap := h, toks := tk }) :
    wpAny (model prog w) A (pyIter (.ref D)) (fun it s₂ => LoopAtV prog w A h₀ env x body Q E it s₂) E s := by
  have zD := hD _ (.head _)
  have hol : s.heap.get? D = some (listOf vs.toArray nn) := zD.1
  have hls : s.heap.IsList D vs.toArray := ⟨_, hol, rfl, nn, rfl⟩
  have hne : D ≠ s.heap.objs.size := Nat.ne_of_lt (Heap.lt_size hol)
  refine wpAny_pyIter_list hls ?_
  have W := Walks.list (prog := prog) (w := w) hh s.heap.objs.size D hne vs.toArray
  rw [List.size_toArray] at W
  refine loop_st (s := { s with heap := _ }) Ms junk Inv c₀ W ?_ ?_ ?_ ?_ ⟨⟨_, Heap.get?_push_size _ rfl, rfl, rfl⟩, hls.at fun o e => Heap.get?_push_of_some _ e⟩ (F.push _) (fun p hp => ⟨Heap.get?_push_of_some _ (N p hp).1, (N p hp).2⟩) h0 hi ?_ ?_
  · intro hm
    rcases List.mem_cons.mp hm with e | hm
    · exact absurd F.ns.lt (e ▸ Nat.lt_irrefl _)
    · exact zD.2.1 ((List.mem_singleton.mp hm).symm)
  · intro b hb
    rw [List.mem_singleton.mp hb]
    exact next_is_new F
  · intro p hp hI
    exact absurd (Heap.lt_size (N p hp).1) ((List.mem_singleton.mp hI) ▸ Nat.lt_irrefl _)
  · intro p hp hI
    rcases List.mem_cons.mp hI with e | hI
    · exact absurd (Heap.lt_size (N p hp).1) (e ▸ Nat.lt_irrefl _)
    · exact hap p hp (List.mem_singleton.mp hI)
  · intro i v c u h tk own hin hP hoff hc F₁ N₁
    exact turn i v c u h tk own (by simpa using hP) hoff hc F₁ N₁
  · intro c u h tk hc F₁ N₁
    exact done c u h tk hc F₁ N₁
end
end Mine
end
section
open PySem PySem.W PyProof.Rows PySem.Calls Builtin Builtin.Str PySem.StrLaws
set_option maxRecDepth 100000
namespace Mine

theorem sub_self {α : Type} (l : List α) : ∀ p ∈ l, p ∈ l := fun _ h => h
theorem sub_tail {α : Type} (q : α) (l : List α) : ∀ p ∈ l, p ∈ q :: l := fun _ h => List.mem_cons_of_mem _ h
theorem join_part_le (y : Str) : ∀ (ps : List Str) (p : Str), p ∈ ps → p.length ≤ (Str.join y ps).length
  | [], _, h => nomatch h
  | [q], p, h => by rw [List.mem_singleton.mp h]; exact Nat.le_refl _
  | q :: r :: rs, p, h => by
    show p.length ≤ (q ++ y ++ Str.join y (r :: rs)).length
    rw [Str.length_append, Str.length_append]
    rcases List.mem_cons.mp h with rfl | h
    · omega
    · have := join_part_le y (r :: rs) p h
      omega

theorem split_shape (x : Str) (hc : Txt.contains x dots = true) : ∃ a mid b, Txt.split x dots = a :: (mid ++ [b]) := by
  have h2 : 2 ≤ (Txt.split x dots).length := by
    unfold Txt.contains at hc
    obtain ⟨i, hi, hs⟩ := (found_iff x dots).mp hc
    unfold Txt.split
    rw [if_neg (by
      rw [kind_dots]
      have := kind_ge x
      simp only [Bool.or_eq_true, decide_eq_true_eq]
      omega)]
    obtain ⟨f, h1, h2⟩ := occ_tight x dots (by rw [dots_len]; omega)
    have hne : occurrences x dots 0 x.length (x.length + 1) ≠ [] := by
      intro e
      rw [e] at h1
      have e0 : f = 0 := h1
      exact h2 i (by omega) ⟨hi, hs⟩
    rw [if_neg (by rw [List.isEmpty_iff]; exact hne), partsBetween_eq]
    cases ho : occurrences x dots 0 x.length (x.length + 1) with
    | nil => exact absurd ho hne
    | cons c r =>
      show 2 ≤ (strSub x 0 c :: partsFrom x dots.length (c + dots.length) r).length
      obtain ⟨p, q, e⟩ := partsFrom_ne x dots.length (c + dots.length) r
      rw [e]
      simp
  generalize Txt.split x dots = l at h2
  cases l with
  | nil => simp at h2
  | cons a r =>
    have hr : r ≠ [] := by intro e; rw [e] at h2; simp at h2
    exact ⟨a, r.dropLast, r.getLast hr, by rw [List.dropLast_concat_getLast]⟩

theorem split_le (x : Str) : ∀ p ∈ Txt.split x dots, p.length ≤ x.length := fun p hp => by
  have := join_part_le dots _ p hp
  rwa [join_split] at this

section
variable {prog : Program} {w : World} {A : Around} {E : Value → Shared → Prop} {s : Shared} {h₀ : Heap} {L : Addr} {m : Str → Option Value} {news : List (Addr × Obj)}

theorem split_em {x : Str} {t u : Tok} {Q : Value → Shared → Prop} (hF : Fr h₀ L s.heap m) (hN : News h₀ L s.heap news) (hc : Txt.contains x dots = true) (hsz : x.length + 2 ≤ sizeLine)
    (h : ∀ D a ta mid b tb h' k, Txt.split x dots = a :: (mid.map (·.1) ++ [b]) → a.length ≤ x.length → b.length ≤ x.length → Fr h₀ L h' m →
      News h₀ L h' ((D, W.listOf (Value.str a ta :: (strValues mid ++ [Value.str b tb])).toArray 0) :: news) → (∀ p ∈ news, p.1 < D) → Q (.ref D) { s with heap := h', toks := k }) :
    wpAny (model prog w) A (call (.builtin "str.split") [.str x t, .str dots u]) Q E s := by
  refine KSpl.split1 hF hN (by decide +kernel) (fun D l h' k e _ F N lt => ?_) hsz
  obtain ⟨a, mid, b, es⟩ := split_shape x hc
  rw [es] at e
  obtain ⟨ta, l', rfl, e'⟩ := KSpl.cons_of e
  obtain ⟨l1, l2, rfl, e1, e2⟩ := List.map_eq_append_iff.mp e'
  obtain ⟨tb, l3, rfl, e3⟩ := KSpl.cons_of e2
  have := KSpl.nil_of e3
  subst this
  subst e1
  have ha : a ∈ Txt.split x dots := by rw [es]; exact .head _
  have hb : b ∈ Txt.split x dots := by rw [es]; exact .tail _ (List.mem_append.mpr (.inr (.head _)))
  refine h D a ta l1 b tb h' k es (split_le x a ha) (split_le x b hb) F ?_ lt
  have ev : strValues ((a, ta) :: (l1 ++ [(b, tb)])) = Value.str a ta :: (strValues l1 ++ [Value.str b tb]) := by simp [strValues]
  rw [← ev]
  exact N

/-- xs[-1] of a list of the call's own -/
theorem item_last {value slice : Expr} {D : Addr} {l vs : List Value} {v : Value} {n : Nat} {u : Tok} {Q : Value → Shared → Prop}
    {led : List (Addr × Obj)} (N₀ : News h₀ L s.heap led) (hsub : ∀ p ∈ ((D, W.listOf l.toArray n) :: news), p ∈ led) (hv : l = vs ++ [v]) (h : Q v s)
    (hs : subscripted slice false (.ref D) (.int (-1) u) = operate [.ref D, .int (-1) u] (getItem (.ref D) (.int (-1) u)) := by with_unfolding_all rfl) :
    wpAny (model prog w) A (subscriptTail value slice (.ref D) (.int (-1) u)) Q E s := by
  have N : News h₀ L s.heap ((D, W.listOf l.toArray n) :: news) := fun p hp => N₀ p (hsub p hp)
  subst hv
  have hl : s.heap.IsList D (vs ++ [v]).toArray := ⟨_, (N _ (.head _)).1, rfl, n, rfl⟩
  refine tail_any hl.typeIs slot_list_getitem.lookup (wpAny_getItem_list_neg hl (by decide) ?_ (by decide) ?_ h) hs
  · simp; omega
  · simp only [List.size_toArray, List.length_append, List.length_singleton, List.getElem?_toArray]
    have : ((-1 : Int) + ((vs.length + 1 : Nat) : Int)).toNat = vs.length := by omega
    rw [this]
    simp

theorem item_first {value slice : Expr} {D : Addr} {vs : List Value} {v : Value} {n : Nat} {u : Tok} {Q : Value → Shared → Prop}
    {led : List (Addr × Obj)} (N₀ : News h₀ L s.heap led) (hsub : ∀ p ∈ ((D, W.listOf (v :: vs).toArray n) :: news), p ∈ led) (h : Q v s)
    (hs : subscripted slice false (.ref D) (.int 0 u) = operate [.ref D, .int 0 u] (getItem (.ref D) (.int 0 u)) := by with_unfolding_all rfl) :
    wpAny (model prog w) A (subscriptTail value slice (.ref D) (.int 0 u)) Q E s :=
  have N : News h₀ L s.heap ((D, W.listOf (v :: vs).toArray n) :: news) := fun p hp => N₀ p (hsub p hp)
  have hl : s.heap.IsList D (v :: vs).toArray := ⟨_, (N _ (.head _)).1, rfl, n, rfl⟩
  tail_any hl.typeIs slot_list_getitem.lookup (wpAny_getItem_list hl (by decide) (by decide) (by simp) h) hs
theorem len_own {D : Addr} {vs : List Value} {n k : Nat} {Q : Value → Shared → Prop} {led : List (Addr × Obj)} (N₀ : News h₀ L s.heap led) (hsub : ∀ p ∈ ((D, W.listOf vs.toArray n) :: news), p ∈ led) (hk : vs.length = k) (hz : k < 2 ^ 63)
    (h : ∀ t tk, Q (.int k t) { s with toks := tk }) : wpAny (model prog w) A (call (.builtin "len") [.ref D]) Q E s := by
  have N : News h₀ L s.heap ((D, W.listOf vs.toArray n) :: news) := fun p hp => N₀ p (hsub p hp)
  have hl : s.heap.IsList D vs.toArray := ⟨_, (N _ (.head _)).1, rfl, n, rfl⟩
  subst hk
  refine PyProof.Rows.len_list hl (by simp; omega) ?_
  rw [List.size_toArray]
  exact h _ _

theorem erase_first {D : Addr} {v : Value} {vs : List Value} {u : Tok} {n : Nat} {Q : Unit → Shared → Prop}
    (F : Fr h₀ L s.heap m) {led : List (Addr × Obj)} (N₀ : News h₀ L s.heap led) (hsub : ∀ p ∈ ((D, W.listOf (v :: vs).toArray n) :: news), p ∈ led) (hap : ∀ p ∈ news, p.1 ≠ D) (hz : vs.length + 1 ≤ sizeLine)
    (h : ∀ h', Fr h₀ L h' m → News h₀ L h' ((D, W.listOf vs.toArray (n + 1)) :: news) → Q () { s with heap := h' }) :
    wpAny (model prog w) A (delItem (.ref D) (.int 0 u)) Q E s := by
  have N : News h₀ L s.heap ((D, W.listOf (v :: vs).toArray n) :: news) := fun p hp => N₀ p (hsub p hp)
  refine delItem_head (k := 0) F N hap (by rfl) ?_ (fun h' F' N' => h h' F' ?_) (by simpa using hz)
  · exact seqIndex_nonneg (n := (v :: vs).toArray.size) (i := 0) (by omega) (by simp)
  · simpa using N'
theorem erase_last {D : Addr} {l : List Value} (v : Value) (vs : List Value) {u : Tok} {n : Nat} {Q : Unit → Shared → Prop}
    (F : Fr h₀ L s.heap m) {led : List (Addr × Obj)} (N₀ : News h₀ L s.heap led) (hsub : ∀ p ∈ ((D, W.listOf l.toArray n) :: news), p ∈ led) (hv : l = vs ++ [v]) (hap : ∀ p ∈ news, p.1 ≠ D) (hz : vs.length + 1 ≤ sizeLine)
    (h : ∀ h', Fr h₀ L h' m → News h₀ L h' ((D, W.listOf vs.toArray (n + 1)) :: news) → Q () { s with heap := h' }) :
    wpAny (model prog w) A (delItem (.ref D) (.int (-1) u)) Q E s := by
  have N : News h₀ L s.heap ((D, W.listOf l.toArray n) :: news) := fun p hp => N₀ p (hsub p hp)
  subst hv
  refine delItem_head (k := vs.length) F N hap (by rfl) ?_ (fun h' F' N' => h h' F' ?_) (by simpa using hz)
  · have := seqIndex_neg (n := (vs ++ [v]).toArray.size) (i := -1) (by omega) (by simp; omega)
    rw [this]
    simp
    omega
  · have e : ((vs ++ [v]).toArray.toList.eraseIdx vs.length) = vs := by
      simp [List.eraseIdx_append_of_length_le]
    rw [e] at N'
    exact N'
end
end Mine
namespace Mine
section
variable {prog : Program} {w : World} {A : Around} {E : Value → Shared → Prop} {s : Shared} {env : Env} {h₀ : Heap} {body : List Stmt} {Q : Flow → Shared → Prop}

noncomputable def EmEnd (h₀ : Heap) (L : Addr) (m₀ : Str → Option Value) (y : Str) (ep : Int) (r : List Str) (R : Bool) (news : List (Addr × Obj)) (s₁ s₂ : Shared) : Prop :=
  ∃ (sp : Int) (ts : Tok) (h' : Heap) (tk : Nat) (m' : Str → Option Value) (news' : List (Addr × Obj)), s₂ = { s₁ with heap := h', toks := tk } ∧ Fr h₀ L h' m' ∧ News h₀ L h' news' ∧ (∀ p ∈ news, p ∈ news') ∧
    emLoop y r sp ep = R ∧ m' (Str.ofString "startpos") = some (.int sp ts) ∧ ∀ z, z ≠ Str.ofString "w" → z ≠ Str.ofString "startpos" → m' z = m₀ z
noncomputable def EmPost (h₀ : Heap) (L : Addr) (m₀ : Str → Option Value) (y : Str) (ep : Int) (r : List Str) (R : Bool) (news : List (Addr × Obj)) (Q : Flow → Shared → Prop) (s₁ : Shared) (f : Flow) (s₂ : Shared) : Prop :=
  match f with
  | .ret v => Q (.ret v) s₂
  | .brk => Q .next s₂
  | _ => EmEnd h₀ L m₀ y ep r R news s₁ s₂
theorem em_end {L : Addr} {m₀ m' : Str → Option Value} {y : Str} {ep sp : Int} {ts : Tok} {r : List Str} {R : Bool} {news news' : List (Addr × Obj)} {s₁ : Shared} {h' : Heap} {tk : Nat}
    (F : Fr h₀ L h' m') (N : News h₀ L h' news') (hn : ∀ p ∈ news, p ∈ news') (hr : emLoop y r sp ep = R) (hs : m' (Str.ofString "startpos") = some (.int sp ts))
    (hm : ∀ z, z ≠ Str.ofString "w" → z ≠ Str.ofString "startpos" → m' z = m₀ z) : EmEnd h₀ L m₀ y ep r R news s₁ { s₁ with heap := h', toks := tk } :=
  ⟨sp, ts, h', tk, m', news', rfl, F, N, hn, hr, hs, hm⟩

theorem em_iter {y : Str} {ep sp : Int} {t0 : Tok} {l : List (Str × Tok)} {vs : List Value} {nn : Nat} {D : Addr} {m₀ : Str → Option Value} {led news : List (Addr × Obj)} {R : Bool}
    (hh : A.handled = none) (F : Fr h₀ env.locals s.heap m₀) (N₀ : News h₀ env.locals s.heap led) (hsub : ∀ p ∈ (D, W.listOf vs.toArray nn) :: news, p ∈ led) (hv : vs = strValues l) (hap : ∀ p ∈ news, p.1 ≠ D)
    (hsp : m₀ (Str.ofString "startpos") = some (.int sp t0)) (hR : emLoop y (l.map (·.1)) sp ep = R) (hall : ∀ z ∈ l, z.1.length ≤ 1000)
    (turn : ∀ q tq (r : List Str) (sp' : Int) ts h tk own, q.length ≤ 1000 → emLoop y (q :: r) sp' ep = R → Fr h₀ env.locals h (fun z => if z = Str.ofString "w" then some (.str q tq) else if z = Str.ofString "startpos" then some (.int sp' ts) else m₀ z) → News h₀ env.locals h (news ++ own) →
      wpAny (model prog w) A (execs body env) (EmPost h₀ env.locals m₀ y ep r R (news ++ own) Q { s with heap := h, toks := tk }) E { s with heap := h, toks := tk })
    (done : ∀ m' h tk, R = true → Fr h₀ env.locals h m' → News h₀ env.locals h news → Q .next { s with heap := h, toks := tk }) :
    wpAny (model prog w) A (pyIter (.ref D)) (fun it s₂ => LoopAtV prog w A h₀ env (Str.ofString "w") body Q E it s₂) E s := by
  subst hv
  refine iter_list_st (σ := Int × Tok) (fun c z => if z = Str.ofString "startpos" then some (.int c.1 c.2) else m₀ z) [] (fun i c => emLoop y ((l.map (·.1)).drop i) c.1 ep = R) (sp, t0) hh F
    (fun p hp => N₀ p (hsub p (.tail _ hp))) (fun p hp => N₀ p (hsub p (by rw [List.mem_singleton.mp hp]; exact .head _))) hap ?_ (by simpa using hR) ?_ ?_
  · intro z _ _
    by_cases hz : z = Str.ofString "startpos"
    · rw [if_pos hz, hz, hsp]
    · rw [if_neg hz]
  · intro i v c u h tk own hvi _ hc F₁ N₁
    have hi : i < l.length := by
      have := (List.getElem?_eq_some_iff.mp hvi).1
      simpa [strValues] using this
    have ev : v = .str l[i].1 l[i].2 := by
      have := (List.getElem?_eq_some_iff.mp hvi).2
      rw [← this]
      simp [strValues]
    subst ev
    have ed : (l.map (·.1)).drop i = l[i].1 :: (l.map (·.1)).drop (i + 1) := by
      rw [List.drop_eq_getElem_cons (by simpa using hi)]
      simp
    rw [ed] at hc
    have em : (fun z => if z = Str.ofString "w" then some (Value.str l[i].1 l[i].2) else frMap (fun (c : Int × Tok) z => if z = Str.ofString "startpos" then some (.int c.1 c.2) else m₀ z) [] u c z) =
        fun z => if z = Str.ofString "w" then some (Value.str l[i].1 l[i].2) else if z = Str.ofString "startpos" then some (.int c.1 c.2) else m₀ z := by
      funext z
      simp [frMap]
    rw [em] at F₁
    refine wpAny_mono (turn _ _ _ _ _ h tk own (hall _ (List.getElem_mem hi)) hc F₁ N₁) (fun f s₂ p => ?_) fun _ _ e => e
    have up : EmEnd h₀ env.locals m₀ y ep ((l.map (·.1)).drop (i + 1)) R (news ++ own) { s with heap := h, toks := tk } s₂ →
        StEnd h₀ env.locals (Str.ofString "w") (fun (c : Int × Tok) z => if z = Str.ofString "startpos" then some (.int c.1 c.2) else m₀ z) [] (fun c => emLoop y ((l.map (·.1)).drop (i + 1)) c.1 ep = R) (news ++ own) { s with heap := h, toks := tk } s₂ := by
      rintro ⟨sp', ts', h', tk', m', news', rfl, F', N', hn, hr, hs, hm⟩
      refine st_end (sp', ts') F' N' hn hr fun z hz _ => ?_
      by_cases h1 : z = Str.ofString "startpos"
      · rw [if_pos h1, h1, hs]
      · rw [if_neg h1]; exact hm z hz h1
    cases f with
    | ret v => exact p
    | brk => exact p
    | next => exact up p
    | cont => exact up p
  · intro c u h tk hc F₁ N₁
    have e : (l.map (·.1)).drop (strValues l).length = [] := by
      apply List.drop_of_length_le
      simp [strValues]
    rw [e] at hc
    exact done _ h tk hc.symm F₁ N₁
end
end Mine
namespace Mine
theorem for_own {prog : Program} {w : World} {A : Around} {s : Shared} {env : Env} {h₀ : Heap} {L : Addr} {m : Str → Option Value} {E : Value → Shared → Prop} {Q : Flow → Shared → Prop} {x : Str} {px pos : Pos} {iter : Expr} {body : List Stmt} (_F : Fr h₀ L s.heap m)
    (h : wpAny (model prog w) A (eval iter env) (fun xv s₁ => wpAny (model prog w) A (pyIter xv) (fun it s₂ => LoopAtV prog w A h₀ env x body Q E it s₂) E s₁) E s)
    (hx : env.kindOf x = some .local) (hp : (env.scope.kind == .class || (env.scope.kind == .module && env.locals != env.globals)) = false)
    (hs : ∀ x, foldedSetIterable iter env x = pure x)
    (hE : PassesOwn (model prog w) A env E) :
    wpAny (model prog w) A (exec (.For (.Name x px) iter body [] pos) env) Q E s := For_invV h₀ hx hp h hs hE
end Mine
namespace Mine
noncomputable def emL (y q : Str) (ws : List Str) (sp : Int) : Bool :=
  if (q.length : Int) = 0 then (if (y.length : Int) < sp then false else emLoop y (ws ++ [q]) sp y.length)
  else if Txt.endswith y q = true then (if (y.length : Int) - (q.length : Int) < sp then false else emLoop y ws sp ((y.length : Int) - (q.length : Int))) else false
theorem em_val {x y p q : Str} {mid : List Str} (hc : Txt.contains x dots = true) (es : Txt.split x dots = p :: (mid ++ [q])) :
    em x y = if (p.length : Int) = 0 then emL y q (p :: mid) 0 else if Txt.startswith y p = true then emL y q mid p.length else false := by
  have last : ∀ (ws : List Str) (sp : Int), emLast y (ws ++ [q]) sp = emL y q ws sp := by
    intro ws sp
    unfold emLast emL emTail
    have e1 : (ws ++ [q]).getLastD Str.empty = q := by simp
    have e2 : (ws ++ [q]).dropLast = ws := by simp
    rw [e1, e2]
    by_cases hq : q.length = 0
    · rw [if_pos hq, if_pos (show (q.length : Int) = 0 by omega)]
    · rw [if_neg hq, if_neg (show ¬ (q.length : Int) = 0 by omega)]
  unfold em emHead
  rw [hc, if_pos rfl, es]
  have e4 : (p :: (mid ++ [q])).headD Str.empty = p := rfl
  have e5 : (p :: (mid ++ [q])).tail = mid ++ [q] := rfl
  rw [e4, e5]
  by_cases hp : p.length = 0
  · rw [if_pos hp, if_pos (show (p.length : Int) = 0 by omega)]
    exact last (p :: mid) 0
  · rw [if_neg hp, if_neg (show ¬ (p.length : Int) = 0 by omega), last]
section
variable {x y p q : Str} {tp tq : Tok} {mid : List (Str × Tok)} (hc : Txt.contains x dots = true) (es : Txt.split x dots = p :: (mid.map (·.1) ++ [q]))
include hc es
theorem em_c1 (hp : (p.length : Int) ≠ 0) (h1 : Txt.startswith y p = true) (hq : (q.length : Int) ≠ 0) (h2 : Txt.endswith y q = true) (h3 : ¬ ((y.length : Int) - (q.length : Int) < (p.length : Int))) :
    emLoop y (mid.map (·.1)) p.length ((y.length : Int) - (q.length : Int)) = em x y := by
  rw [em_val hc es, if_neg hp, if_pos h1, emL, if_neg hq, if_pos h2, if_neg h3]
theorem em_c2 (hp : (p.length : Int) ≠ 0) (h1 : Txt.startswith y p = true) (hq : (q.length : Int) = 0) (h3 : ¬ (y.length : Int) < (p.length : Int)) :
    emLoop y ((mid ++ [(q, tq)]).map (·.1)) p.length y.length = em x y := by
  rw [em_val hc es, if_neg hp, if_pos h1, emL, if_pos hq, if_neg h3, List.map_append]; rfl
theorem em_c3 (hp : (p.length : Int) = 0) (hq : (q.length : Int) ≠ 0) (h2 : Txt.endswith y q = true) (h3 : ¬ ((y.length : Int) - (q.length : Int) < 0)) :
    emLoop y (((p, tp) :: mid).map (·.1)) 0 ((y.length : Int) - (q.length : Int)) = em x y := by
  rw [em_val hc es, if_pos hp, emL, if_neg hq, if_pos h2, if_neg h3]; rfl
theorem em_c4 (hp : (p.length : Int) = 0) (hq : (q.length : Int) = 0) :
    emLoop y (((p, tp) :: (mid ++ [(q, tq)])).map (·.1)) 0 y.length = em x y := by
  rw [em_val hc es, if_pos hp, emL, if_pos hq, if_neg (by omega), List.map_cons, List.map_append]; rfl
theorem em_f1 (hp : (p.length : Int) ≠ 0) (h1 : Txt.startswith y p = false) : false = em x y := by
  rw [em_val hc es, if_neg hp, h1]; rfl
theorem em_f2 (hp : (p.length : Int) ≠ 0) (h1 : Txt.startswith y p = true) (hq : (q.length : Int) ≠ 0) (h2 : Txt.endswith y q = false) : false = em x y := by
  rw [em_val hc es, if_neg hp, if_pos h1, emL, if_neg hq, h2]; rfl
theorem em_f3 (hp : (p.length : Int) = 0) (hq : (q.length : Int) ≠ 0) (h2 : Txt.endswith y q = false) : false = em x y := by
  rw [em_val hc es, if_pos hp, emL, if_neg hq, h2]; rfl
theorem em_f4 (hp : (p.length : Int) ≠ 0) (h1 : Txt.startswith y p = true) (hq : (q.length : Int) ≠ 0) (h2 : Txt.endswith y q = true) (h3 : (y.length : Int) - (q.length : Int) < (p.length : Int)) : false = em x y := by
  rw [em_val hc es, if_neg hp, if_pos h1, emL, if_neg hq, if_pos h2, if_pos h3]
theorem em_f5 (hp : (p.length : Int) ≠ 0) (h1 : Txt.startswith y p = true) (hq : (q.length : Int) = 0) (h3 : (y.length : Int) < (p.length : Int)) : false = em x y := by
  rw [em_val hc es, if_neg hp, if_pos h1, emL, if_pos hq, if_pos h3]
theorem em_f6 (hp : (p.length : Int) = 0) (hq : (q.length : Int) ≠ 0) (h2 : Txt.endswith y q = true) (h3 : (y.length : Int) - (q.length : Int) < 0) : false = em x y := by
  rw [em_val hc es, if_pos hp, emL, if_neg hq, if_pos h2, if_pos h3]
end
theorem all_mid {x p q : Str} {mid : List (Str × Tok)} (hx : x.length ≤ 1000) (es : Txt.split x dots = p :: (mid.map (·.1) ++ [q])) : (p.length ≤ 1000 ∧ q.length ≤ 1000) ∧ ∀ z ∈ mid, z.1.length ≤ 1000 := by
  have h := split_le x
  rw [es] at h
  refine ⟨⟨Nat.le_trans (h p (by simp)) hx, Nat.le_trans (h q (by simp)) hx⟩, fun z hz => Nat.le_trans (h z.1 ?_) hx⟩
  exact List.mem_cons_of_mem _ (List.mem_append.mpr (.inl (List.mem_map.mpr ⟨z, hz, rfl⟩)))
theorem em_e0 {x y : Str} (h : (Builtin.Str.occurrences x dots 0 x.length 1).isEmpty = true) : (x == y) = em x y := by
  unfold em Txt.contains
  rw [h]; rfl
theorem em_step {y q : Str} {r : List Str} {sp ep : Int} {R : Bool} (h : emLoop y (q :: r) sp ep = R) (hn : ¬ find4 y q sp ep < 0) : emLoop y r (find4 y q sp ep + (q.length : Int)) ep = R := by
  rw [emLoop, if_neg hn] at h; exact h
theorem em_stop {y q : Str} {r : List Str} {sp ep : Int} {R : Bool} (h : emLoop y (q :: r) sp ep = R) (hn : find4 y q sp ep < 0) : false = R := by
  rw [emLoop, if_pos hn] at h; exact h
theorem mid_short {x : Str} {p q : Str} {mid : List (Str × Tok)} (hx : x.length ≤ 1000) (es : Txt.split x dots = p :: (mid.map (·.1) ++ [q])) : mid.length + 2 ≤ 1000 := by
  have hl : ∀ (ps : List Str), 3 * ps.length ≤ (Str.join dots ps).length + 3 := by
    intro ps
    induction ps with
    | nil => simp
    | cons a r ih =>
      cases r with
      | nil => simp
      | cons b r =>
        show 3 * (b :: r).length.succ ≤ (a ++ dots ++ Str.join dots (b :: r)).length + 3
        rw [Str.length_append, Str.length_append, dots_len]
        omega
  have := hl (Txt.split x dots)
  rw [StrLaws.join_split, es] at this
  simp at this
  omega
end Mine
end
section
open PySem PySem.W PyProof.Rows PySem.Calls
set_option maxRecDepth 100000
namespace Mine
theorem strs_snoc {y : Str} {t : Tok} : ∀ {vs : List Value} {ys : List Str}, StrsAre vs ys → StrsAre (vs ++ [.str y t]) (ys ++ [y])
  | _, _, .nil => .cons y t .nil
  | _, _, .cons z u r => .cons z u (strs_snoc r)

section
variable {prog : Program} {w : World} {A : Around} {E : Value → Shared → Prop} {h₀ : Heap} {L : Addr} {m : Str → Option Value} {env : Env} {elt : Expr} {x : Str} {scope : Scope} {cl : List (Str × Addr)} {s : Shared} {S : List (Addr × Obj) → Prop} {P : Nat → Value → Prop} {Fin : List Value → List (Addr × Obj) → Prop} {news : List (Addr × Obj)}

/-- the turns of a comprehension whose element is a text -/
theorem comp_rest {α : Type} {n : Nat} {cs : List α} (g : α → Str) (val : α → Value → Prop) (hn : cs.length = n) (hP : ∀ i v, i < n → P i v → ∃ c, cs[i]? = some c ∧ val c v)
    (turn : ∀ c v I oI C oC D m₂ ys h tk (E' : Value → Shared → Prop), c ∈ cs → val c v → LCg.NsObj oC m₂ → m₂ x = some v → Fr h₀ L h m → News h₀ L h ((I, oI) :: (C, oC) :: (D, LCg.lst ys) :: news) → LCg.Off3 I C D news → ((@Ne Nat I C) ∧ (@Ne Nat I D) ∧ (@Ne Nat C D)) → S news →
      wpAny (model prog w) A (eval elt (compEnvC scope cl C env)) (LCg.CompEnd h₀ L m { s with heap := h, toks := tk } I oI C oC D (LCg.lst ys) S (fun y nw => nw = news ∧ ∃ t, y = .str (g c) t)) E' { s with heap := h, toks := tk })
    (hS : S news) (fin : ∀ ys, StrsAre ys (cs.map g) → Fin ys news) : LCg.CompRest prog w A h₀ L m env elt x scope cl s S P Fin n 0 [] news := by
  have key : ∀ (j i : Nat) (ys : List Value), i + j = n → StrsAre ys ((cs.take i).map g) → LCg.CompRest prog w A h₀ L m env elt x scope cl s S P Fin j i ys news := by
    intro j
    induction j with
    | zero =>
      intro i ys hi hy
      have e : i = cs.length := by omega
      subst e
      rw [List.take_length] at hy
      exact LCg.CompRest.zero (fin ys hy)
    | succ j ih =>
      intro i ys hi hy
      refine LCg.CompRest.succ ?_
      intro v I oI C oC D m₂ h tk E' hv hC hx F N off ne
      obtain ⟨c, hc, hv'⟩ := hP i v (by omega) hv
      refine wpAny_mono (turn c v I oI C oC D m₂ ys h tk E' (List.mem_of_getElem? hc) hv' hC hx F N off ne hS) (fun y s₂ hq => ?_) fun _ _ e => e
      obtain ⟨h', tk', nw, e, F', N', off', hS', hn', t', hy'⟩ := hq
      subst hn'
      refine ⟨h', tk', nw, e, F', N', off', hS', ?_⟩
      rw [hy']
      refine ih (i + 1) _ (by omega) ?_
      rw [List.take_add_one, hc]
      simpa using strs_snoc hy
  exact key n 0 [] (by omega) (by simp only [List.take_zero, List.map_nil]; exact .nil)

/-- where the iterable has come from -/
noncomputable def Src (val : Value → Prop) (s : Shared) (h₀ : Heap) (L : Addr) (m : Str → Option Value) (news : List (Addr × Obj)) (v : Value) (s₁ : Shared) : Prop :=
  ∃ h' tk', val v ∧ s₁ = { s with heap := h', toks := tk' } ∧ Fr h₀ L h' m ∧ News h₀ L h' news

end
end Mine
end
section
open PySem PySem.W PyProof.Rows Builtin Builtin.Str PySem.StrLaws
namespace Mine
/-- the letter of a place -/
noncomputable def letter (b : Bool) : Nat := if b then 112 else 104
noncomputable def gr (c : Nat) : Str := if c = 104 then Str.ofString "hp" else Str.ofString "ph"
noncomputable def grown (x : Str) : Str := Txt.join (Str.ofString "") ((ls x).map gr)
theorem ls_join_empty : ∀ l : List Str, ls (Str.join (Str.ofString "") l) = (l.map ls).flatten
  | [] => rfl
  | [x] => by simp [Str.join]
  | x :: y :: r => by
    show ls (x ++ Str.ofString "" ++ Str.join (Str.ofString "") (y :: r)) = _
    rw [ls_append, ls_append, ls_join_empty (y :: r)]
    have : ls (Str.ofString "") = [] := by decide +kernel
    rw [this]
    simp
end Mine
end
section
open PySem PySem.W PyProof.Rows
set_option maxRecDepth 100000
namespace Mine
/-- the letters of a number to the base 16 -/
noncomputable def ap (n : Nat) : List UInt8 := if h : n = 0 then [] else ap (n / 16) ++ [UInt8.ofNat (65 + n % 16)]
termination_by n
decreasing_by omega
theorem ap_len : ∀ (k n : Nat), n < 16 ^ k → (ap n).length ≤ k
  | 0, n, h => by
    have : n = 0 := by omega
    subst this
    unfold ap; simp
  | k + 1, n, h => by
    unfold ap
    split
    · simp
    · rw [List.length_append, List.length_singleton]
      have := ap_len k (n / 16) (by rw [Nat.pow_succ] at h; omega)
      omega
noncomputable abbrev apTab : Array UInt8 := #[65, 66, 67, 68, 69, 70, 71, 72, 73, 74, 75, 76, 77, 78, 79, 80]
theorem ap_tab : ∀ k : Fin 16, KBy.picked apTab (some (k.val : Int)) (some ((k.val : Int) + 1)) = #[UInt8.ofNat (65 + k.val)] := by decide +kernel
theorem ap_pick {x : Int} (h0 : 0 ≤ x) : KBy.picked apTab (some (x.fmod 16)) (some (x.fmod 16 + 1)) = #[UInt8.ofNat (65 + x.toNat % 16)] := by
  rw [Int.fmod_eq_emod_of_nonneg _ (by omega)]
  have := ap_tab ⟨x.toNat % 16, Nat.mod_lt _ (by omega)⟩
  have e : ((x.toNat % 16 : Nat) : Int) = x % 16 := by omega
  rw [← e]
  exact this
noncomputable def ApInv (n : Int) (k : Int) (v : Array UInt8) : Prop := 0 ≤ k ∧ ap k.toNat ++ v.toList = ap n.natAbs
theorem ap_start (n : Int) (t : Int) (h : t = (n.natAbs : Int)) : ApInv n t #[] := by
  subst h; exact ⟨by omega, by simp⟩
theorem ap_turn {n k : Int} {v : Array UInt8} (h : ApInv n k v) (h1 : k ≠ 0) : ApInv n (k.fdiv 16) (#[UInt8.ofNat (65 + k.toNat % 16)] ++ v) := by
  obtain ⟨h0, e⟩ := h
  rw [Int.fdiv_eq_ediv_of_nonneg _ (by omega)]
  refine ⟨by omega, ?_⟩
  rw [← e]
  conv => rhs; rw [ap, dif_neg (by omega)]
  have e1 : (k / 16).toNat = k.toNat / 16 := by omega
  rw [e1]
  simp
theorem ap_less {n k : Int} {v : Array UInt8} (h : ApInv n k v) (h1 : k ≠ 0) : (k.fdiv 16).toNat < k.toNat := by
  obtain ⟨h0, e⟩ := h
  rw [Int.fdiv_eq_ediv_of_nonneg _ (by omega)]
  omega
theorem ap_end {n k : Int} {v : Array UInt8} (h : ApInv n k v) (h1 : k = 0) : v = (ap n.natAbs).toArray := by
  obtain ⟨h0, e⟩ := h
  subst h1
  rw [← e]
  have : ap (0 : Int).toNat = [] := by unfold ap; simp
  rw [this]; simp
theorem ap_size {n k : Int} {v : Array UInt8} (h : ApInv n k v) (hn : n.natAbs < 2 ^ 100) : v.size ≤ 25 := by
  obtain ⟨h0, e⟩ := h
  have h1 := ap_len 25 n.natAbs (Nat.lt_of_lt_of_le hn (by decide))
  rw [← e, List.length_append] at h1
  exact Nat.le_trans (Nat.le_add_left _ _) h1
end Mine
end
section
open PySem PySem.W PyProof.Rows Builtin Builtin.Str PySem.StrLaws
namespace Mine
/-- the stretches of size j from n and from m on are alike -/
noncomputable def al (n m j : Nat) : Prop := ∀ i, i < j → tm (n + i) = tm (m + i)
theorem empty_plain : Plain Str.empty := by unfold Plain; decide +kernel
theorem empty_len : Str.empty.length = 0 := by decide +kernel
theorem empty_ls : ls Str.empty = [] := by decide +kernel
/-- pieces one behind the other, dots between -/
theorem em2 {a b : Str} (ha : Plain a) (hb : Plain b) {x : Str} (hx : ls x = ls a ++ ([46, 46, 46] ++ ls b)) (y : Str) :
    em x y = true ↔ Txt.startswith y a = true ∧ Txt.endswith y b = true ∧ a.length + b.length ≤ y.length := by
  have e : x = Str.join dots (a :: ([] ++ [b])) := ls_inj (by rw [hx, List.nil_append, ls_join_cons]; rfl)
  rw [e, em_iff a b [] (by simp [ha, hb])]
  constructor
  · exact fun h => ⟨h.1, h.2.1, h.2.2.1⟩
  · exact fun h => ⟨h.1, h.2.1, h.2.2, by show a.length ≤ y.length - b.length; omega⟩
theorem starts_empty {y : Str} : Txt.startswith y Str.empty = true := by
  rw [startswith_iff, empty_len, empty_ls]; simp
/-! the four shapes -/
section
variable {x y p : Str} {n k s : Nat}
end

/-! the last five -/
section
variable {x y p q : Str} {n k s : Nat}
end
end Mine
namespace Mine
theorem len_app (x y : Str) : (x ++ y).length = x.length + y.length := by rw [← ls_length, ls_append, List.length_append, ls_length, ls_length]
theorem len_dots : (Str.ofString "...").length = 3 := by decide +kernel
end Mine
end
section
namespace Mine
/-- the norm -/
noncomputable def Nm (t x y : Int) : Int := x * x - (2 - t) * x * y - t * y * y
theorem nm_step {t x y : Int} (ht : t = 1 ∨ t = 2) : Nm t (x + t * y) (x + (t - 1) * y) = - Nm t x y := by
  unfold Nm
  rcases ht with rfl | rfl <;> grind
/-- a pair that a digit string is read as -/
structure Ok (t n k : Int) : Prop where
  n0 : 0 ≤ n
  k0 : 0 ≤ k
  kn : k ≤ n
  a : 0 < Nm t (n + 1) k
  b : Nm t (n + 1) (k + 1) < 0
theorem ok_zero {t : Int} (ht : t = 1 ∨ t = 2) : Ok t 0 0 := by
  refine ⟨by omega, by omega, by omega, ?_, ?_⟩ <;> unfold Nm <;> rcases ht with rfl | rfl <;> decide

theorem nm_low {t x y : Int} (ht : t = 1 ∨ t = 2) (hx : 0 ≤ x) (hy : 0 ≤ y) (hN : 0 ≤ Nm t x y) (h : 0 < y ∨ 0 < Nm t x y) : (2 - t) * y ≤ x := by
  rcases ht with rfl | rfl
  · have e : Nm 1 x y = -(x * (y - x)) - y * y := by unfold Nm; grind
    rw [e] at hN h
    refine Int.not_lt.mp fun c => ?_
    have h1 : 0 ≤ x * (y - x) := Int.mul_nonneg hx (by omega)
    have h2 : 0 ≤ y * y := Int.mul_nonneg hy hy
    rcases h with h | h
    · have h3 : 0 < y * y := Int.mul_pos h h
      omega
    · omega
  · omega
theorem nm_mono {t x x' y : Int} (ht : t = 1 ∨ t = 2) (hx : 0 ≤ x) (hy : 0 ≤ y) (hxx : x ≤ x') (hN : 0 ≤ Nm t x y) (h : 0 < y ∨ 0 < Nm t x y) : Nm t x y ≤ Nm t x' y := by
  have e : Nm t x' y - Nm t x y = (x' - x) * (x' + x - (2 - t) * y) := by unfold Nm; grind
  have h1 := nm_low ht hx hy hN h
  have h2 : 0 ≤ (x' - x) * (x' + x - (2 - t) * y) := Int.mul_nonneg (by omega) (by omega)
  omega
theorem pos_up {t x x' y : Int} (ht : t = 1 ∨ t = 2) (hx : 0 ≤ x) (hy : 0 ≤ y) (hxx : x ≤ x') (hN : 0 < Nm t x y) : 0 < Nm t x' y := by
  have := nm_mono ht hx hy hxx (by omega) (.inr hN)
  omega
theorem neg_down {t x x' y : Int} (ht : t = 1 ∨ t = 2) (hx : 0 ≤ x) (hy : 0 < y) (hxx : x ≤ x') (hN : Nm t x' y < 0) : Nm t x y < 0 := by
  refine Int.not_le.mp fun c => ?_
  have := nm_mono ht hx (by omega) hxx c (.inl hy)
  omega
/-- one digit more -/
theorem ok_step {t n k d : Int} (ht : t = 1 ∨ t = 2) (h : Ok t n k) (hd : 0 ≤ d ∧ d ≤ t) : Ok t (n + d + t * k) (n + d + (t - 1) * k) := by
  obtain ⟨n0, k0, kn, a, b⟩ := h
  refine ⟨by rcases ht with rfl | rfl <;> omega, by rcases ht with rfl | rfl <;> omega, by rcases ht with rfl | rfl <;> omega, ?_, ?_⟩
  · have e : Nm t (n + d + t * k + 1) (n + d + (t - 1) * k) = - Nm t (n + d + 1 - t) (k + 1) := by
      rw [← nm_step ht]; congr 1 <;> grind
    rw [e]
    by_cases c : 0 ≤ n + d + 1 - t
    · have := neg_down ht c (by omega) (by omega) b
      omega
    · have hz : n = 0 ∧ k = 0 ∧ d = 0 ∧ t = 2 := by omega
      obtain ⟨rfl, rfl, rfl, rfl⟩ := hz
      decide
  · have e : Nm t (n + d + t * k + 1) (n + d + (t - 1) * k + 1) = - Nm t (n + d + 1) k := by
      rw [← nm_step ht]; congr 1 <;> grind
    rw [e]
    have := pos_up ht (by omega) k0 (show n + 1 ≤ n + d + 1 by omega) a
    omega
/-- the second of the pair is told by the first -/
theorem nm_down {t x y y' : Int} (ht : t = 1 ∨ t = 2) (hx : 0 ≤ x) (hy : 0 ≤ y) (hyy : y ≤ y') : Nm t x y' ≤ Nm t x y := by
  have e : Nm t x y - Nm t x y' = (y' - y) * ((2 - t) * x + t * (y' + y)) := by unfold Nm; grind
  have h2 : 0 ≤ (y' - y) * ((2 - t) * x + t * (y' + y)) := Int.mul_nonneg (by omega) (by rcases ht with rfl | rfl <;> omega)
  omega
theorem ok_only {t n k k' : Int} (ht : t = 1 ∨ t = 2) (h : Ok t n k) (h' : Ok t n k') : k = k' := by
  have key : ∀ {k k' : Int}, Ok t n k → Ok t n k' → ¬ k < k' := by
    intro k k' h h' c
    have h1 := nm_down ht (x := n + 1) (by have := h.n0; omega) (show 0 ≤ k + 1 by have := h.k0; omega) (show k + 1 ≤ k' by omega)
    have h2 := h.b
    have h3 := h'.a
    omega
  have h1 := key h h'
  have h2 := key h' h
  omega
theorem sign_digit {t n k d : Int} (ht : t = 1 ∨ t = 2) (h : Ok t n k) (hd : 1 ≤ d) : Nm t (n + d + t * k) (n + d + (t - 1) * k) < 0 := by
  rw [nm_step ht]
  have := pos_up ht (by have := h.n0; omega) h.k0 (show n + 1 ≤ n + d by omega) h.a
  omega

/-! digit strings, read from the left -/
noncomputable def stp (t : Int) (p : Int × Int) (d : Int) : Int × Int := (p.1 + d + t * p.2, p.1 + d + (t - 1) * p.2)
noncomputable def rd (t : Int) (ds : List Int) : Int × Int := ds.foldl (stp t) (0, 0)
theorem rd_snoc (t : Int) (ds : List Int) (d : Int) : rd t (ds ++ [d]) = stp t (rd t ds) d := by simp [rd]
noncomputable abbrev Dig (t : Int) (ds : List Int) : Prop := ∀ d ∈ ds, 0 ≤ d ∧ d ≤ t
theorem foldl_ok {t : Int} (ht : t = 1 ∨ t = 2) : ∀ {ds : List Int} {p : Int × Int}, Ok t p.1 p.2 → Dig t ds → Ok t (ds.foldl (stp t) p).1 (ds.foldl (stp t) p).2
  | [], _, h, _ => h
  | d :: ds, p, h, hd => foldl_ok ht (p := stp t p d) (ok_step ht h (hd d List.mem_cons_self)) fun x hx => hd x (List.mem_cons_of_mem _ hx)
theorem rd_ok {t : Int} (ht : t = 1 ∨ t = 2) {ds : List Int} (hd : Dig t ds) : Ok t (rd t ds).1 (rd t ds).2 := foldl_ok ht (ok_zero ht) hd
/-- the sign behind a digit that is no nought and then noughts -/
theorem sign_end {t : Int} (ht : t = 1 ∨ t = 2) {ds : List Int} {d : Int} (hd : Dig t ds) (h1 : 1 ≤ d) : ∀ z : Nat, (Nm t (rd t (ds ++ [d] ++ List.replicate z 0)).1 (rd t (ds ++ [d] ++ List.replicate z 0)).2 < 0 ↔ z % 2 = 0) ∧ Nm t (rd t (ds ++ [d] ++ List.replicate z 0)).1 (rd t (ds ++ [d] ++ List.replicate z 0)).2 ≠ 0
  | 0 => by
    rw [List.replicate_zero, List.append_nil, rd_snoc]
    have := sign_digit ht (rd_ok ht hd) h1
    unfold stp
    constructor
    · exact ⟨fun _ => rfl, fun _ => this⟩
    · exact Int.ne_of_lt this
  | z + 1 => by
    have ih := sign_end ht hd h1 z
    rw [List.replicate_succ', ← List.append_assoc, rd_snoc]
    generalize rd t (ds ++ [d] ++ List.replicate z 0) = p at ih
    unfold stp
    show (Nm t (p.1 + 0 + t * p.2) (p.1 + 0 + (t - 1) * p.2) < 0 ↔ _) ∧ Nm t (p.1 + 0 + t * p.2) (p.1 + 0 + (t - 1) * p.2) ≠ 0
    rw [Int.add_zero, nm_step ht]
    omega

/-! the weights, and the digits found greedily -/
noncomputable def sf (t : Int) : Nat → Int × Int → Int × Int
  | 0, p => p
  | l + 1, p => sf t l (p.1 + t * p.2, p.1 + (t - 1) * p.2)
theorem sf_lin (t a : Int) : ∀ (l : Nat) (p q : Int × Int), sf t l (a * p.1 + q.1, a * p.2 + q.2) = (a * (sf t l p).1 + (sf t l q).1, a * (sf t l p).2 + (sf t l q).2)
  | 0, p, q => rfl
  | l + 1, p, q => by
    show sf t l _ = _
    have e : ((a * p.1 + q.1) + t * (a * p.2 + q.2), (a * p.1 + q.1) + (t - 1) * (a * p.2 + q.2)) = (a * (p.1 + t * p.2) + (q.1 + t * q.2), a * (p.1 + (t - 1) * p.2) + (q.1 + (t - 1) * q.2)) := by
      rw [Prod.mk.injEq]; constructor <;> grind
    show sf t l ((a * p.1 + q.1) + t * (a * p.2 + q.2), (a * p.1 + q.1) + (t - 1) * (a * p.2 + q.2)) = _
    rw [e]
    exact sf_lin t a l (p.1 + t * p.2, p.1 + (t - 1) * p.2) (q.1 + t * q.2, q.1 + (t - 1) * q.2)
noncomputable def wt (t : Int) (l : Nat) : Int := (sf t l (1, 1)).1
theorem wt_zero (t : Int) : wt t 0 = 1 := rfl
theorem wt_one (t : Int) : wt t 1 = t + 1 := by show 1 + t * 1 = t + 1; omega
theorem wt_rec (t : Int) (l : Nat) : wt t (l + 2) = t * wt t (l + 1) + wt t l := by
  have := sf_lin t t l (1 + t * 1, 1 + (t - 1) * 1) (1, 1)
  have e : (t * (1 + t * 1) + 1, t * (1 + (t - 1) * 1) + 1) = ((1 + t * 1) + t * (1 + (t - 1) * 1), (1 + t * 1) + (t - 1) * (1 + (t - 1) * 1)) := by
    rw [Prod.mk.injEq]; constructor <;> grind
  dsimp only at this
  rw [e] at this
  exact congrArg Prod.fst this
theorem wt_pos {t : Int} (ht : t = 1 ∨ t = 2) : ∀ l : Nat, 0 < wt t l ∧ wt t l < wt t (l + 1)
  | 0 => by rw [wt_zero, wt_one]; omega
  | l + 1 => by
    have ih := wt_pos ht l
    rw [wt_rec]
    rcases ht with rfl | rfl <;> omega
theorem foldl_add (t : Int) : ∀ (ds : List Int) (p q : Int × Int), ds.foldl (stp t) (p.1 + q.1, p.2 + q.2) = ((sf t ds.length p).1 + (ds.foldl (stp t) q).1, (sf t ds.length p).2 + (ds.foldl (stp t) q).2)
  | [], p, q => rfl
  | d :: ds, p, q => by
    have ih := foldl_add t ds (p.1 + t * p.2, p.1 + (t - 1) * p.2) (stp t q d)
    have e : stp t (p.1 + q.1, p.2 + q.2) d = ((p.1 + t * p.2) + (stp t q d).1, (p.1 + (t - 1) * p.2) + (stp t q d).2) := by
      unfold stp; rw [Prod.mk.injEq]; constructor <;> grind
    rw [List.foldl_cons, e, ih]
    rfl
theorem rd_cons (t d : Int) (ds : List Int) : (rd t (d :: ds)).1 = d * wt t ds.length + (rd t ds).1 := by
  have h := foldl_add t ds (d * 1 + 0, d * 1 + 0) (0, 0)
  have h2 := sf_lin t d ds.length (1, 1) (0, 0)
  have h0 : ∀ l, sf t l (0, 0) = (0, 0) := by
    intro l
    induction l with
    | zero => rfl
    | succ l ih => show sf t l (0 + t * 0, 0 + (t - 1) * 0) = _; rw [Int.mul_zero, Int.mul_zero]; exact ih
  have e : stp t (0, 0) d = (d * 1 + 0 + 0, d * 1 + 0 + 0) := by unfold stp; rw [Prod.mk.injEq]; constructor <;> grind
  show (ds.foldl (stp t) (stp t (0, 0) d)).1 = _
  rw [e]
  have h3 := congrArg Prod.fst h
  dsimp only at h3 h2
  rw [h3, h2, h0]
  show d * wt t ds.length + 0 + _ = _
  rw [Int.add_zero]; rfl
noncomputable def gd (t : Int) : Nat → Int → List Int
  | 0, _ => []
  | l + 1, n => n / wt t l :: gd t l (n % wt t l)
theorem gd_length (t : Int) : ∀ (l : Nat) (n : Int), (gd t l n).length = l
  | 0, _ => rfl
  | l + 1, n => by simp [gd, gd_length t l]
theorem gd_spec {t : Int} (ht : t = 1 ∨ t = 2) : ∀ (l : Nat) (n : Int), 0 ≤ n → n < wt t l → Dig t (gd t l n) ∧ (rd t (gd t l n)).1 = n
  | 0, n, h0, h1 => by
    rw [wt_zero] at h1
    exact ⟨fun d hd => (nomatch hd), by show (0 : Int) = n; omega⟩
  | l + 1, n, h0, h1 => by
    have hw := wt_pos ht l
    have hm0 := Int.emod_nonneg n (by omega : wt t l ≠ 0)
    have hm1 := Int.emod_lt_of_pos n hw.1
    obtain ⟨i1, i2⟩ := gd_spec ht l (n % wt t l) hm0 hm1
    have hd0 : 0 ≤ n / wt t l := Int.ediv_nonneg h0 (by omega)
    have hd1 : n / wt t l ≤ t := by
      have hb : n < (t + 1) * wt t l := by
        have : wt t (l + 1) ≤ (t + 1) * wt t l := by
          cases l with
          | zero => rw [wt_one, wt_zero]; omega
          | succ l =>
            rw [wt_rec]
            have := wt_pos ht l
            rcases ht with rfl | rfl <;> omega
        omega
      have := Int.ediv_lt_of_lt_mul hw.1 hb
      omega
    refine ⟨fun d hd => ?_, ?_⟩
    · rcases List.mem_cons.mp hd with rfl | hd
      · exact ⟨hd0, hd1⟩
      · exact i1 d hd
    · show (rd t (n / wt t l :: gd t l (n % wt t l))).1 = n
      rw [rd_cons, gd_length, i2, Int.mul_comm]
      exact Int.mul_ediv_add_emod n _

theorem ok_mono {t n k n' k' : Int} (ht : t = 1 ∨ t = 2) (h : Ok t n k) (h' : Ok t n' k') (hn : n ≤ n') : k ≤ k' := by
  refine Int.not_lt.mp fun c => ?_
  have h1 := neg_down ht (x := n + 1) (x' := n' + 1) (y := k' + 1) (by have := h.n0; omega) (by have := h'.k0; omega) (by omega) h'.b
  have h2 := nm_down ht (x := n + 1) (y := k' + 1) (y' := k) (by have := h.n0; omega) (by have := h'.k0; omega) (by omega)
  have h3 := h.a
  omega
/-- each rest lies below the next weight -/
noncomputable def Vd (t : Int) : List Int → Prop
  | [] => True
  | d :: r => (rd t (d :: r)).1 < wt t (r.length + 1) ∧ Vd t r
theorem gd_vd {t : Int} (ht : t = 1 ∨ t = 2) : ∀ (l : Nat) (n : Int), 0 ≤ n → n < wt t l → Vd t (gd t l n)
  | 0, _, _, _ => trivial
  | l + 1, n, h0, h1 => by
    have hw := wt_pos ht l
    refine ⟨?_, gd_vd ht l (n % wt t l) (Int.emod_nonneg n (by omega)) (Int.emod_lt_of_pos n hw.1)⟩
    have := (gd_spec ht (l + 1) n h0 h1).2
    show (rd t (gd t (l + 1) n)).1 < _
    rw [this, gd_length]; exact h1
/-- such a string is the one that is found greedily -/
theorem gd_only {t : Int} (ht : t = 1 ∨ t = 2) : ∀ {ds : List Int}, Dig t ds → Vd t ds → ds = gd t ds.length (rd t ds).1
  | [], _, _ => rfl
  | d :: r, hd, hv => by
    have hr : Dig t r := fun x hx => hd x (List.mem_cons_of_mem _ hx)
    have ih := gd_only ht hr hv.2
    have hw := wt_pos ht r.length
    have h0 := (rd_ok ht hr).n0
    have h1 : (rd t r).1 < wt t r.length := by
      cases r with
      | nil => show (0 : Int) < 1; omega
      | cons e r => exact hv.2.1
    have e := rd_cons t d r
    have eq : (rd t (d :: r)).1 / wt t r.length = d := by
      rw [e, Int.add_comm, Int.add_mul_ediv_right _ _ (by omega), Int.ediv_eq_zero_of_lt h0 h1]; omega
    have em : (rd t (d :: r)).1 % wt t r.length = (rd t r).1 := by
      rw [e, Int.add_comm, Int.add_mul_emod_self_right, Int.emod_eq_of_lt h0 h1]
    show d :: r = (rd t (d :: r)).1 / wt t r.length :: gd t r.length ((rd t (d :: r)).1 % wt t r.length)
    rw [eq, em, ← ih]
theorem ok_wt {t : Int} (ht : t = 1 ∨ t = 2) (l : Nat) : Ok t (wt t l) (sf t l (1, 1)).2 := by
  have key : ∀ (l : Nat) (p : Int × Int), Ok t p.1 p.2 → Ok t (sf t l p).1 (sf t l p).2 := by
    intro l
    induction l with
    | zero => exact fun p h => h
    | succ l ih =>
      intro p h
      have := ok_step ht h (d := 0) (by omega)
      rw [Int.add_zero] at this
      exact ih _ this
  have h1 := ok_step ht (ok_zero ht) (d := 1) (by omega)
  have e1 : (0 : Int) + 1 + t * 0 = 1 := by omega
  have e2 : (0 : Int) + 1 + (t - 1) * 0 = 1 := by omega
  rw [e1, e2] at h1
  exact key l (1, 1) h1
theorem wt_next (t : Int) (l : Nat) : wt t (l + 1) = wt t l + t * (sf t l (1, 1)).2 := by
  have key : ∀ (l : Nat) (p : Int × Int), sf t (l + 1) p = ((sf t l p).1 + t * (sf t l p).2, (sf t l p).1 + (t - 1) * (sf t l p).2) := by
    intro l
    induction l with
    | zero => exact fun p => rfl
    | succ l ih => exact fun p => ih (p.1 + t * p.2, p.1 + (t - 1) * p.2)
  unfold wt
  rw [key]
theorem vd_nought {t : Int} (ht : t = 1 ∨ t = 2) : ∀ {ds : List Int}, Dig t ds → Vd t ds → Vd t (ds ++ [0])
  | [], _, _ => by
    refine ⟨?_, trivial⟩
    show (0 : Int) + 0 + t * 0 < wt t 1
    rw [wt_one]; omega
  | d :: r, hd, hv => by
    refine ⟨?_, vd_nought ht (fun x hx => hd x (List.mem_cons_of_mem _ hx)) hv.2⟩
    have e : (rd t (d :: r ++ [0])).1 = (rd t (d :: r)).1 + t * (rd t (d :: r)).2 := by
      rw [rd_snoc]; unfold stp; rw [Int.add_zero]
    have hl : (r ++ [(0 : Int)]).length + 1 = (r.length + 1) + 1 := by simp
    show (rd t (d :: r ++ [0])).1 < wt t ((r ++ [0]).length + 1)
    rw [e, hl, wt_next]
    have ho := rd_ok ht hd
    have hk := ok_mono ht ho (ok_wt ht (r.length + 1)) (by have := hv.1; omega)
    have hm : t * (rd t (d :: r)).2 ≤ t * (sf t (r.length + 1) (1, 1)).2 := Int.mul_le_mul_of_nonneg_left hk (by omega)
    have := hv.1
    omega

/-- a string that is not all noughts: what stands ahead, the last digit that is none, the noughts behind -/
theorem split_end : ∀ (ds : List Int), (∀ d ∈ ds, d = 0) ∨ ∃ (l : List Int) (d : Int) (z : Nat), d ≠ 0 ∧ ds = l ++ [d] ++ List.replicate z 0
  | [] => .inl fun d h => (nomatch h)
  | e :: ds => by
    rcases split_end ds with h | ⟨l, d, z, hd, rfl⟩
    · by_cases he : e = 0
      · left
        intro d hm
        rcases List.mem_cons.mp hm with rfl | hm
        · exact he
        · exact h d hm
      · right
        refine ⟨[], e, ds.length, he, ?_⟩
        have : ds = List.replicate ds.length 0 := List.eq_replicate_iff.mpr ⟨rfl, h⟩
        rw [List.nil_append, List.singleton_append, ← this]
    · exact .inr ⟨e :: l, d, z, hd, by simp⟩
theorem rd_noughts (t : Int) {ds : List Int} (h : ∀ d ∈ ds, d = 0) : rd t ds = (0, 0) := by
  have key : ∀ (ds : List Int), (∀ d ∈ ds, d = 0) → ds.foldl (stp t) (0, 0) = (0, 0) := by
    intro ds
    induction ds with
    | nil => exact fun _ => rfl
    | cons d ds ih =>
      intro h
      have : stp t (0, 0) d = (0, 0) := by
        rw [h d List.mem_cons_self]; unfold stp; simp
      rw [List.foldl_cons, this]
      exact ih fun x hx => h x (List.mem_cons_of_mem _ hx)
  exact key ds h
/-- each number's pair -/
theorem ok_all {t : Int} (ht : t = 1 ∨ t = 2) {n : Int} (h0 : 0 ≤ n) : ∃ k, Ok t n k ∧ (0 < n → Nm t n k ≠ 0) := by
  have big : ∀ l : Nat, (l : Int) < wt t l := by
    intro l
    induction l with
    | zero => rw [wt_zero]; decide
    | succ l ih => have := (wt_pos ht l).2; omega
  obtain ⟨i1, i2⟩ := gd_spec ht n.toNat n h0 (by have := big n.toNat; omega)
  refine ⟨(rd t (gd t n.toNat n)).2, ?_, fun hn => ?_⟩
  · have := rd_ok ht i1
    rw [i2] at this; exact this
  · rcases split_end (gd t n.toNat n) with h | ⟨l, d, z, hd, e⟩
    · rw [rd_noughts t h] at i2
      have : (0 : Int) = n := i2
      omega
    · have hdig : Dig t l := fun x hx => i1 x (by rw [e]; simp [hx])
      have hd1 := i1 d (by rw [e]; simp)
      have := (sign_end ht hdig (by omega : 1 ≤ d) z).2
      rw [← e, i2] at this
      exact this
theorem nm_next {t n j : Int} (ht : t = 1 ∨ t = 2) (hn : 0 ≤ n) (hj : 1 ≤ j) (h : Nm t n j ≤ 0) : n ≤ 2 * j ∧ Nm t (n + 1) (j + 1) < 0 := by
  have h2 : n ≤ 2 * j := by
    refine Int.not_lt.mp fun c => ?_
    have e : 0 < Nm t (2 * j) j := by
      have hp : 0 < j * j := Int.mul_pos (by omega) (by omega)
      have e : Nm t (2 * j) j = t * (j * j) := by unfold Nm; grind
      rw [e]
      rcases ht with rfl | rfl <;> omega
    have := pos_up ht (x := 2 * j) (x' := n) (by omega) (by omega) (by omega) e
    omega
  refine ⟨h2, ?_⟩
  have e : Nm t (n + 1) (j + 1) = Nm t n j + (2 * n + 1 - (2 - t) * (n + j + 1) - t * (2 * j + 1)) := by unfold Nm; grind
  rw [e]
  rcases ht with rfl | rfl <;> omega
theorem nm_ne {t n j : Int} (ht : t = 1 ∨ t = 2) (hn : 0 ≤ n) (hj : 1 ≤ j) : Nm t n j ≠ 0 := by
  intro h
  have hb := nm_next ht hn hj (by omega)
  have hp : 0 < j * j := Int.mul_pos (by omega) (by omega)
  have hlow := nm_low ht hn (by omega : 0 ≤ j) (by omega) (.inl (by omega))
  have ha : 0 < Nm t (n + 1) j := by
    have e : Nm t (n + 1) j = Nm t n j + (2 * n + 1 - (2 - t) * j) := by unfold Nm; grind
    rw [e, h]
    omega
  have hjn : j ≤ n := by
    refine Int.not_lt.mp fun c => ?_
    have hneg : Nm t j j < 0 := by
      have e : Nm t j j = -(j * j) := by unfold Nm; grind
      rw [e]; omega
    have := neg_down ht hn (by omega : 0 < j) (by omega : n ≤ j) hneg
    omega
  obtain ⟨k, hk, hz⟩ := ok_all ht hn
  have := ok_only ht ⟨hn, by omega, hjn, ha, hb.2⟩ hk
  subst this
  exact hz (by omega) h

theorem sq_le {a b : Int} (h0 : 0 ≤ a) (h : a ≤ b) : a * a ≤ b * b := Int.mul_le_mul h h h0 (by omega)
/-- the root, rounded down -/
noncomputable abbrev Root (r x : Int) : Prop := 0 ≤ r ∧ r * r ≤ x ∧ x < (r + 1) * (r + 1)
/-- _law_position's lesser heap -/
theorem pos_ok {t j r n : Int} (ht : t = 1 ∨ t = 2) (hj : 1 ≤ j) (hr : Root r ((t * t + 4) * j * j)) (hn : n = ((2 - t) * j + r) / 2) : Ok t n j ∧ Nm t n j < 0 := by
  obtain ⟨r0, r1, r2⟩ := hr
  have hjj : 1 ≤ j * j := by have := Int.mul_pos (by omega : 0 < j) (by omega : 0 < j); omega
  have hr2 : 2 ≤ r := by
    refine Int.not_lt.mp fun c => ?_
    have : (r + 1) * (r + 1) ≤ 2 * 2 := sq_le (by omega) (by omega)
    have e : (t * t + 4) * j * j = t * t * (j * j) + 4 * (j * j) := by grind
    rw [e] at r2
    rcases ht with rfl | rfl <;> omega
  generalize hc : (2 - t) * j = c at hn
  have hm : 2 * n - c ≤ r ∧ r ≤ 2 * n - c + 1 := by omega
  have e0 : 4 * Nm t n j = (2 * n - c) * (2 * n - c) - (t * t + 4) * j * j := by rw [← hc]; unfold Nm; rcases ht with rfl | rfl <;> grind
  have e1 : 4 * Nm t (n + 1) j = (2 * n - c + 2) * (2 * n - c + 2) - (t * t + 4) * j * j := by rw [← hc]; unfold Nm; rcases ht with rfl | rfl <;> grind
  have s0 : (2 * n - c) * (2 * n - c) ≤ r * r := sq_le (by omega) (by omega)
  have s1 : (r + 1) * (r + 1) ≤ (2 * n - c + 2) * (2 * n - c + 2) := sq_le (by omega) (by omega)
  have hn0 : 0 ≤ n := by rcases ht with rfl | rfl <;> omega
  have hneg : Nm t n j < 0 := by
    have := nm_ne ht hn0 hj
    omega
  have hb := nm_next ht hn0 hj (by omega)
  have hpos : 0 < Nm t (n + 1) j := by omega
  refine ⟨⟨hn0, by omega, ?_, hpos, hb.2⟩, hneg⟩
  refine Int.not_lt.mp fun c => ?_
  have hng : Nm t j j < 0 := by
    have e : Nm t j j = -(j * j) := by unfold Nm; grind
    rw [e]; omega
  have := neg_down ht (x := n + 1) (by omega) (by omega : 0 < j) (by omega : n + 1 ≤ j) hng
  omega
/-- _law_answer's rank -/
theorem rank_ok {t n r k : Int} (ht : t = 1 ∨ t = 2) (hn : 0 ≤ n) (hr : Root r ((t * t + 4) * (n + 1) * (n + 1))) (hk : k = ((t - 2) * (n + 1) + r) / (2 * t)) : Ok t n k := by
  obtain ⟨k', hk', _⟩ := ok_all ht hn
  obtain ⟨r0, r1, r2⟩ := hr
  generalize hc : (t - 2) * (n + 1) = c at hk
  have e0 : ∀ k, (2 * t * k - c) * (2 * t * k - c) - (t * t + 4) * (n + 1) * (n + 1) = -(4 * t * Nm t (n + 1) k) := by
    intro k; rw [← hc]; unfold Nm; rcases ht with rfl | rfl <;> grind
  have h0 := e0 k'
  have h1 := e0 (k' + 1)
  have a := hk'.a
  have b := hk'.b
  have k0 := hk'.k0
  have kn := hk'.kn
  have hc' : c = (t - 2) * (n + 1) := hc.symm
  -- 2 t k' - c <= r < 2 t (k' + 1) - c
  have u1 : 2 * t * k' - c ≤ r := by
    refine Int.not_lt.mp fun hlt => ?_
    have := sq_le (by omega : 0 ≤ r + 1) (by omega : r + 1 ≤ 2 * t * k' - c)
    rcases ht with rfl | rfl <;> omega
  have u2 : r < 2 * t * (k' + 1) - c := by
    refine Int.not_le.mp fun hle => ?_
    have hnn : 0 ≤ 2 * t * (k' + 1) - c := by rcases ht with rfl | rfl <;> omega
    have := sq_le hnn hle
    rcases ht with rfl | rfl <;> omega
  have : k = k' := by
    rw [hk]
    rcases ht with rfl | rfl <;> omega
  rw [this]; exact hk'

/-- a position is lost -/
noncomputable def Lost (t l g : Int) : Prop := (l = 0 ∧ g = 0) ∨ (0 < l ∧ ∃ k, Ok t l k ∧ Nm t l k < 0 ∧ g = l + t * k)
theorem neg_le {t x y : Int} (hx : 0 ≤ x) (hy : 0 < y) (ht : t = 1 ∨ t = 2) (h : x ≤ y) : Nm t x y < 0 := by
  have hjj : 0 < y * y := Int.mul_pos hy hy
  have hng : Nm t y y < 0 := by
    have e : Nm t y y = -(y * y) := by unfold Nm; grind
    rw [e]; omega
  exact neg_down ht hx hy h hng
theorem lt_two {t x y : Int} (ht : t = 1 ∨ t = 2) (hy : 0 < y) (h : Nm t x y < 0) : x < 2 * y := by
  refine Int.not_le.mp fun c => ?_
  have e : 0 < Nm t (2 * y) y := by
    have hp : 0 < y * y := Int.mul_pos hy hy
    have e : Nm t (2 * y) y = t * (y * y) := by unfold Nm; grind
    rw [e]
    rcases ht with rfl | rfl <;> omega
  have := pos_up ht (by omega) (by omega) c e
  omega
theorem k_pos {t n k : Int} (ht : t = 1 ∨ t = 2) (hn : 0 < n) (h : Ok t n k) : 0 < k := by
  refine Int.not_le.mp fun c => ?_
  have : k = 0 := by have := h.k0; omega
  subst this
  have b := lt_two ht (by omega) h.b
  omega
/-- the mate of a heap whose noughts are odd -/
theorem mate_odd {t n k : Int} (ht : t = 1 ∨ t = 2) (hn : 0 < n) (h : Ok t n k) (hp : 0 < Nm t n k) : Lost t (n - t * (n - k)) n := by
  have hk := k_pos ht hn h
  have hb := lt_two ht (by omega) h.b
  have hlt : k < n := by
    refine Int.not_le.mp fun c => ?_
    have := neg_le (t := t) (by omega : 0 ≤ n) hk ht c
    omega
  generalize hq : n - k = q
  generalize hm : n - t * q = m
  have en : n = m + t * q := by omega
  have ek : k = m + (t - 1) * q := by
    have : (t - 1) * q = t * q - q := by grind
    omega
  have hneg : Nm t m q < 0 := by
    have := nm_step (x := m) (y := q) ht
    rw [← en, ← ek] at this
    omega
  have hA : 0 < Nm t (m + 1) q := by
    have e : Nm t (n + 1) (k + 1) = - Nm t (m + 1) q := by
      rw [← nm_step ht]; congr 1
      · rw [en]; grind
      · rw [ek]; grind
    have := h.b
    omega
  have hq1 : 1 ≤ q := by omega
  have hm0 : 0 ≤ m := by
    rcases ht with rfl | rfl <;> omega
  have hqm : q < m + 1 := by
    refine Int.not_le.mp fun c => ?_
    have := neg_le (t := t) (by omega : 0 ≤ m + 1) (by omega : 0 < q) ht c
    omega
  exact .inr ⟨by omega, q, ⟨hm0, by omega, by omega, hA, (nm_next ht hm0 hq1 (by omega)).2⟩, hneg, en⟩
theorem lost_diff {t l g : Int} (h : Lost t l g) : ∃ k, 0 ≤ k ∧ g = l + t * k ∧ (0 < k → 0 < l ∧ Ok t l k ∧ Nm t l k < 0) := by
  rcases h with ⟨rfl, rfl⟩ | ⟨h0, k, h1, h2, h3⟩
  · exact ⟨0, by omega, by omega, fun h => by omega⟩
  · exact ⟨k, h1.k0, h3, fun _ => ⟨h0, h1, h2⟩⟩
/-- a move off the lesser heap -/
theorem move_less {t l g x : Int} (ht : t = 1 ∨ t = 2) (hl : 0 < l) (h : Lost t l g) (hx : 0 ≤ x ∧ x < l) : ¬ Lost t x g := by
  rcases h with ⟨rfl, _⟩ | ⟨_, k, h1, h2, h3⟩
  · omega
  intro h'
  have hk := k_pos ht hl h1
  rcases h' with ⟨rfl, hg⟩ | ⟨_, k', h1', h2', h3'⟩
  · rcases ht with rfl | rfl <;> omega
  · have := ok_mono ht h1' h1 (by omega)
    rcases ht with rfl | rfl <;> omega
/-- a move off the greater heap -/
theorem move_more {t l g y : Int} (ht : t = 1 ∨ t = 2) (hl : 0 < l) (h : Lost t l g) (hy : 0 ≤ y ∧ y < g) : (l ≤ y → ¬ Lost t l y) ∧ (y < l → ¬ Lost t y l) := by
  rcases h with ⟨rfl, _⟩ | ⟨_, k, h1, h2, h3⟩
  · omega
  constructor
  · intro _ h'
    rcases h' with ⟨rfl, _⟩ | ⟨_, k', h1', h2', h3'⟩
    · omega
    · have := ok_only ht h1 h1'
      subst this
      omega
  · intro _ h'
    rcases h' with ⟨rfl, hg⟩ | ⟨_, k', h1', h2', h3'⟩
    · omega
    · have ho := ok_step ht h1' (d := 0) (by omega)
      rw [Int.add_zero, ← h3'] at ho
      have := ok_only ht h1 ho
      subst this
      have hn := nm_step (x := y) (y := k') ht
      rw [← h3'] at hn
      omega
/-- a move off both -/
theorem move_both {t l g a b : Int} (ht : t = 1 ∨ t = 2) (hl : 0 < l) (h : Lost t l g) (ha : 1 ≤ a ∧ a ≤ l) (hb : 1 ≤ b ∧ b ≤ g) (hab : a - b < t ∧ b - a < t) :
    (l - a ≤ g - b → ¬ Lost t (l - a) (g - b)) ∧ (g - b < l - a → ¬ Lost t (g - b) (l - a)) := by
  rcases h with ⟨rfl, _⟩ | ⟨_, k, h1, h2, h3⟩
  · omega
  have hk := k_pos ht hl h1
  constructor
  · intro _ h'
    obtain ⟨k', k0, e, hz⟩ := lost_diff h'
    have ek : k' = k := by rcases ht with rfl | rfl <;> omega
    subst ek
    obtain ⟨_, o, _⟩ := hz hk
    have := pos_up ht (x := l - a + 1) (x' := l) (by omega) (by omega) (by omega) o.a
    omega
  · intro _ h'
    obtain ⟨k', k0, e, _⟩ := lost_diff h'
    rcases ht with rfl | rfl <;> omega

theorem vd_tail {t : Int} : ∀ {u r : List Int}, Vd t (u ++ r) → Vd t r
  | [], _, h => h
  | _ :: _, _, h => vd_tail h.2
/-- the last digit of the word of one less: it is the greatest just if the noughts are odd -/
theorem letter_law {t n k d : Int} {u : List Int} (ht : t = 1 ∨ t = 2) (hd : Dig t (u ++ [d])) (hv : Vd t (u ++ [d])) (hn : (rd t (u ++ [d])).1 = n - 1) (ho : Ok t n k) : d = t ↔ 0 < Nm t n k := by
  have hu : Dig t u := fun x hx => hd x (by simp [hx])
  have hd1 := hd d (by simp)
  have hum := rd_ok ht hu
  have e1 : (rd t u).1 + d + t * (rd t u).2 = n - 1 := by rw [← hn, rd_snoc]; rfl
  constructor
  · intro hdt
    subst hdt
    have hA : 0 < Nm d ((rd d u).1 + 2) ((rd d u).2 + 1) := by
      rcases List.eq_nil_or_concat u with rfl | ⟨u', e, rfl⟩
      · show 0 < Nm d (0 + 2) (0 + 1)
        rcases ht with rfl | rfl <;> decide
      · rw [List.concat_eq_append] at hv hd hu ⊢
        have hu' : Dig d u' := fun x hx => hu x (by simp [hx])
        have he0 := hu e (by simp)
        have hv2 : Vd d [e, d] := vd_tail (u := u') (by simpa using hv)
        have he : e < d := by
          have h1 := hv2.1
          have h2 : (rd d [e, d]).1 = e * wt d 1 + (0 + d + d * 0) := rd_cons d e [d]
          have h3 : wt d ([d].length + 1) = d * (d + 1) + 1 := by show wt d 2 = _; rw [wt_rec, wt_one, wt_zero]
          rw [h2, h3, wt_one] at h1
          rcases ht with rfl | rfl <;> omega
        have := ok_step ht (rd_ok ht hu') (d := e + 1) (by omega)
        have a := this.a
        rw [rd_snoc]
        unfold stp
        have q1 : (rd d u').1 + (e + 1) + d * (rd d u').2 + 1 = (rd d u').1 + e + d * (rd d u').2 + 2 := by omega
        have q2 : (rd d u').1 + (e + 1) + (d - 1) * (rd d u').2 = (rd d u').1 + e + (d - 1) * (rd d u').2 + 1 := by omega
        rw [q1, q2] at a
        exact a
    have hov := ok_step ht hum (d := d) (by omega)
    rw [e1] at hov
    generalize hkv : (rd d u).1 + d + (d - 1) * (rd d u).2 = kv at hov
    have ha := hov.a
    have hB : Nm d (n + 1) (kv + 1) < 0 := by
      have e : Nm d (n + 1) (kv + 1) = - Nm d ((rd d u).1 + 2) ((rd d u).2 + 1) := by
        rw [← nm_step ht]; congr 1
        · have : d * ((rd d u).2 + 1) = d * (rd d u).2 + d := by grind
          omega
        · have : (d - 1) * ((rd d u).2 + 1) = (d - 1) * (rd d u).2 + (d - 1) := by grind
          omega
      omega
    have ha2 : 0 < Nm d n kv := by
      have q : n - 1 + 1 = n := by omega
      rw [q] at ha; exact ha
    have hon : Ok d n kv := ⟨by have := hov.n0; omega, hov.k0, by have := hov.kn; omega, pos_up ht (by have := hov.n0; omega) hov.k0 (by omega) ha2, hB⟩
    have := ok_only ht ho hon
    subst this
    exact ha2
  · intro hp
    refine Decidable.byContradiction fun hne => ?_
    have hos := ok_step ht hum (d := d + 1) (by omega)
    have hsg := sign_digit ht hum (d := d + 1) (by omega)
    have q1 : (rd t u).1 + (d + 1) + t * (rd t u).2 = n := by omega
    rw [q1] at hos hsg
    have := ok_only ht ho hos
    rw [← this] at hsg
    omega

/-! words: the digits without the noughts ahead -/
noncomputable abbrev strip (ds : List Int) : List Int := ds.dropWhile (· == 0)
noncomputable def wd (t : Int) (L : Nat) (n : Int) : List Int := strip (gd t L n)
theorem stp_zero (t : Int) : stp t (0, 0) 0 = (0, 0) := by unfold stp; simp
theorem rd_strip (t : Int) : ∀ ds : List Int, rd t (strip ds) = rd t ds
  | [] => rfl
  | d :: ds => by
    by_cases h : d = 0
    · subst h
      have : strip (0 :: ds) = strip ds := rfl
      rw [this, rd_strip t ds]
      show ds.foldl (stp t) (0, 0) = ds.foldl (stp t) (stp t (0, 0) 0)
      rw [stp_zero]
    · have : strip (d :: ds) = d :: ds := List.dropWhile_cons_of_neg (by simpa using h)
      rw [this]
theorem strip_snoc : ∀ {ds : List Int}, (∃ d ∈ ds, d ≠ 0) → strip (ds ++ [0]) = strip ds ++ [0]
  | [], ⟨_, h, _⟩ => (nomatch h)
  | d :: ds, ⟨e, he, hz⟩ => by
    by_cases h : d = 0
    · subst h
      show strip (ds ++ [0]) = strip ds ++ [0]
      refine strip_snoc ⟨e, ?_, hz⟩
      rcases List.mem_cons.mp he with rfl | he
      · exact absurd rfl hz
      · exact he
    · rw [List.cons_append]
      unfold strip
      rw [List.dropWhile_cons_of_neg (by simpa using h), List.dropWhile_cons_of_neg (by simpa using h)]
      rfl
theorem gd_up {t n : Int} {L : Nat} (ht : t = 1 ∨ t = 2) (h0 : 0 ≤ n) (h1 : n < wt t L) : gd t (L + 1) n = 0 :: gd t L n := by
  show n / wt t L :: gd t L (n % wt t L) = _
  rw [Int.ediv_eq_zero_of_lt h0 h1, Int.emod_eq_of_lt h0 h1]
theorem wd_val {t n : Int} {L : Nat} (ht : t = 1 ∨ t = 2) (h0 : 0 ≤ n) (h1 : n < wt t L) : (rd t (wd t L n)).1 = n := by
  unfold wd
  rw [rd_strip, (gd_spec ht L n h0 h1).2]
theorem wd_dig {t n : Int} {L : Nat} (ht : t = 1 ∨ t = 2) (h0 : 0 ≤ n) (h1 : n < wt t L) : Dig t (wd t L n) := fun d hd => (gd_spec ht L n h0 h1).1 d ((List.dropWhile_suffix _).subset hd)
/-- the greater one's word is the lesser one's and a nought, just if it is its mate -/
theorem word_mate {t n g k : Int} {L : Nat} (ht : t = 1 ∨ t = 2) (h0 : 0 < n) (h1 : n < wt t L) (hg : 0 ≤ g) (hg1 : g < wt t (L + 1)) (ho : Ok t n k) : wd t (L + 1) n ++ [0] = wd t (L + 1) g ↔ g = n + t * k := by
  have hL := (wt_pos ht L).2
  have hk : (rd t (wd t (L + 1) n)).2 = k := by
    have o := rd_ok ht (wd_dig (L := L + 1) ht (by omega : 0 ≤ n) (by omega))
    rw [wd_val ht (by omega) (by omega)] at o
    exact ok_only ht o ho
  constructor
  · intro h
    have h2 := wd_val (L := L + 1) ht hg hg1
    rw [← h, rd_snoc] at h2
    unfold stp at h2
    rw [wd_val ht (by omega) (by omega), hk] at h2
    show g = n + t * k
    have h3 : n + 0 + t * k = g := h2
    omega
  · intro h
    obtain ⟨i1, i2⟩ := gd_spec ht L n (by omega) h1
    have hv := gd_vd ht L n (by omega) h1
    have hK : (rd t (gd t L n)).2 = k := by
      have o := rd_ok ht i1
      rw [i2] at o
      exact ok_only ht o ho
    have hd0 : Dig t (gd t L n ++ [0]) := fun d hd => by
      rcases List.mem_append.mp hd with hd | hd
      · exact i1 d hd
      · rw [List.mem_singleton.mp hd]; omega
    have e := gd_only ht hd0 (vd_nought ht i1 hv)
    have e2 : (rd t (gd t L n ++ [0])).1 = g := by
      rw [rd_snoc]; unfold stp; rw [i2, hK]
      show n + 0 + t * k = g
      omega
    rw [e2, List.length_append, List.length_singleton, gd_length] at e
    have hnz : ∃ d ∈ gd t L n, d ≠ 0 := by
      refine Decidable.byContradiction fun c => ?_
      have hz : ∀ d ∈ gd t L n, d = 0 := fun d hd => Decidable.byContradiction fun hne => c ⟨d, hd, hne⟩
      rw [rd_noughts t hz] at i2
      have : (0 : Int) = n := i2
      omega
    unfold wd
    rw [← e, strip_snoc hnz, gd_up ht (by omega) h1]
    rfl
end Mine
end
section
open PySem PySem.W PyProof.Rows
set_option maxRecDepth 100000
namespace Mine
section
variable {p : Program} {w : World} {n₀ : Nat} {ann : Option Value} {c : Code} {q : Pos} {α β : Type}
theorem segGo_trans {p : Program} {w : World} {n₀ b : Nat} {ann : Option Value} : ∀ {n m : Nat} {s s₁ : Shared} {t t₁ : Thread} {r : Shared × Thread}, segGo treeTable p w n₀ ann b n s t = some (s₁, t₁) →
    segGo treeTable p w n₀ ann b m s₁ t₁ = some r → segGo treeTable p w n₀ ann b (n + m) s t = some r
  | 0, m, s, s₁, t, t₁, r, h, k => by
    obtain ⟨rfl, rfl⟩ : s = s₁ ∧ t = t₁ := by simpa [segGo] using h
    rw [Nat.zero_add]; exact k
  | n + 1, m, s, s₁, t, t₁, r, h, k => by
    rw [show n + 1 + m = n + m + 1 by omega]
    unfold segGo at h ⊢
    cases he : endAt b t with
    | some f => rw [he] at h; cases h
    | none =>
      rw [he] at h
      cases hk : stepOk n₀ ann t with
      | false => rw [hk] at h; cases h
      | true =>
        rw [hk] at h
        cases hs : step (denote treeTable) p w s t with
        | halt o s₂ => rw [hs] at h; cases h
        | go s₂ t₂ => rw [hs] at h; exact segGo_trans h k

/-- a tree runs from s to s', hands back r, in n steps -/
noncomputable def Goes (p : Program) (w : World) (n₀ : Nat) (ann : Option Value) (c : Code) (q : Pos) {α : Type} (x : Sem α) (s : Shared) (r : α) (s' : Shared) (n : Nat) : Prop :=
  ∀ (K : α → Sem Fin) (H : Value → Sem Fin) (gd : Bool → Bool) (lv : List Value → List Value) (pos : Pos), ∃ pos', segGo treeTable p w n₀ ann 1 n s ⟨x.wrap K H gd lv, c, pos, [topFrame q]⟩ = some (s', ⟨K r, c, pos', [topFrame q]⟩)

theorem goes_pure {r : α} {s : Shared} : Goes p w n₀ ann c q (pure r : Sem α) s r s 0 := fun _ _ _ _ pos => ⟨pos, rfl⟩
theorem goes_bind {x : Sem α} {f : α → Sem β} {s s₁ s₂ : Shared} {a : α} {b : β} {n m : Nat} (h : Goes p w n₀ ann c q x s a s₁ n) (k : Goes p w n₀ ann c q (f a) s₁ b s₂ m) : Goes p w n₀ ann c q (x >>= f) s b s₂ (n + m) := fun K H gd lv pos => by
  rw [Sem.bind_eq_wrap', Sem.wrap_wrap]
  obtain ⟨p₁, h₁⟩ := h (fun a => (f a).wrap K H gd lv) (fun e => (Sem.raise e).wrap K H gd lv) (fun g => gd (id g)) (fun l => lv (id l)) pos
  obtain ⟨p₂, h₂⟩ := k K H gd lv p₁
  exact ⟨p₂, segGo_trans h₁ h₂⟩
theorem goes_keep {x : Sem α} {vs : List Value} {s s₁ : Shared} {a : α} {n : Nat} (h : Goes p w n₀ ann c q x s a s₁ n) : Goes p w n₀ ann c q (x.keep vs) s a s₁ n := fun K H gd lv pos => by
  rw [Sem.keep_eq_wrap, Sem.wrap_wrap]
  exact h _ _ _ _ pos
theorem goes_holding {x : Sem α} {vs : List Value} {s s₁ : Shared} {a : α} {n : Nat} (h : Goes p w n₀ ann c q x s a s₁ n) : Goes p w n₀ ann c q (holding vs x) s a s₁ n := by
  unfold holding
  split
  · exact h
  · exact goes_keep h
theorem goes_onRaise {x : Sem α} {g : Value → Sem Unit} {s s₁ : Shared} {a : α} {n : Nat} (h : Goes p w n₀ ann c q x s a s₁ n) : Goes p w n₀ ann c q (x.onRaise g) s a s₁ n := fun K H gd lv pos => by
  rw [Sem.onRaise_eq_wrap, Sem.wrap_wrap]
  exact h _ _ _ _ pos
theorem goes_rule {t : String} {s : Shared} : Goes p w n₀ ann c q (rule t) s () s 1 := fun _ _ _ _ pos => ⟨pos, rfl⟩
theorem goes_alloc {o : Obj} {s : Shared} : Goes p w n₀ ann c q (alloc o) s s.heap.objs.size { s with heap := s.heap.push o } 1 := fun _ _ _ _ pos => ⟨pos, rfl⟩
theorem goes_load {a : Addr} {o : Obj} {part : Option Value} {s : Shared} (h : s.heap.get? a = some o) : Goes p w n₀ ann c q (loadPart a part) s o s 1 := fun K H gd lv pos => by
  refine ⟨pos, ?_⟩
  obtain ⟨heap, gens, drawn, toks, os⟩ := s
  show (match step (denote treeTable) p w ⟨heap, gens, drawn, toks, os⟩ ⟨.load a part fun x => K x, c, pos, [topFrame q]⟩ with | .go s' t' => some (s', t') | .halt _ _ => none) = _
  simp only [step]
  rw [h]
theorem goes_update {a : Addr} {f : Obj → Obj} {part : Option Value} {s : Shared} (h : (s.heap.get? a).isSome = true) (ha : n₀ ≤ a) : Goes p w n₀ ann c q (updatePart a part f) s () { s with heap := s.heap.update a f } 1 := fun K H gd lv pos => by
  refine ⟨pos, ?_⟩
  obtain ⟨heap, gens, drawn, toks, os⟩ := s
  have e : stepOk n₀ ann ⟨(updatePart a part f).wrap K H gd lv, c, pos, [topFrame q]⟩ = true := by
    show (true && (Nat.ble n₀ a || a == mainNs || a == cStatics || ann == some (.ref a))) = true
    rw [Nat.ble_eq_true_of_le ha]; rfl
  unfold segGo
  rw [e]
  show (match step (denote treeTable) p w ⟨heap, gens, drawn, toks, os⟩ ⟨.update a part f fun x => K x, c, pos, [topFrame q]⟩ with | .go s' t' => some (s', t') | .halt _ _ => none) = _
  simp only [step]
  rw [h]; rfl
end
end Mine
namespace Mine
section
variable {p : Program} {w : World} {n₀ : Nat} {ann : Option Value} {c : Code} {q : Pos} {α β : Type}
noncomputable def hk (k : Int) : Int := let h : Int := k.natAbs % (2 ^ 61 - 1 : Nat); let h := if k < 0 then -h else h; if h == -1 then -2 else h
theorem hash_pre {k : Int} {t : Tok} {s : Shared} (K : Int → Sem Fin) (H : Value → Sem Fin) (gd : Bool → Bool) (lv : List Value → List Value) (pos : Pos) : segGo treeTable p w n₀ ann 1 5 s ⟨(pyHash (.int k t)).wrap K H gd lv, c, pos, [topFrame q]⟩ = some ({ s with toks := s.toks + 1 }, ⟨(pyHashByItsType.reduced (hk k)).wrap K H gd lv, c, pos, [topFrame q]⟩) := by
  obtain ⟨heap, gens, drawn, toks, os⟩ := s
  cases hb : w.params.followText "special-get-raises"
  · have e := World.withFollow_self w "special-get-raises"
    rw [hb] at e
    rw [← e]
    kernel_rfl
  · have e := World.withFollow_self w "special-get-raises"
    rw [hb] at e
    rw [← e]
    kernel_rfl
end
end Mine

namespace Mine
section
variable {p : Program} {w : World} {n₀ : Nat} {ann : Option Value} {c : Code} {q : Pos} {α β : Type}
theorem hk_id {k : Int} (h0 : 0 ≤ k) (h1 : k < 2 ^ 61 - 1) : hk k = k := by
  unfold hk
  have e : ((k.natAbs % (2 ^ 61 - 1 : Nat) : Nat) : Int) = k := by omega
  have e2 : ((k.natAbs : Int) % ((2 ^ 61 - 1 : Nat) : Int)) = k := by omega
  simp only [e2, if_neg (show ¬ k < 0 by omega)]
  rw [if_neg]
  simp only [beq_iff_eq]; omega
theorem reduced_id {k : Int} (h0 : 0 ≤ k) (h1 : k < 2 ^ 61 - 1) : pyHashByItsType.reduced k = pure k := by
  unfold pyHashByItsType.reduced
  have e : (decide (-(2 ^ 63 : Int) ≤ k) && decide (k < 2 ^ 63)) = true := by simp; omega
  have e2 : (k == -1) = false := by simp; omega
  simp only [e, e2, if_true, Bool.false_eq_true, if_false]
theorem goes_hash {k : Int} {t : Tok} {s : Shared} (h0 : 0 ≤ k) (h1 : k < 2 ^ 61 - 1) : Goes p w n₀ ann c q (pyHash (.int k t)) s k { s with toks := s.toks + 1 } 5 := fun K H gd lv pos => by
  refine ⟨pos, ?_⟩
  have := hash_pre (p := p) (w := w) (n₀ := n₀) (ann := ann) (c := c) (q := q) (k := k) (t := t) (s := s) K H gd lv pos
  rw [hk_id h0 h1, reduced_id h0 h1] at this
  exact this
/-- a dict -/
noncomputable abbrev D (es : List DictEntry) (n : Nat) : Obj := { cls := .type "dict", data := .dict es.toArray n }
theorem places_none {es : List DictEntry} {h : Int} (hn : ∀ e ∈ es, e.hash ≠ h) : placesWithHash es.toArray.size (fun i => es.toArray[i]?.map (·.hash)) h = [] := by
  unfold placesWithHash
  rw [List.filter_eq_nil_iff]
  intro i _
  simp only [List.getElem?_toArray, beq_iff_eq]
  intro e
  obtain ⟨x, hx, hh⟩ := Option.map_eq_some_iff.mp e
  exact hn x (List.mem_of_getElem? hx) hh
theorem goes_find {k : Int} {t : Tok} {h : Int} {d : Addr} {es : List DictEntry} {n : Nat} {s : Shared} (hd : s.heap.get? d = some (D es n)) (hn : ∀ e ∈ es, e.hash ≠ h) : Goes p w n₀ ann c q (dictFind d (.int k t) h) s none s 1 := by
  unfold dictFind
  refine goes_holding ?_
  refine goes_bind (n := 1) (m := 0) (s₁ := s) (a := es.toArray) ?_ ?_
  · unfold dictEntries
    refine goes_bind (n := 1) (m := 0) (goes_load hd) ?_
    exact goes_pure
  · dsimp only
    rw [places_none hn]
    exact goes_pure

/-! a heap with the object m at its place -/
noncomputable def hp (bs : List Obj) (m : Obj) (r : List Obj) (l : Life) : Heap := ⟨(bs ++ m :: r).toArray, l⟩
theorem hp_get {bs r : List Obj} {l : Life} {es : List DictEntry} {n : Nat} : (hp bs (D es n) r l).get? bs.length = some (D es n) := by
  unfold hp Heap.get?
  simp
theorem hp_shift {bs r : List Obj} {m o : Obj} {l : Life} : hp bs m (r ++ [o]) l = hp (bs ++ m :: r) o [] l := by
  unfold hp
  simp
theorem hp_update {bs r : List Obj} {l : Life} {es : List DictEntry} {n : Nat} {f : Obj → Obj} : (hp bs (D es n) r l).update bs.length f = hp bs (f (D es n)) r l := by
  unfold hp Heap.update
  have : ((bs ++ D es n :: r).toArray.modify bs.length f) = (bs ++ f (D es n) :: r).toArray := by
    apply Array.toList_inj.mp
    rw [Array.toList_modify]
    induction bs with
    | nil => rfl
    | cons b bs ih => simpa using ih
  exact congrArg (fun x => Heap.mk x l) this
/-- the shared state with that heap -/
noncomputable abbrev sh (s : Shared) (h : Heap) (t : Nat) : Shared := { s with heap := h, toks := t }
/-- lookBehind behind a short dict -/
theorem goes_push {e : DictEntry} {bs r : List Obj} {l : Life} {es : List DictEntry} {n : Nat} {part : Option Value} {s : Shared} {t : Nat} (hb : n₀ ≤ bs.length) (hl : es.length + 1 ≤ 100000) :
    Goes p w n₀ ann c q (updateDictKeys bs.length (·.push e) part) (sh s (hp bs (D es n) r l) t) () (sh s (hp bs (D (es ++ [e]) (n + 1)) r l) t) 3 := by
  unfold updateDictKeys
  refine goes_bind (n := 1) (m := 2) (goes_load hp_get) ?_
  refine goes_bind (n := 1) (m := 1) (goes_update (by rw [hp_get]; rfl) hb) ?_
  have e1 : (sh s (hp bs (D es n) r l) t).heap.update bs.length (Obj.mapDictKeys (·.push e)) = hp bs (D (es ++ [e]) (n + 1)) r l := by
    show (hp bs (D es n) r l).update _ _ = _
    rw [hp_update]
    show hp bs ({ cls := .type "dict", data := .dict (es.toArray.push e) (n + 1) } : Obj) r l = _
    rw [List.push_toArray]
  rw [e1]
  unfold lookBehind
  refine goes_bind (n := 1) (m := 0) (goes_load hp_get) ?_
  have e2 : (D (es ++ [e]) (n + 1)).data.pastItsLine = none := by
    show (if (es ++ [e]).toArray.size > sizeLine + 1 then some "dict:memory" else none) = none
    rw [if_neg (by rw [sizeLine_eq]; simp; omega)]
  rw [e2]
  exact goes_pure
theorem goes_set {i : Int} {ti : Tok} {v : Value} {bs r : List Obj} {l : Life} {es : List DictEntry} {n : Nat} {s : Shared} {t : Nat} (h0 : 0 ≤ i) (h1 : i < 2 ^ 61 - 1) (hb : n₀ ≤ bs.length) (hl : es.length + 1 ≤ 100000) (hn : ∀ e ∈ es, e.hash ≠ i) :
    Goes p w n₀ ann c q (dictSet bs.length (.int i ti) v) (sh s (hp bs (D es n) r l) t) () (sh s (hp bs (D (es ++ [⟨i, .int i ti, v⟩]) (n + 1)) r l) (t + 1)) 10 := by
  unfold dictSet
  refine goes_holding (goes_bind (n := 5) (m := 5) (goes_hash h0 h1) ?_)
  unfold dictSetHashed
  refine goes_holding (goes_bind (n := 1) (m := 4) (goes_find hp_get hn) ?_)
  exact goes_bind (n := 1) (m := 3) goes_rule (goes_push hb hl)
/-- a loop whose turns each take m steps -/
theorem goes_for {X : Type} {f : X → Unit → Sem (ForInStep Unit)} {m : Nat} : ∀ {xs : List X} (st : List X → Shared), (∀ pre x post, xs = pre ++ x :: post → Goes p w n₀ ann c q (f x ()) (st pre) (.yield ()) (st (pre ++ [x])) m) → Goes p w n₀ ann c q (forIn xs () f) (st []) () (st xs) (xs.length * m)
  | [], st, _ => by
    rw [List.forIn_nil, show ([] : List X).length * m = 0 by simp]; exact goes_pure
  | x :: xs, st, h => by
    rw [List.forIn_cons, show (x :: xs).length * m = m + xs.length * m by rw [List.length_cons, Nat.succ_mul, Nat.add_comm]]
    refine goes_bind (h [] x xs rfl) ?_
    have ih := goes_for (xs := xs) (fun l => st (x :: l)) fun pre y post e => h (x :: pre) y post (by rw [e]; rfl)
    exact ih

/-! an entry as it is written -/
structure En where
  k : Nat
  v : Str
  pk : Pos
  pv : Pos
noncomputable abbrev En.key (x : En) : Expr := .Constant (.int x.k) 0 x.pk
noncomputable abbrev En.val (x : En) : Expr := .Constant (.str x.v) 0 x.pv
theorem goes_key {x : En} {env : Env} {s : Shared} {h : Heap} {t : Nat} : Goes p w n₀ ann c q (eval x.key env) (sh s h t) (.int x.k t) (sh s h (t + 1)) 1 := fun _ _ _ _ pos => ⟨pos, rfl⟩
theorem goes_val {x : En} {env : Env} {s : Shared} {h : Heap} {t : Nat} (ps : Pos) : Goes p w n₀ ann c q (do let y ← eval x.val env; standAt ps; pure y) (sh s h t) (.str x.v t) (sh s h (t + 1)) 2 := fun _ _ _ _ _ => ⟨ps, rfl⟩

/-- what the entries become, from the token t on -/
noncomputable def ents : Nat → List En → List DictEntry
  | _, [] => []
  | t, x :: r => ⟨x.k, .int x.k t, .str x.v (t + 1)⟩ :: ents (t + 3) r
theorem ents_app : ∀ (t : Nat) (l r : List En), ents t (l ++ r) = ents t l ++ ents (t + 3 * l.length) r
  | t, [], r => by simp [ents]
  | t, x :: l, r => by
    simp only [List.cons_append, ents, ents_app (t + 3) l r, List.length_cons]
    rw [show t + 3 + 3 * l.length = t + 3 * (l.length + 1) by omega]
theorem ents_length : ∀ (t : Nat) (l : List En), (ents t l).length = l.length
  | _, [] => rfl
  | t, x :: l => by simp [ents, ents_length (t + 3) l]
theorem ents_hash : ∀ {t : Nat} {l : List En} {e : DictEntry}, e ∈ ents t l → ∃ x ∈ l, e.hash = x.k
  | _, [], _, h => absurd h List.not_mem_nil
  | t, x :: l, e, h => by
    rcases List.mem_cons.mp h with rfl | h
    · exact ⟨x, List.mem_cons_self, rfl⟩
    · obtain ⟨y, hy, e⟩ := ents_hash h
      exact ⟨y, List.mem_cons_of_mem _ hy, e⟩
/-- the pair of trees of an entry -/
noncomputable abbrev pr (env : Env) (ps : Pos) (x : En) : Sem Value × Sem Value := (eval x.key env, do let y ← eval x.val env; standAt ps; pure y)
/-- keys that rise -/
noncomputable abbrev Rise (l : List En) : Prop := l.Pairwise fun x y => x.k ≠ y.k
theorem goes_sub {env : Env} {ps : Pos} {xs : List En} {bs : List Obj} {l : Life} {s : Shared} {t : Nat} (hb : n₀ ≤ bs.length) (hl : 15 < xs.length ∧ xs.length < 1000) (hr : Rise xs) (hk : ∀ x ∈ xs, x.k < 2 ^ 61 - 1) :
    Goes p w n₀ ann c q (subDict (xs.map (pr env ps))) (sh s ⟨bs.toArray, l⟩ t) bs.length (sh s (hp bs (D (ents t xs) xs.length) [] l) (t + 3 * xs.length)) (1 + (1 + xs.length * 13)) := by
  unfold subDict
  refine goes_bind (n := 1) (a := bs.length) (s₁ := sh s (hp bs (D [] 0) [] l) t) ?_ ?_
  · have := goes_alloc (p := p) (w := w) (n₀ := n₀) (ann := ann) (c := c) (q := q) (o := D [] 0) (s := sh s ⟨bs.toArray, l⟩ t)
    have e : (sh s ⟨bs.toArray, l⟩ t).heap.push (D [] 0) = hp bs (D [] 0) [] l := by
      show (⟨bs.toArray.push (D [] 0), l⟩ : Heap) = _
      unfold hp; rw [List.push_toArray]
    rw [e] at this
    exact this
  · refine goes_bind (a := ()) (n := 1 + xs.length * 13) (m := 0) (goes_holding ?_) goes_pure
    rw [List.length_map, if_neg (by omega)]
    refine goes_bind (a := ()) (n := 1) goes_rule ?_
    refine goes_bind (a := ()) (n := xs.length * 13) (m := 0) ?_ goes_pure
    rw [List.forIn_map]
    have e : ∀ ys : List En, t + 3 * ys.length + 3 = t + 3 * (ys.length + 1) := fun ys => by omega
    refine goes_for (m := 13) (fun ys => sh s (hp bs (D (ents t ys) ys.length) [] l) (t + 3 * ys.length)) ?_
    intro ys x zs hx
    have hx' : x ∈ xs := by rw [hx]; simp
    have hlen : ys.length + 1 ≤ xs.length := by rw [hx]; simp
    have hne : ∀ e ∈ ents t ys, e.hash ≠ (x.k : Int) := by
      intro e he hh
      obtain ⟨y, hy, e1⟩ := ents_hash he
      rw [e1] at hh
      rw [hx] at hr
      exact (List.pairwise_append.mp hr).2.2 y hy x List.mem_cons_self (by omega)
    refine goes_bind (n := 1) (m := 12) goes_key ?_
    refine goes_bind (n := 2) (m := 10) (goes_holding (goes_val ps)) ?_
    refine goes_bind (a := ()) (n := 10) (m := 0) (s₁ := sh s (hp bs (D (ents t (ys ++ [x])) (ys ++ [x]).length) [] l) (t + 3 * (ys ++ [x]).length)) (goes_holding ?_) goes_pure
    have := goes_set (p := p) (w := w) (n₀ := n₀) (ann := ann) (c := c) (q := q) (i := x.k) (ti := t + 3 * ys.length) (v := .str x.v (t + 3 * ys.length + 1)) (bs := bs) (r := []) (l := l) (es := ents t ys) (n := ys.length) (s := s) (t := t + 3 * ys.length + 1 + 1) (by omega) (by have := hk x hx'; omega) hb (by rw [ents_length]; omega) hne
    rw [ents_app, List.length_append, List.length_singleton, ← e]
    exact this
/-- the values of the pairs -/
noncomputable def pairsV : Nat → List En → List (Value × Value)
  | _, [] => []
  | t, x :: r => (.int x.k t, .str x.v (t + 1)) :: pairsV (t + 2) r
theorem goes_pairs {env : Env} {ps : Pos} {h : Heap} {s : Shared} : ∀ {xs : List En} {t : Nat}, Goes p w n₀ ann c q (evalPairs (xs.map (pr env ps))) (sh s h t) (pairsV t xs) (sh s h (t + 2 * xs.length)) (xs.length * 3)
  | [], t => goes_pure
  | x :: xs, t => by
    rw [show (x :: xs).length * 3 = 1 + (2 + (xs.length * 3 + 0)) by rw [List.length_cons]; omega, show t + 2 * (x :: xs).length = t + 2 + 2 * xs.length by rw [List.length_cons]; omega]
    show Goes p w n₀ ann c q (evalPairs ((eval x.key env, do let y ← eval x.val env; standAt ps; pure y) :: xs.map (pr env ps))) _ _ _ _
    unfold evalPairs
    refine goes_bind goes_key ?_
    refine goes_bind (goes_holding (goes_val ps)) ?_
    exact goes_bind (goes_holding (goes_pairs (xs := xs) (t := t + 2))) goes_pure
noncomputable def entsS : Nat → List En → List DictEntry
  | _, [] => []
  | t, x :: r => ⟨x.k, .int x.k t, .str x.v (t + 1)⟩ :: entsS (t + 2) r
theorem entsS_length : ∀ (t : Nat) (l : List En), (entsS t l).length = l.length
  | _, [] => rfl
  | t, x :: l => by simp [entsS, entsS_length (t + 2) l]
theorem entsS_hash : ∀ {t : Nat} {l : List En} {e : DictEntry}, e ∈ entsS t l → ∃ x ∈ l, e.hash = x.k
  | _, [], _, h => absurd h List.not_mem_nil
  | t, x :: l, e, h => by
    rcases List.mem_cons.mp h with rfl | h
    · exact ⟨x, List.mem_cons_self, rfl⟩
    · obtain ⟨y, hy, e⟩ := entsS_hash h
      exact ⟨y, List.mem_cons_of_mem _ hy, e⟩
/-- the values set one behind the other -/
theorem goes_sets {bs : List Obj} {l : Life} {s : Shared} {f : Value × Value → Unit → Sem (ForInStep Unit)} (hf : ∀ z u, f z u = (dictSet bs.length z.1 z.2 >>= fun _ => pure (.yield ()))) (hb : n₀ ≤ bs.length) :
    ∀ {xs : List En} {es : List DictEntry} {n t t' : Nat}, es.length + xs.length < 1000 → Rise xs → (∀ x ∈ xs, x.k < 2 ^ 61 - 1) → (∀ e ∈ es, ∀ x ∈ xs, e.hash ≠ (x.k : Int)) →
      Goes p w n₀ ann c q (forIn (pairsV t xs) () f) (sh s (hp bs (D es n) [] l) t') () (sh s (hp bs (D (es ++ entsS t xs) (n + xs.length)) [] l) (t' + xs.length)) (xs.length * 10)
  | [], es, n, t, t', _, _, _, _ => by
    rw [show pairsV t [] = [] from rfl, List.forIn_nil, show entsS t [] = [] from rfl, List.append_nil]
    exact goes_pure
  | x :: xs, es, n, t, t', hl, hr, hk, hn => by
    rw [show pairsV t (x :: xs) = (.int x.k t, .str x.v (t + 1)) :: pairsV (t + 2) xs from rfl, List.forIn_cons, hf]
    rw [List.length_cons] at hl
    have h1 := goes_set (p := p) (w := w) (n₀ := n₀) (ann := ann) (c := c) (q := q) (i := x.k) (ti := t) (v := .str x.v (t + 1)) (bs := bs) (r := []) (l := l) (es := es) (n := n) (s := s) (t := t') (by omega) (by have := hk x List.mem_cons_self; omega) hb (by omega) (fun e he => hn e he x List.mem_cons_self)
    have h2 := goes_sets (s := s) (l := l) hf hb (xs := xs) (es := es ++ [⟨x.k, .int x.k t, .str x.v (t + 1)⟩]) (n := n + 1) (t := t + 2) (t' := t' + 1) (by rw [List.length_append, List.length_singleton]; omega) (List.pairwise_cons.mp hr).2 (fun y hy => hk y (List.mem_cons_of_mem _ hy)) (by
      intro e he y hy
      rcases List.mem_append.mp he with he | he
      · exact hn e he y (List.mem_cons_of_mem _ hy)
      · rw [List.mem_singleton.mp he]
        have := (List.pairwise_cons.mp hr).1 y hy
        show (x.k : Int) ≠ y.k
        omega)
    rw [List.append_assoc] at h2
    rw [show (x :: xs).length * 10 = 10 + 0 + xs.length * 10 by rw [List.length_cons]; omega, show n + (x :: xs).length = n + 1 + xs.length by rw [List.length_cons]; omega, show t' + (x :: xs).length = t' + 1 + xs.length by rw [List.length_cons]; omega]
    refine goes_bind (m := xs.length * 10) (goes_bind (m := 0) h1 goes_pure) ?_
    exact h2
theorem goes_subS {env : Env} {ps : Pos} {xs : List En} {bs : List Obj} {l : Life} {s : Shared} {t : Nat} (hb : n₀ ≤ bs.length) (hl : xs.length ≤ 15) (hr : Rise xs) (hk : ∀ x ∈ xs, x.k < 2 ^ 61 - 1) :
    Goes p w n₀ ann c q (subDict (xs.map (pr env ps))) (sh s ⟨bs.toArray, l⟩ t) bs.length (sh s (hp bs (D (entsS t xs) xs.length) [] l) (t + 3 * xs.length)) (1 + xs.length * 13) := by
  unfold subDict
  refine goes_bind (n := 1) (a := bs.length) (s₁ := sh s (hp bs (D [] 0) [] l) t) ?_ ?_
  · have := goes_alloc (p := p) (w := w) (n₀ := n₀) (ann := ann) (c := c) (q := q) (o := D [] 0) (s := sh s ⟨bs.toArray, l⟩ t)
    have e : (sh s ⟨bs.toArray, l⟩ t).heap.push (D [] 0) = hp bs (D [] 0) [] l := by
      show (⟨bs.toArray.push (D [] 0), l⟩ : Heap) = _
      unfold hp; rw [List.push_toArray]
    rw [e] at this
    exact this
  · refine goes_bind (a := ()) (n := xs.length * 13) (m := 0) (goes_holding ?_) goes_pure
    rw [List.length_map, if_pos hl, show xs.length * 13 = xs.length * 3 + (xs.length * 10 + 0) by omega]
    refine goes_bind goes_pairs (goes_holding (goes_bind (a := ()) ?_ goes_pure))
    have := goes_sets (p := p) (w := w) (n₀ := n₀) (ann := ann) (c := c) (q := q) (bs := bs) (l := l) (s := s) (f := fun x __s => match x with | (k, v) => do dictSet bs.length k v; pure (ForInStep.yield PUnit.unit)) (fun z u => rfl) hb (xs := xs) (es := []) (n := 0) (t := t) (t' := t + 2 * xs.length) (by simp; omega) hr hk (by simp)
    rw [List.nil_append, Nat.zero_add, show t + 2 * xs.length + xs.length = t + 3 * xs.length by omega] at this
    exact this
/-- the lesser dict goes into the greater -/
theorem goes_isDict {bs r : List Obj} {l : Life} {s : Shared} {t : Nat} {es : List DictEntry} {n : Nat} : Goes p w n₀ ann c q (isInstance (.ref bs.length) (.type "dict")) (sh s (hp bs (D es n) r l) t) true (sh s (hp bs (D es n) r l) t) 1 := by
  unfold isInstance
  refine goes_bind (n := 1) (m := 0) (a := .type "dict") (s₁ := sh s (hp bs (D es n) r l) t) ?_ ?_
  · unfold typeOf
    refine goes_bind (n := 1) (m := 0) (goes_load hp_get) ?_
    exact goes_pure
  · have e : isSubtype (.type "dict") (.type "dict") = pure true := by kernel_rfl
    rw [e]; exact goes_pure
theorem goes_iterOf {bs r : List Obj} {l : Life} {s : Shared} {t : Nat} {es : List DictEntry} {n : Nat} : Goes p w n₀ ann c q (specialOf (.ref bs.length) "__iter__") (sh s (hp bs (D es n) r l) t) (some (.builtin "dict.__iter__")) (sh s (hp bs (D es n) r l) t) 1 := by
  unfold specialOf
  refine goes_bind (n := 1) (m := 0) (a := .type "dict") (s₁ := sh s (hp bs (D es n) r l) t) ?_ ?_
  · unfold typeOf
    refine goes_bind (n := 1) (m := 0) (goes_load hp_get) ?_
    exact goes_pure
  · have e : typeLookup (.type "dict") "__iter__" = pure (some (.builtin "dict.__iter__")) := by kernel_rfl
    rw [e]; exact goes_pure

theorem hp_get2 {bs r : List Obj} {m : Obj} {l : Life} {fs : List DictEntry} {k : Nat} : (hp bs m (r ++ [D fs k]) l).get? (bs.length + (r.length + 1)) = some (D fs k) := by
  rw [hp_shift, show bs.length + (r.length + 1) = (bs ++ m :: r).length by simp]
  exact hp_get
theorem goes_put {i : Int} {ti : Tok} {v : Value} {bs r : List Obj} {l : Life} {es : List DictEntry} {n : Nat} {s : Shared} {t : Nat} (hb : n₀ ≤ bs.length) (hl : es.length + 1 ≤ 100000) (hn : ∀ e ∈ es, e.hash ≠ i) :
    Goes p w n₀ ann c q (dictPut bs.length i (.int i ti) v) (sh s (hp bs (D es n) r l) t) () (sh s (hp bs (D (es ++ [⟨i, .int i ti, v⟩]) (n + 1)) r l) t) 4 := by
  unfold dictPut
  refine goes_bind (n := 1) (m := 3) (goes_find hp_get hn) ?_
  exact goes_push hb hl
theorem goes_merge {bs r : List Obj} {l : Life} {es fs : List DictEntry} {n k : Nat} {s : Shared} {t : Nat} (hb : n₀ ≤ bs.length) (hs : (bs.length + (r.length + 1) == sysModules) = false) (he : es ≠ []) (hl : es.length + fs.length < 10000)
    (hi : ∀ f ∈ fs, ∃ i ti v, f = ⟨i, .int i ti, v⟩) (hr : fs.Pairwise fun x y => x.hash ≠ y.hash) (hn : ∀ e ∈ es, ∀ f ∈ fs, e.hash ≠ f.hash) :
    Goes p w n₀ ann c q (mergeMapping bs.length (.ref (bs.length + (r.length + 1))) false) (sh s (hp bs (D es n) (r ++ [D fs k]) l) t) () (sh s (hp bs (D (es ++ fs) (n + fs.length)) (r ++ [D fs k]) l) t) (1 + (1 + (0 + (1 + (1 + (1 + (fs.length * 6 + 0))))))) := by
  have shift : ∀ (m : Obj), hp bs m (r ++ [D fs k]) l = hp (bs ++ m :: r) (D fs k) [] l := fun m => hp_shift
  have hlen : bs.length + (r.length + 1) = (bs ++ D es n :: r).length := by simp
  unfold mergeMapping
  refine goes_bind (a := true) (n := 1) (m := 1 + (0 + (1 + (1 + (1 + (fs.length * 6 + 0)))))) (s₁ := sh s (hp bs (D es n) (r ++ [D fs k]) l) t) ?_ ?_
  · rw [hlen, shift]; exact goes_isDict
  rw [if_pos rfl]
  refine goes_bind (a := some (.builtin "dict.__iter__")) (s₁ := sh s (hp bs (D es n) (r ++ [D fs k]) l) t) ?_ ?_
  · rw [hlen, shift]; exact goes_iterOf
  refine goes_bind (a := true) (s₁ := sh s (hp bs (D es n) (r ++ [D fs k]) l) t) ?_ ?_
  · have e : (some (Value.builtin "dict.__iter__") == some (.builtin "dict.__iter__")) = true := by decide +kernel
    rw [e]; exact goes_pure
  dsimp only
  rw [hs]
  rw [if_neg Bool.false_ne_true]
  refine goes_bind (a := es.toArray) (s₁ := sh s (hp bs (D es n) (r ++ [D fs k]) l) t) ?_ ?_
  · unfold dictEntries
    refine goes_bind (n := 1) (m := 0) (goes_load hp_get) ?_
    exact goes_pure
  have hE : es.toArray.isEmpty = false := by simpa using he
  rw [hE, if_neg Bool.false_ne_true]
  have hld : ∀ es' n', Goes p w n₀ ann c q (dictEntries (bs.length + (r.length + 1))) (sh s (hp bs (D es' n') (r ++ [D fs k]) l) t) fs.toArray (sh s (hp bs (D es' n') (r ++ [D fs k]) l) t) 1 := by
    intro es' n'
    unfold dictEntries
    refine goes_bind (n := 1) (m := 0) (goes_load hp_get2) ?_
    exact goes_pure
  have hep : ∀ es' n', Goes p w n₀ ann c q (dictEpoch (bs.length + (r.length + 1))) (sh s (hp bs (D es' n') (r ++ [D fs k]) l) t) k (sh s (hp bs (D es' n') (r ++ [D fs k]) l) t) 1 := by
    intro es' n'
    unfold dictEpoch
    refine goes_bind (n := 1) (m := 0) (goes_load hp_get2) ?_
    exact goes_pure
  refine goes_bind (hld _ _) ?_
  refine goes_bind (hep _ _) ?_
  refine goes_bind (a := ()) (s₁ := sh s (hp bs (D (es ++ fs) (n + fs.length)) (r ++ [D fs k]) l) t) ?_ goes_pure
  rw [List.size_toArray]
  have key := goes_for (p := p) (w := w) (n₀ := n₀) (ann := ann) (c := c) (q := q) (m := 6) (xs := List.range fs.length) (fun ys => sh s (hp bs (D (es ++ fs.take ys.length) (n + ys.length)) (r ++ [D fs k]) l) t) (f := fun i __s => do
      let __do_lift ← dictEntries (bs.length + (r.length + 1))
      match __do_lift[i]? with
        | some e => do
          holding [e.key, e.val] (dictPut bs.length e.hash e.key e.val)
          let __do_lift ← dictEpoch (bs.length + (r.length + 1))
          if (__do_lift != k) = true then do
              unsupported "dict.changed-during-merge"
              pure (ForInStep.yield PUnit.unit)
            else pure (ForInStep.yield PUnit.unit)
        | x => do
          unsupported "dict.changed-during-merge"
          pure (ForInStep.yield PUnit.unit)) (by
    intro ys i zs hx
    have hi' : i = ys.length ∧ i < fs.length := by
      have h1 : (List.range fs.length)[ys.length]? = some i := by rw [hx]; simp
      rw [List.getElem?_range (by have := congrArg List.length hx; simp at this; omega)] at h1
      have h2 := congrArg List.length hx
      simp at h2
      exact ⟨(Option.some.inj h1).symm, by have := Option.some.inj h1; omega⟩
    obtain ⟨rfl, hlt⟩ := hi'
    obtain ⟨i, ti, v, hf⟩ := hi fs[ys.length] (List.getElem_mem hlt)
    refine goes_bind (n := 1) (m := 5) (hld _ _) ?_
    have hg : fs.toArray[ys.length]? = some ⟨i, .int i ti, v⟩ := by
      rw [List.getElem?_toArray, List.getElem?_eq_getElem hlt, hf]
    rw [hg]
    dsimp only
    have ht : fs.take (ys ++ [ys.length]).length = fs.take ys.length ++ [⟨i, .int i ti, v⟩] := by
      rw [List.length_append, List.length_singleton, List.take_succ, List.getElem?_eq_getElem hlt, hf]; rfl
    have hpt := goes_put (p := p) (w := w) (n₀ := n₀) (ann := ann) (c := c) (q := q) (i := i) (ti := ti) (v := v) (bs := bs) (r := r ++ [D fs k]) (l := l) (es := es ++ fs.take ys.length) (n := n + ys.length) (s := s) (t := t) hb (by rw [List.length_append, List.length_take]; omega) (by
      intro e hm
      rcases List.mem_append.mp hm with hm | hm
      · have := hn e hm fs[ys.length] (List.getElem_mem hlt)
        rw [hf] at this; exact this
      · obtain ⟨j, hj, rfl⟩ := List.mem_iff_getElem.mp hm
        rw [List.length_take] at hj
        rw [List.getElem_take]
        have := List.pairwise_iff_getElem.mp hr j ys.length (by omega) hlt (by omega)
        rw [hf] at this; exact this)
    rw [List.append_assoc, ← ht, show n + ys.length + 1 = n + (ys ++ [ys.length]).length by rw [List.length_append, List.length_singleton]; omega] at hpt
    refine goes_bind (n := 4) (m := 1) (goes_holding hpt) ?_
    refine goes_bind (n := 1) (m := 0) (hep _ _) ?_
    have hk : (k != k) = false := by simp
    rw [hk, if_neg Bool.false_ne_true]
    exact goes_pure)
  simp only [List.length_nil, List.take_zero, List.append_nil, Nat.add_zero, List.length_range, List.take_length] at key
  exact key
end
end Mine
end
section
open PySem PySem.W PyProof.Rows
set_option maxRecDepth 100000
namespace Mine
section
variable {p : Program} {w : World} {n₀ : Nat} {ann : Option Value} {c : Code} {q : Pos} {α β : Type}
/-- an item of a display -/
noncomputable abbrev it (env : Env) (ps : Pos) (x : En) : Option (Sem Value) × Sem Value := (some (pr env ps x).1, (pr env ps x).2)
/-- what a full run does: the first becomes the dict, each later one is laid into it -/
noncomputable def flushT (run : List (Sem Value × Sem Value)) (main : Option Addr) : Sem (Option Addr) :=
  if run.isEmpty = true then pure main
  else match main with
    | none => do
      let d ← subDict run
      pure (some d)
    | some d => do
      let sub ← holding [Value.ref d] (subDict run)
      (holding [Value.ref d, Value.ref sub] (mergeMapping d (Value.ref sub) false)).onRaise fun x => do
          let _ ← holding [Value.ref d, x] (runValue (Code.builtin "proto.let_go" { }))
          pure ()
      pure (some d)
/-- a turn at an item that has a key -/
noncomputable abbrev TurnOf (f : (Option (Sem Value) × Sem Value) → Option Addr × List (Sem Value × Sem Value) → Sem (ForInStep (Option Addr × List (Sem Value × Sem Value)))) (env : Env) (ps : Pos) : Prop :=
  ∀ x s, f (it env ps x) s = if ((s.2 ++ [pr env ps x]).length == 17) = true then do
      let main ← flushT (s.2 ++ [pr env ps x]) s.1
      pure (ForInStep.yield (main, []))
    else pure (ForInStep.yield (s.1, s.2 ++ [pr env ps x]))
section
variable {f : (Option (Sem Value) × Sem Value) → Option Addr × List (Sem Value × Sem Value) → Sem (ForInStep (Option Addr × List (Sem Value × Sem Value)))} {env : Env} {ps : Pos}
/-- short of 17 a run only grows -/
theorem goes_gather (hf : TurnOf f env ps) {rest : List (Option (Sem Value) × Sem Value)} {main : Option Addr} {s s' : Shared} {r : Option Addr × List (Sem Value × Sem Value)} {n : Nat} : ∀ {ys : List En} {run : List En}, run.length + ys.length < 17 →
    Goes p w n₀ ann c q (forIn rest (main, (run ++ ys).map (pr env ps)) f) s r s' n → Goes p w n₀ ann c q (forIn (ys.map (it env ps) ++ rest) (main, run.map (pr env ps)) f) s r s' n
  | [], run, _, h => by rw [List.append_nil] at h; exact h
  | y :: ys, run, hl, h => by
    rw [List.map_cons, List.cons_append, List.forIn_cons, hf]
    rw [List.length_cons] at hl
    rw [if_neg (by simp; omega)]
    have ih := goes_gather hf (ys := ys) (run := run ++ [y]) (by simp; omega) (by rw [List.append_assoc]; exact h)
    rw [show n = 0 + n by omega]
    refine goes_bind goes_pure ?_
    rw [List.map_append] at ih
    exact ih
/-- the 17th lets it go -/
theorem goes_batch (hf : TurnOf f env ps) {rest : List (Option (Sem Value) × Sem Value)} {main main' : Option Addr} {s s₁ s' : Shared} {r : Option Addr × List (Sem Value × Sem Value)} {n m : Nat} {ys : List En} (hl : ys.length = 17)
    (h1 : Goes p w n₀ ann c q (flushT (ys.map (pr env ps)) main) s main' s₁ n) (h : Goes p w n₀ ann c q (forIn rest (main', []) f) s₁ r s' m) : Goes p w n₀ ann c q (forIn (ys.map (it env ps) ++ rest) (main, []) f) s r s' (n + m) := by
  obtain ⟨zs, z, rfl⟩ : ∃ zs z, ys = zs ++ [z] := ⟨ys.dropLast, ys.getLast (by intro e; rw [e] at hl; cases hl), (List.dropLast_concat_getLast _).symm⟩
  rw [List.map_append, List.append_assoc]
  rw [List.length_append, List.length_singleton] at hl
  refine goes_gather hf (ys := zs) (run := []) (by simp; omega) ?_
  rw [List.nil_append, List.map_singleton, List.singleton_append, List.forIn_cons, hf]
  rw [if_pos (by simp; omega)]
  rw [List.map_append] at h1
  refine goes_bind (goes_bind (m := 0) h1 goes_pure) ?_
  exact h
end
/-- the first run -/
theorem goes_flush1 {env : Env} {ps : Pos} {xs : List En} {bs : List Obj} {l : Life} {s : Shared} {t : Nat} (hb : n₀ ≤ bs.length) (hl : 15 < xs.length ∧ xs.length < 1000) (hr : Rise xs) (hk : ∀ x ∈ xs, x.k < 2 ^ 61 - 1) :
    Goes p w n₀ ann c q (flushT (xs.map (pr env ps)) none) (sh s ⟨bs.toArray, l⟩ t) (some bs.length) (sh s (hp bs (D (ents t xs) xs.length) [] l) (t + 3 * xs.length)) (1 + (1 + xs.length * 13)) := by
  unfold flushT
  rw [if_neg (by simp; intro e; rw [e] at hl; simp at hl)]
  exact goes_bind (m := 0) (goes_sub hb hl hr hk) goes_pure
theorem ents_int : ∀ {t : Nat} {l : List En} {f : DictEntry}, f ∈ ents t l → ∃ i ti v, f = ⟨i, .int i ti, v⟩
  | _, [], _, h => absurd h List.not_mem_nil
  | t, x :: l, f, h => by
    rcases List.mem_cons.mp h with rfl | h
    · exact ⟨_, _, _, rfl⟩
    · exact ents_int h
theorem entsS_int : ∀ {t : Nat} {l : List En} {f : DictEntry}, f ∈ entsS t l → ∃ i ti v, f = ⟨i, .int i ti, v⟩
  | _, [], _, h => absurd h List.not_mem_nil
  | t, x :: l, f, h => by
    rcases List.mem_cons.mp h with rfl | h
    · exact ⟨_, _, _, rfl⟩
    · exact entsS_int h
theorem ents_apart : ∀ {t : Nat} {l : List En}, Rise l → (ents t l).Pairwise fun x y => x.hash ≠ y.hash
  | t, [], _ => List.Pairwise.nil
  | t, x :: l, h => by
    refine List.pairwise_cons.mpr ⟨fun e he => ?_, ents_apart (List.pairwise_cons.mp h).2⟩
    obtain ⟨y, hy, e1⟩ := ents_hash he
    rw [e1]
    have := (List.pairwise_cons.mp h).1 y hy
    show (x.k : Int) ≠ y.k
    omega
theorem entsS_apart : ∀ {t : Nat} {l : List En}, Rise l → (entsS t l).Pairwise fun x y => x.hash ≠ y.hash
  | t, [], _ => List.Pairwise.nil
  | t, x :: l, h => by
    refine List.pairwise_cons.mpr ⟨fun e he => ?_, entsS_apart (List.pairwise_cons.mp h).2⟩
    obtain ⟨y, hy, e1⟩ := entsS_hash he
    rw [e1]
    have := (List.pairwise_cons.mp h).1 y hy
    show (x.k : Int) ≠ y.k
    omega
/-- a later run, of a sub dict whose entries are fs -/
theorem goes_flush2 {pairs : List (Sem Value × Sem Value)} {fs es : List DictEntry} {bs r : List Obj} {l : Life} {s : Shared} {n k m t t' : Nat} (hp0 : pairs.isEmpty = false) (hb : n₀ ≤ bs.length)
    (sub : Goes p w n₀ ann c q (subDict pairs) (sh s (hp bs (D es n) r l) t) (bs.length + (r.length + 1)) (sh s (hp bs (D es n) (r ++ [D fs k]) l) t') m)
    (hs : (bs.length + (r.length + 1) == sysModules) = false) (he : es ≠ []) (hl : es.length + fs.length < 10000)
    (hi : ∀ f ∈ fs, ∃ i ti v, f = ⟨i, .int i ti, v⟩) (hr : fs.Pairwise fun x y => x.hash ≠ y.hash) (hn : ∀ e ∈ es, ∀ f ∈ fs, e.hash ≠ f.hash) :
    Goes p w n₀ ann c q (flushT pairs (some bs.length)) (sh s (hp bs (D es n) r l) t) (some bs.length) (sh s (hp bs (D (es ++ fs) (n + fs.length)) (r ++ [D fs k]) l) t') (m + (5 + fs.length * 6)) := by
  unfold flushT
  rw [hp0, if_neg Bool.false_ne_true]
  refine goes_bind (goes_holding sub) ?_
  have := goes_merge (p := p) (w := w) (n₀ := n₀) (ann := ann) (c := c) (q := q) (bs := bs) (r := r) (l := l) (es := es) (fs := fs) (n := n) (k := k) (s := s) (t := t') hb hs he hl hi hr hn
  rw [show 5 + fs.length * 6 = (1 + (1 + (0 + (1 + (1 + (1 + (fs.length * 6 + 0))))))) + 0 by omega]
  exact goes_bind (goes_onRaise (goes_holding this)) goes_pure
end
end Mine
end
section
open PySem PySem.W PyProof.Rows
set_option maxRecDepth 100000
namespace Mine
section
variable {p : Program} {w : World} {n₀ : Nat} {ann : Option Value} {c : Code} {q : Pos} {α β : Type}
theorem sub_later {env : Env} {ps : Pos} {xs : List En} {bs r : List Obj} {l : Life} {es : List DictEntry} {n : Nat} {s : Shared} {t : Nat} (hb : n₀ ≤ bs.length) (hl : 15 < xs.length ∧ xs.length < 1000) (hr : Rise xs) (hk : ∀ x ∈ xs, x.k < 2 ^ 61 - 1) :
    Goes p w n₀ ann c q (subDict (xs.map (pr env ps))) (sh s (hp bs (D es n) r l) t) (bs.length + (r.length + 1)) (sh s (hp bs (D es n) (r ++ [D (ents t xs) xs.length]) l) (t + 3 * xs.length)) (1 + (1 + xs.length * 13)) := by
  have h := goes_sub (p := p) (w := w) (n₀ := n₀) (ann := ann) (c := c) (q := q) (env := env) (ps := ps) (bs := bs ++ D es n :: r) (l := l) (s := s) (t := t) (by simp; omega) hl hr hk
  rw [show (bs ++ D es n :: r).length = bs.length + (r.length + 1) by simp, ← hp_shift] at h
  exact h
theorem sub_last {env : Env} {ps : Pos} {xs : List En} {bs r : List Obj} {l : Life} {es : List DictEntry} {n : Nat} {s : Shared} {t : Nat} (hb : n₀ ≤ bs.length) (hl : xs.length ≤ 15) (hr : Rise xs) (hk : ∀ x ∈ xs, x.k < 2 ^ 61 - 1) :
    Goes p w n₀ ann c q (subDict (xs.map (pr env ps))) (sh s (hp bs (D es n) r l) t) (bs.length + (r.length + 1)) (sh s (hp bs (D es n) (r ++ [D (entsS t xs) xs.length]) l) (t + 3 * xs.length)) (1 + xs.length * 13) := by
  have h := goes_subS (p := p) (w := w) (n₀ := n₀) (ann := ann) (c := c) (q := q) (env := env) (ps := ps) (bs := bs ++ D es n :: r) (l := l) (s := s) (t := t) (by simp; omega) hl hr hk
  rw [show (bs ++ D es n :: r).length = bs.length + (r.length + 1) by simp, ← hp_shift] at h
  exact h
/-- the sub dicts that are left behind -/
noncomputable def subs : Nat → List (List En) → List Obj
  | _, [] => []
  | t, y :: ys => D (ents t y) 17 :: subs (t + 51) ys
section
variable {f : (Option (Sem Value) × Sem Value) → Option Addr × List (Sem Value × Sem Value) → Sem (ForInStep (Option Addr × List (Sem Value × Sem Value)))} {env : Env} {ps : Pos}
theorem goes_later (hf : TurnOf f env ps) {bs : List Obj} {l : Life} {s s' : Shared} {rest : List (Option (Sem Value) × Sem Value)} {res : Option Addr × List (Sem Value × Sem Value)} {N : Nat} (hb : n₀ ≤ bs.length) (hsys : ∀ k : Nat, (bs.length + (k + 1) == sysModules) = false) :
    ∀ {cs : List (List En)} {es : List DictEntry} {r : List Obj} {n t : Nat}, (∀ y ∈ cs, y.length = 17) → Rise cs.flatten → (∀ x ∈ cs.flatten, x.k < 2 ^ 61 - 1) → es ≠ [] → es.length + 17 * cs.length < 10000 → (∀ e ∈ es, ∀ x ∈ cs.flatten, e.hash ≠ (x.k : Int)) →
      Goes p w n₀ ann c q (forIn rest (some bs.length, []) f) (sh s (hp bs (D (es ++ ents t cs.flatten) (n + 17 * cs.length)) (r ++ subs t cs) l) (t + 51 * cs.length)) res s' N →
      Goes p w n₀ ann c q (forIn ((cs.flatten).map (it env ps) ++ rest) (some bs.length, []) f) (sh s (hp bs (D es n) r l) t) res s' (cs.length * 330 + N)
  | [], es, r, n, t, _, _, _, _, _, _, h => by
    simp only [List.flatten_nil, List.map_nil, List.nil_append, ents, subs, List.append_nil, List.length_nil, Nat.mul_zero, Nat.add_zero, Nat.zero_mul, Nat.zero_add] at h ⊢
    exact h
  | y :: cs, es, r, n, t, h17, hr, hk, he, hlen, hn, h => by
    have hy : y.length = 17 := h17 y List.mem_cons_self
    rw [List.flatten_cons] at hr hk hn
    rw [List.length_cons] at hlen
    have hry : Rise y := (List.pairwise_append.mp hr).1
    have hky : ∀ x ∈ y, x.k < 2 ^ 61 - 1 := fun x hx => hk x (List.mem_append.mpr (.inl hx))
    have h1 := goes_flush2 (p := p) (w := w) (n₀ := n₀) (ann := ann) (c := c) (q := q) (pairs := y.map (pr env ps)) (fs := ents t y) (es := es) (bs := bs) (r := r) (l := l) (s := s) (n := n) (by cases y <;> first | cases hy | rfl) hb
      (sub_later (env := env) (ps := ps) hb (by omega) hry hky) (hsys _) he (by rw [ents_length]; omega) (fun f hf => ents_int hf) (ents_apart hry)
      (fun e hm f hm' => by
        obtain ⟨x, hx, e1⟩ := ents_hash hm'
        rw [e1]
        exact hn e hm x (List.mem_append.mpr (.inl hx)))
    rw [ents_length, hy] at h1
    have ih := goes_later hf hb hsys (cs := cs) (es := es ++ ents t y) (r := r ++ [D (ents t y) 17]) (n := n + 17) (t := t + 3 * 17) (fun z hz => h17 z (List.mem_cons_of_mem _ hz)) (List.pairwise_append.mp hr).2.1
      (fun x hx => hk x (List.mem_append.mpr (.inr hx))) (by simp [he]) (by rw [List.length_append, ents_length]; omega) (fun e hm x hx => by
        rcases List.mem_append.mp hm with hm | hm
        · exact hn e hm x (List.mem_append.mpr (.inr hx))
        · obtain ⟨z, hz, e1⟩ := ents_hash hm
          rw [e1]
          have := (List.pairwise_append.mp hr).2.2 z hz x hx
          omega)
      (by
        rw [List.flatten_cons, ents_app, hy, List.length_cons] at h
        rw [show subs t (y :: cs) = D (ents t y) 17 :: subs (t + 51) cs from rfl] at h
        rw [List.append_assoc, List.append_assoc, List.singleton_append, show n + 17 + 17 * cs.length = n + 17 * (cs.length + 1) by omega, show t + 3 * 17 + 51 * cs.length = t + 51 * (cs.length + 1) by omega]
        exact h)
    rw [List.flatten_cons, List.map_append, List.append_assoc, List.length_cons, show (cs.length + 1) * 330 + N = (1 + (1 + 17 * 13)) + (5 + 17 * 6) + (cs.length * 330 + N) by omega]
    exact goes_batch hf hy h1 ih
end
theorem goes_display {env : Env} {ps : Pos} {bs : List Obj} {l : Life} {s : Shared} {t : Nat} {x₀ z : List En} {cs : List (List En)} (hb : n₀ ≤ bs.length) (hsys : ∀ k : Nat, (bs.length + (k + 1) == sysModules) = false) (h0 : x₀.length = 17) (hz : 0 < z.length ∧ z.length ≤ 15) (h17 : ∀ y ∈ cs, y.length = 17) (hcs : cs.length < 500)
    (hr : Rise (x₀ ++ (cs.flatten ++ z))) (hk : ∀ x ∈ x₀ ++ (cs.flatten ++ z), x.k < 2 ^ 61 - 1) :
    Goes p w n₀ ann c q (dictDisplay ((x₀ ++ (cs.flatten ++ z)).map (it env ps))) (sh s ⟨bs.toArray, l⟩ t) (.ref bs.length)
      (sh s (hp bs (D (ents t x₀ ++ ents (t + 51) cs.flatten ++ entsS (t + 51 + 51 * cs.length) z) (17 + 17 * cs.length + z.length)) (subs (t + 51) cs ++ [D (entsS (t + 51 + 51 * cs.length) z) z.length]) l) (t + 51 + 51 * cs.length + 3 * z.length))
      (223 + (cs.length * 330 + 0) + (1 + z.length * 13 + (5 + z.length * 6) + 0)) := by
  have hr1 := (List.pairwise_append.mp hr)
  have hr2 := (List.pairwise_append.mp hr1.2.1)
  unfold dictDisplay
  dsimp only
  rw [List.map_append, List.map_append]
  refine goes_bind (a := (some bs.length, z.map (pr env ps))) (s₁ := sh s (hp bs (D (ents t x₀ ++ ents (t + 51) cs.flatten) (17 + 17 * cs.length)) ([] ++ subs (t + 51) cs) l) (t + 51 + 51 * cs.length)) ?_ ?_
  · have hF := goes_flush1 (p := p) (w := w) (n₀ := n₀) (ann := ann) (c := c) (q := q) (env := env) (ps := ps) (xs := x₀) (bs := bs) (l := l) (s := s) (t := t) hb (by omega) hr1.1 (fun x hx => hk x (List.mem_append.mpr (.inl hx)))
    rw [h0] at hF
    refine goes_batch (fun x s => rfl) h0 hF ?_
    refine goes_later (fun x s => rfl) hb hsys h17 hr2.1 (fun x hx => hk x (List.mem_append.mpr (.inr (List.mem_append.mpr (.inl hx))))) ?_ ?_ ?_ ?_
    · intro e
      have := congrArg List.length e
      rw [ents_length, h0] at this
      cases this
    · rw [ents_length, h0]; omega
    · intro e he x hx
      obtain ⟨y, hy, e1⟩ := ents_hash he
      rw [e1]
      have := hr1.2.2 y hy x (List.mem_append.mpr (.inl hx))
      omega
    · have e : z.map (it env ps) = z.map (it env ps) ++ [] := by simp
      rw [e]
      refine goes_gather (fun x s => rfl) (ys := z) (run := []) (by simp; omega) ?_
      rw [List.nil_append, List.forIn_nil]
      exact goes_pure
  · have hZ : z ≠ [] := by intro e; rw [e] at hz; simp at hz
    refine goes_bind (m := 0) (a := some bs.length) (s₁ := sh s (hp bs (D (ents t x₀ ++ ents (t + 51) cs.flatten ++ entsS (t + 51 + 51 * cs.length) z) (17 + 17 * cs.length + z.length)) (subs (t + 51) cs ++ [D (entsS (t + 51 + 51 * cs.length) z) z.length]) l) (t + 51 + 51 * cs.length + 3 * z.length)) ?_ goes_pure
    have h1 := goes_flush2 (p := p) (w := w) (n₀ := n₀) (ann := ann) (c := c) (q := q) (pairs := z.map (pr env ps)) (fs := entsS (t + 51 + 51 * cs.length) z) (es := ents t x₀ ++ ents (t + 51) cs.flatten) (bs := bs) (r := subs (t + 51) cs) (l := l) (s := s) (n := 17 + 17 * cs.length) (by cases z <;> first | exact absurd rfl hZ | rfl) hb
      (sub_last (env := env) (ps := ps) hb hz.2 hr2.2.1 (fun x hx => hk x (List.mem_append.mpr (.inr (List.mem_append.mpr (.inr hx)))))) (hsys _) (by
        intro e
        have := congrArg List.length e
        rw [List.length_append, ents_length, h0] at this
        simp at this) (by
        have : cs.flatten.length = 17 * cs.length := by
          clear hr hk hr1 hr2
          induction cs with
          | nil => rfl
          | cons y ys ih =>
            rw [List.flatten_cons, List.length_append, h17 y List.mem_cons_self, ih (fun z hz => h17 z (List.mem_cons_of_mem _ hz)) (by rw [List.length_cons] at hcs; omega), List.length_cons]; omega
        rw [List.length_append, ents_length, ents_length, entsS_length, this]; omega) (fun f hf => entsS_int hf) (entsS_apart hr2.2.1)
      (fun e hm f hm' => by
        obtain ⟨x, hx, e1⟩ := entsS_hash hm'
        rw [e1]
        rcases List.mem_append.mp hm with hm | hm
        · obtain ⟨y, hy, e2⟩ := ents_hash hm
          rw [e2]
          have := hr1.2.2 y hy x (List.mem_append.mpr (.inr hx))
          omega
        · obtain ⟨y, hy, e2⟩ := ents_hash hm
          rw [e2]
          have := hr2.2.2 y hy x hx
          omega)
    rw [entsS_length] at h1
    exact h1
end
end Mine
end
section
open PySem PySem.W PyProof.Rows
set_option maxRecDepth 1000000
namespace Mine
noncomputable section
noncomputable abbrev PG : Program := PySem.Challenge.rw_uy0009_02.row.toRowW.1
/-- the parts of the def at that place of the text -/
noncomputable def fnAt (i : Nat) : Arguments × List Stmt × Scope := match PG.main.body[i]? with
  | some (.FunctionDef _ a b _ _ _ s _ _ _) => (a, b, s)
  | _ => (⟨[], [], none, [], [], none, []⟩, [], PG.main.scope)
noncomputable def fA (i : Nat) : Arguments := (fnAt i).1
noncomputable def fB (i : Nat) : List Stmt := (fnAt i).2.1
noncomputable def fS (i : Nat) : Scope := (fnAt i).2.2
/-- the entries of the dict that is written at that place of the text -/
noncomputable def enOf : Option Expr → Expr → En
  | some (.Constant (.int k) _ p), .Constant (.str v) _ q => ⟨k.toNat, v, p, q⟩
  | _, _ => ⟨0, "", default, default⟩
noncomputable def enAll : List (Option Expr) → List Expr → List En
  | k :: ks, v :: vs => enOf k v :: enAll ks vs
  | _, _ => []
noncomputable def enAt (i : Nat) : List En := match PG.main.body[i]? with
  | some (.Assign _ (.Dict ks vs _) _) => enAll ks vs
  | _ => []
noncomputable def eX : List En := enAt 6
noncomputable def e0 : List En := (eX.drop 0).take 17
noncomputable def e1 : List En := (eX.drop 17).take 17
noncomputable def e2 : List En := (eX.drop 34).take 17
noncomputable def e3 : List En := (eX.drop 51).take 17
noncomputable def e4 : List En := (eX.drop 68).take 17
noncomputable def e5 : List En := (eX.drop 85).take 17
noncomputable def e6 : List En := (eX.drop 102).take 17
noncomputable def e7 : List En := (eX.drop 119).take 17
noncomputable def e8 : List En := (eX.drop 136).take 17
noncomputable def e9 : List En := (eX.drop 153).take 17
noncomputable def e10 : List En := (eX.drop 170).take 17
noncomputable def e11 : List En := (eX.drop 187).take 17
noncomputable def e12 : List En := (eX.drop 204).take 17
noncomputable def e13 : List En := (eX.drop 221).take 17
noncomputable def e14 : List En := (eX.drop 238).take 17
noncomputable def e15 : List En := (eX.drop 255).take 17
noncomputable def e16 : List En := (eX.drop 272).take 17
noncomputable def e17 : List En := (eX.drop 289).take 17
noncomputable def e18 : List En := (eX.drop 306).take 17
noncomputable def e19 : List En := (eX.drop 323).take 17
noncomputable def e20 : List En := (eX.drop 340).take 17
noncomputable def e21 : List En := (eX.drop 357).take 17
noncomputable def e22 : List En := (eX.drop 374).take 17
noncomputable def e23 : List En := (eX.drop 391).take 17
noncomputable def e24 : List En := (eX.drop 408).take 17
noncomputable def e25 : List En := (eX.drop 425).take 17
noncomputable def e26 : List En := (eX.drop 442).take 17
noncomputable def e27 : List En := (eX.drop 459).take 17
noncomputable def e28 : List En := (eX.drop 476).take 17
noncomputable def e29 : List En := (eX.drop 493).take 17
noncomputable def e30 : List En := (eX.drop 510).take 17
noncomputable def e31 : List En := (eX.drop 527).take 17
noncomputable def e32 : List En := (eX.drop 544).take 17
noncomputable def e33 : List En := (eX.drop 561).take 17
noncomputable def e34 : List En := (eX.drop 578).take 17
noncomputable def e35 : List En := (eX.drop 595).take 17
noncomputable def e36 : List En := (eX.drop 612).take 17
noncomputable def e37 : List En := (eX.drop 629).take 17
noncomputable def e38 : List En := (eX.drop 646).take 17
noncomputable def eM : List (List En) := [e1, e2, e3, e4, e5, e6, e7, e8, e9, e10, e11, e12, e13, e14, e15, e16, e17, e18, e19, e20, e21, e22, e23, e24, e25, e26, e27, e28, e29, e30, e31, e32, e33, e34, e35, e36, e37]
noncomputable def eAll : List En := e0 ++ (eM.flatten ++ e38)
noncomputable def o11 (P : Params) : Obj := Obj.mk (Value.type "tuple") none (Data.seq #[]) #[]
noncomputable def o13 (P : Params) : Obj := Obj.mk (Value.type "code") none (Data.fields #[Value.str (Str.ofString "<module>") 182, Value.str (Str.ofString "<module>") 183, Value.str (Str.ofString "/claim/cut.py") 184, Value.int 1 0, Value.int 0 0, Value.int 0 0, Value.int 0 0, Value.int 0 0, Value.ref 11, Value.bool Bool.false, Value.int 181 0, Value.ref 12, Value.none, Value.none, Value.none, Value.none, Value.int 185 0, Value.int 1 0, Value.str (Str.ofString "/claim/cut.py") 186]) #[]
noncomputable def o14 (P : Params) : Obj := Obj.mk (Value.type "frame") none Data.plain #[some (Value.ref 13), some (Value.ref 3), some (Value.ref 3), none, some (Value.str (Str.ofString "__main__") 164), none, some (Value.ref 0)]
noncomputable def o15 (P : Params) : Obj := Obj.mk (Value.type "tuple") none (Data.seq #[]) #[]
noncomputable def o16 (P : Params) : Obj := Obj.mk Value.none none (Data.fields #[]) #[]
noncomputable def o17 (P : Params) : Obj := Obj.mk (Value.type "tuple") none (Data.seq #[Value.str (Str.ofString "num") 192, Value.str (Str.ofString "val") 193, Value.str (Str.ofString "AP") 194, Value.str (Str.ofString "mod") 195]) #[]
noncomputable def o18 (P : Params) : Obj := Obj.mk (Value.type "tuple") none (Data.seq #[]) #[]
noncomputable def o19 (P : Params) : Obj := Obj.mk Value.none none (Data.func (FuncData.mk (Str.ofString "Int2AP") (Str.ofString "Int2AP") (fA 1) (FuncBody.stmts (fB 1)) (fS 1) 0 [] Value.none Value.none Value.none Value.none none Value.none Value.none 0)) #[]
noncomputable def o20 (P : Params) : Obj := Obj.mk (Value.type "code") none (Data.fields #[Value.str (Str.ofString "Int2AP") 189, Value.str (Str.ofString "Int2AP") 190, Value.str (Str.ofString "/claim/cut.py") 191, Value.int 2 0, Value.int 1 0, Value.int 0 0, Value.int 0 0, Value.int 3 0, Value.ref 15, Value.bool Bool.true, Value.int 181 0, Value.ref 16, Value.none, Value.ref 17, Value.ref 18, Value.ref 19, Value.int 196 0, Value.int 2 0, Value.str (Str.ofString "/claim/cut.py") 197]) #[]
noncomputable def o21 (P : Params) : Obj := Obj.mk (Value.type "function") none (Data.func (FuncData.mk (Str.ofString "Int2AP") (Str.ofString "Int2AP") (fA 1) (FuncBody.stmts (fB 1)) (fS 1) 3 [] Value.none Value.none Value.none (Value.str (Str.ofString "cpy313.imaplib") 187) none (Value.ref 20) Value.none 0)) #[]
noncomputable def o22 (P : Params) : Obj := Obj.mk (Value.type "tuple") none (Data.seq #[]) #[]
noncomputable def o23 (P : Params) : Obj := Obj.mk Value.none none (Data.fields #[]) #[]
noncomputable def o24 (P : Params) : Obj := Obj.mk (Value.type "tuple") none (Data.seq #[Value.str (Str.ofString "want") 206, Value.str (Str.ofString "got") 207, Value.str (Str.ofString "ws") 208, Value.str (Str.ofString "startpos") 209, Value.str (Str.ofString "endpos") 210, Value.str (Str.ofString "w") 211]) #[]
noncomputable def o25 (P : Params) : Obj := Obj.mk (Value.type "tuple") none (Data.seq #[]) #[]
noncomputable def o26 (P : Params) : Obj := Obj.mk Value.none none (Data.func (FuncData.mk (Str.ofString "_ellipsis_match") (Str.ofString "_ellipsis_match") (fA 4) (FuncBody.stmts (fB 4)) (fS 4) 0 [] Value.none Value.none Value.none Value.none none Value.none Value.none 0)) #[]
noncomputable def o27 (P : Params) : Obj := Obj.mk (Value.type "code") none (Data.fields #[Value.str (Str.ofString "_ellipsis_match") 203, Value.str (Str.ofString "_ellipsis_match") 204, Value.str (Str.ofString "/claim/cut.py") 205, Value.int 12 0, Value.int 2 0, Value.int 0 0, Value.int 0 0, Value.int 3 0, Value.ref 22, Value.bool Bool.true, Value.int 181 0, Value.ref 23, Value.none, Value.ref 24, Value.ref 25, Value.ref 26, Value.int 212 0, Value.int 12 0, Value.str (Str.ofString "/claim/cut.py") 213]) #[]
noncomputable def o28 (P : Params) : Obj := Obj.mk (Value.type "function") none (Data.func (FuncData.mk (Str.ofString "_ellipsis_match") (Str.ofString "_ellipsis_match") (fA 4) (FuncBody.stmts (fB 4)) (fS 4) 3 [] Value.none Value.none Value.none (Value.str (Str.ofString "cpy313.doctest") 199) none (Value.ref 27) Value.none 0)) #[]
noncomputable def o68 (P : Params) : Obj := Obj.mk (Value.type "tuple") none (Data.seq #[]) #[]
noncomputable def o69 (P : Params) : Obj := Obj.mk Value.none none (Data.fields #[]) #[]
noncomputable def o70 (P : Params) : Obj := Obj.mk (Value.type "tuple") none (Data.seq #[Value.str (Str.ofString "code") 2171, Value.str (Str.ofString "r") 2172]) #[]
noncomputable def o71 (P : Params) : Obj := Obj.mk (Value.type "tuple") none (Data.seq #[]) #[]
noncomputable def o72 (P : Params) : Obj := Obj.mk Value.none none (Data.func (FuncData.mk (Str.ofString "map_table_b3") (Str.ofString "map_table_b3") (fA 7) (FuncBody.stmts (fB 7)) (fS 7) 0 [] Value.none Value.none Value.none Value.none none Value.none Value.none 0)) #[]
noncomputable def o73 (P : Params) : Obj := Obj.mk (Value.type "code") none (Data.fields #[Value.str (Str.ofString "map_table_b3") 2168, Value.str (Str.ofString "map_table_b3") 2169, Value.str (Str.ofString "/claim/cut.py") 2170, Value.int 42 0, Value.int 1 0, Value.int 0 0, Value.int 0 0, Value.int 3 0, Value.ref 68, Value.bool Bool.true, Value.int 181 0, Value.ref 69, Value.none, Value.ref 70, Value.ref 71, Value.ref 72, Value.int 2173 0, Value.int 42 0, Value.str (Str.ofString "/claim/cut.py") 2174]) #[]
noncomputable def o74 (P : Params) : Obj := Obj.mk (Value.type "function") none (Data.func (FuncData.mk (Str.ofString "map_table_b3") (Str.ofString "map_table_b3") (fA 7) (FuncBody.stmts (fB 7)) (fS 7) 3 [] Value.none Value.none Value.none (Value.str (Str.ofString "cpy313.stringprep") 215) none (Value.ref 73) Value.none 0)) #[]
noncomputable def o75 (P : Params) : Obj := Obj.mk (Value.type "tuple") none (Data.seq #[]) #[]
noncomputable def o76 (P : Params) : Obj := Obj.mk Value.none none (Data.fields #[]) #[]
noncomputable def o77 (P : Params) : Obj := Obj.mk (Value.type "tuple") none (Data.seq #[Value.str (Str.ofString "kind") 2181, Value.str (Str.ofString "table") 2182, Value.str (Str.ofString "at") 2183, Value.str (Str.ofString "capitals") 2184, Value.str (Str.ofString "alone") 2185]) #[]
noncomputable def o78 (P : Params) : Obj := Obj.mk (Value.type "tuple") none (Data.seq #[]) #[]
noncomputable def o79 (P : Params) : Obj := Obj.mk Value.none none (Data.func (FuncData.mk (Str.ofString "_law_sign") (Str.ofString "_law_sign") (fA 9) (FuncBody.stmts (fB 9)) (fS 9) 0 [] Value.none Value.none Value.none Value.none none Value.none Value.none 0)) #[]
noncomputable def o80 (P : Params) : Obj := Obj.mk (Value.type "code") none (Data.fields #[Value.str (Str.ofString "_law_sign") 2178, Value.str (Str.ofString "_law_sign") 2179, Value.str (Str.ofString "/claim/cut.py") 2180, Value.int 48 0, Value.int 1 0, Value.int 0 0, Value.int 0 0, Value.int 3 0, Value.ref 75, Value.bool Bool.true, Value.int 181 0, Value.ref 76, Value.none, Value.ref 77, Value.ref 78, Value.ref 79, Value.int 2186 0, Value.int 48 0, Value.str (Str.ofString "/claim/cut.py") 2187]) #[]
noncomputable def o81 (P : Params) : Obj := Obj.mk (Value.type "function") none (Data.func (FuncData.mk (Str.ofString "_law_sign") (Str.ofString "_law_sign") (fA 9) (FuncBody.stmts (fB 9)) (fS 9) 3 [] Value.none Value.none Value.none (Value.str (Str.ofString "law_uy0009_02") 2176) none (Value.ref 80) Value.none 0)) #[]
noncomputable def o82 (P : Params) : Obj := Obj.mk (Value.type "tuple") none (Data.seq #[]) #[]
noncomputable def o83 (P : Params) : Obj := Obj.mk Value.none none (Data.fields #[]) #[]
noncomputable def o84 (P : Params) : Obj := Obj.mk (Value.type "tuple") none (Data.seq #[Value.str (Str.ofString "number") 2192, Value.str (Str.ofString "root") 2193, Value.str (Str.ofString "step") 2194]) #[]
noncomputable def o85 (P : Params) : Obj := Obj.mk (Value.type "tuple") none (Data.seq #[]) #[]
noncomputable def o86 (P : Params) : Obj := Obj.mk Value.none none (Data.func (FuncData.mk (Str.ofString "_law_root") (Str.ofString "_law_root") (fA 10) (FuncBody.stmts (fB 10)) (fS 10) 0 [] Value.none Value.none Value.none Value.none none Value.none Value.none 0)) #[]
noncomputable def o87 (P : Params) : Obj := Obj.mk (Value.type "code") none (Data.fields #[Value.str (Str.ofString "_law_root") 2189, Value.str (Str.ofString "_law_root") 2190, Value.str (Str.ofString "/claim/cut.py") 2191, Value.int 59 0, Value.int 1 0, Value.int 0 0, Value.int 0 0, Value.int 3 0, Value.ref 82, Value.bool Bool.true, Value.int 181 0, Value.ref 83, Value.none, Value.ref 84, Value.ref 85, Value.ref 86, Value.int 2195 0, Value.int 59 0, Value.str (Str.ofString "/claim/cut.py") 2196]) #[]
noncomputable def o88 (P : Params) : Obj := Obj.mk (Value.type "function") none (Data.func (FuncData.mk (Str.ofString "_law_root") (Str.ofString "_law_root") (fA 10) (FuncBody.stmts (fB 10)) (fS 10) 3 [] Value.none Value.none Value.none (Value.str (Str.ofString "law_uy0009_02") 2176) none (Value.ref 87) Value.none 0)) #[]
noncomputable def o89 (P : Params) : Obj := Obj.mk (Value.type "tuple") none (Data.seq #[]) #[]
noncomputable def o90 (P : Params) : Obj := Obj.mk Value.none none (Data.fields #[]) #[]
noncomputable def o91 (P : Params) : Obj := Obj.mk (Value.type "tuple") none (Data.seq #[Value.str (Str.ofString "rank") 2201, Value.str (Str.ofString "t") 2202, Value.str (Str.ofString "lesser") 2203]) #[]
noncomputable def o92 (P : Params) : Obj := Obj.mk (Value.type "tuple") none (Data.seq #[]) #[]
noncomputable def o93 (P : Params) : Obj := Obj.mk Value.none none (Data.func (FuncData.mk (Str.ofString "_law_position") (Str.ofString "_law_position") (fA 11) (FuncBody.stmts (fB 11)) (fS 11) 0 [] Value.none Value.none Value.none Value.none none Value.none Value.none 0)) #[]
noncomputable def o94 (P : Params) : Obj := Obj.mk (Value.type "code") none (Data.fields #[Value.str (Str.ofString "_law_position") 2198, Value.str (Str.ofString "_law_position") 2199, Value.str (Str.ofString "/claim/cut.py") 2200, Value.int 66 0, Value.int 2 0, Value.int 0 0, Value.int 0 0, Value.int 3 0, Value.ref 89, Value.bool Bool.true, Value.int 181 0, Value.ref 90, Value.none, Value.ref 91, Value.ref 92, Value.ref 93, Value.int 2204 0, Value.int 66 0, Value.str (Str.ofString "/claim/cut.py") 2205]) #[]
noncomputable def o95 (P : Params) : Obj := Obj.mk (Value.type "function") none (Data.func (FuncData.mk (Str.ofString "_law_position") (Str.ofString "_law_position") (fA 11) (FuncBody.stmts (fB 11)) (fS 11) 3 [] Value.none Value.none Value.none (Value.str (Str.ofString "law_uy0009_02") 2176) none (Value.ref 94) Value.none 0)) #[]
noncomputable def o96 (P : Params) : Obj := Obj.mk (Value.type "tuple") none (Data.seq #[]) #[]
noncomputable def o97 (P : Params) : Obj := Obj.mk Value.none none (Data.fields #[]) #[]
noncomputable def o98 (P : Params) : Obj := Obj.mk Value.none none (Data.func (FuncData.mk (Str.ofString "_law_word") (Str.ofString "_law_word") (fA 12) (FuncBody.stmts (fB 12)) (Scope.mk ScopeKind.function [(Str.ofString "number", NameKind.local), (Str.ofString "weights", NameKind.local), (Str.ofString "shift", NameKind.local), (Str.ofString "packed", NameKind.local), (Str.ofString "weight", NameKind.local), (Str.ofString "Int2AP", NameKind.globalImplicit)] Bool.false Bool.false [(Str.ofString "fast", Const.str (Str.ofString "number")), (Str.ofString "fast", Const.str (Str.ofString "weights")), (Str.ofString "fast", Const.str (Str.ofString "shift")), (Str.ofString "fast", Const.str (Str.ofString "packed")), (Str.ofString "fast", Const.str (Str.ofString "weight")), (Str.ofString "fast", Const.str (Str.ofString "octet"))]) 0 [] Value.none Value.none Value.none Value.none none Value.none Value.none 0)) #[]
noncomputable def o99 (P : Params) : Obj := Obj.mk (Value.type "code") none (Data.fields #[Value.str (Str.ofString "_law_word") 2207, Value.str (Str.ofString "_law_word") 2208, Value.str (Str.ofString "/claim/cut.py") 2209, Value.int 69 0, Value.int 3 0, Value.int 0 0, Value.int 0 0, Value.int 3 0, Value.ref 96, Value.bool Bool.true, Value.int 181 0, Value.ref 97, Value.none, Value.none, Value.none, Value.ref 98, Value.int 2210 0, Value.int 69 0, Value.str (Str.ofString "/claim/cut.py") 2211]) #[]
noncomputable def o100 (P : Params) : Obj := Obj.mk (Value.type "function") none (Data.func (FuncData.mk (Str.ofString "_law_word") (Str.ofString "_law_word") (fA 12) (FuncBody.stmts (fB 12)) (Scope.mk ScopeKind.function [(Str.ofString "number", NameKind.local), (Str.ofString "weights", NameKind.local), (Str.ofString "shift", NameKind.local), (Str.ofString "packed", NameKind.local), (Str.ofString "weight", NameKind.local), (Str.ofString "Int2AP", NameKind.globalImplicit)] Bool.false Bool.false [(Str.ofString "fast", Const.str (Str.ofString "number")), (Str.ofString "fast", Const.str (Str.ofString "weights")), (Str.ofString "fast", Const.str (Str.ofString "shift")), (Str.ofString "fast", Const.str (Str.ofString "packed")), (Str.ofString "fast", Const.str (Str.ofString "weight")), (Str.ofString "fast", Const.str (Str.ofString "octet"))]) 3 [] Value.none Value.none Value.none (Value.str (Str.ofString "law_uy0009_02") 2176) none (Value.ref 99) Value.none 0)) #[]
noncomputable def o101 (P : Params) : Obj := Obj.mk (Value.type "tuple") none (Data.seq #[]) #[]
noncomputable def o102 (P : Params) : Obj := Obj.mk Value.none none (Data.fields #[]) #[]
noncomputable def o103 (P : Params) : Obj := Obj.mk Value.none none (Data.func (FuncData.mk (Str.ofString "_law_lost") (Str.ofString "_law_lost") (fA 13) (FuncBody.stmts (fB 13)) (Scope.mk ScopeKind.function [(Str.ofString "heaps", NameKind.local), (Str.ofString "t", NameKind.cell), (Str.ofString "weights", NameKind.local), (Str.ofString "shift", NameKind.cell), (Str.ofString "letters", NameKind.local), (Str.ofString "signs", NameKind.local), (Str.ofString "lesser", NameKind.local), (Str.ofString "greater", NameKind.local), (Str.ofString "word", NameKind.cell), (Str.ofString "letter", NameKind.local), (Str.ofString "nought", NameKind.cell), (Str.ofString "ends", NameKind.local), (Str.ofString "figure", NameKind.local), (Str.ofString "sorted", NameKind.globalImplicit), (Str.ofString "_law_word", NameKind.globalImplicit), (Str.ofString "chr", NameKind.globalImplicit), (Str.ofString "range", NameKind.globalImplicit), (Str.ofString "len", NameKind.globalImplicit), (Str.ofString "map_table_b3", NameKind.globalImplicit), (Str.ofString "ord", NameKind.globalImplicit), (Str.ofString "_ellipsis_match", NameKind.globalImplicit)] Bool.false Bool.false [(Str.ofString "fast", Const.str (Str.ofString "heaps")), (Str.ofString "fast", Const.str (Str.ofString "t")), (Str.ofString "fast", Const.str (Str.ofString "weights")), (Str.ofString "fast", Const.str (Str.ofString "shift")), (Str.ofString "fast", Const.str (Str.ofString "letters")), (Str.ofString "fast", Const.str (Str.ofString "signs")), (Str.ofString "fast", Const.str (Str.ofString "lesser")), (Str.ofString "fast", Const.str (Str.ofString "greater")), (Str.ofString "fast", Const.str (Str.ofString "word")), (Str.ofString "fast", Const.str (Str.ofString "letter")), (Str.ofString "fast", Const.str (Str.ofString "nought")), (Str.ofString "fast", Const.str (Str.ofString "size")), (Str.ofString "fast", Const.str (Str.ofString "top")), (Str.ofString "fast", Const.str (Str.ofString "ends")), (Str.ofString "fast", Const.str (Str.ofString "figure"))]) 0 [] Value.none Value.none Value.none Value.none none Value.none Value.none 0)) #[]
noncomputable def o104 (P : Params) : Obj := Obj.mk (Value.type "code") none (Data.fields #[Value.str (Str.ofString "_law_lost") 2213, Value.str (Str.ofString "_law_lost") 2214, Value.str (Str.ofString "/claim/cut.py") 2215, Value.int 75 0, Value.int 6 0, Value.int 0 0, Value.int 0 0, Value.int 3 0, Value.ref 101, Value.bool Bool.true, Value.int 181 0, Value.ref 102, Value.none, Value.none, Value.none, Value.ref 103, Value.int 2216 0, Value.int 75 0, Value.str (Str.ofString "/claim/cut.py") 2217]) #[]
noncomputable def o105 (P : Params) : Obj := Obj.mk (Value.type "function") none (Data.func (FuncData.mk (Str.ofString "_law_lost") (Str.ofString "_law_lost") (fA 13) (FuncBody.stmts (fB 13)) (Scope.mk ScopeKind.function [(Str.ofString "heaps", NameKind.local), (Str.ofString "t", NameKind.cell), (Str.ofString "weights", NameKind.local), (Str.ofString "shift", NameKind.cell), (Str.ofString "letters", NameKind.local), (Str.ofString "signs", NameKind.local), (Str.ofString "lesser", NameKind.local), (Str.ofString "greater", NameKind.local), (Str.ofString "word", NameKind.cell), (Str.ofString "letter", NameKind.local), (Str.ofString "nought", NameKind.cell), (Str.ofString "ends", NameKind.local), (Str.ofString "figure", NameKind.local), (Str.ofString "sorted", NameKind.globalImplicit), (Str.ofString "_law_word", NameKind.globalImplicit), (Str.ofString "chr", NameKind.globalImplicit), (Str.ofString "range", NameKind.globalImplicit), (Str.ofString "len", NameKind.globalImplicit), (Str.ofString "map_table_b3", NameKind.globalImplicit), (Str.ofString "ord", NameKind.globalImplicit), (Str.ofString "_ellipsis_match", NameKind.globalImplicit)] Bool.false Bool.false [(Str.ofString "fast", Const.str (Str.ofString "heaps")), (Str.ofString "fast", Const.str (Str.ofString "t")), (Str.ofString "fast", Const.str (Str.ofString "weights")), (Str.ofString "fast", Const.str (Str.ofString "shift")), (Str.ofString "fast", Const.str (Str.ofString "letters")), (Str.ofString "fast", Const.str (Str.ofString "signs")), (Str.ofString "fast", Const.str (Str.ofString "lesser")), (Str.ofString "fast", Const.str (Str.ofString "greater")), (Str.ofString "fast", Const.str (Str.ofString "word")), (Str.ofString "fast", Const.str (Str.ofString "letter")), (Str.ofString "fast", Const.str (Str.ofString "nought")), (Str.ofString "fast", Const.str (Str.ofString "size")), (Str.ofString "fast", Const.str (Str.ofString "top")), (Str.ofString "fast", Const.str (Str.ofString "ends")), (Str.ofString "fast", Const.str (Str.ofString "figure"))]) 3 [] Value.none Value.none Value.none (Value.str (Str.ofString "law_uy0009_02") 2176) none (Value.ref 104) Value.none 0)) #[]
noncomputable def o106 (P : Params) : Obj := Obj.mk (Value.type "tuple") none (Data.seq #[]) #[]
noncomputable def o107 (P : Params) : Obj := Obj.mk Value.none none (Data.fields #[]) #[]
noncomputable def o108 (P : Params) : Obj := Obj.mk (Value.type "tuple") none (Data.seq #[Value.str (Str.ofString "lesser") 2222, Value.str (Str.ofString "greater") 2223, Value.str (Str.ofString "deed") 2224, Value.str (Str.ofString "t") 2225, Value.str (Str.ofString "off") 2226, Value.str (Str.ofString "other") 2227]) #[]
noncomputable def o109 (P : Params) : Obj := Obj.mk (Value.type "tuple") none (Data.seq #[]) #[]
noncomputable def o110 (P : Params) : Obj := Obj.mk Value.none none (Data.func (FuncData.mk (Str.ofString "_law_moved") (Str.ofString "_law_moved") (fA 14) (FuncBody.stmts (fB 14)) (fS 14) 0 [] Value.none Value.none Value.none Value.none none Value.none Value.none 0)) #[]
noncomputable def o111 (P : Params) : Obj := Obj.mk (Value.type "code") none (Data.fields #[Value.str (Str.ofString "_law_moved") 2219, Value.str (Str.ofString "_law_moved") 2220, Value.str (Str.ofString "/claim/cut.py") 2221, Value.int 86 0, Value.int 4 0, Value.int 0 0, Value.int 0 0, Value.int 3 0, Value.ref 106, Value.bool Bool.true, Value.int 181 0, Value.ref 107, Value.none, Value.ref 108, Value.ref 109, Value.ref 110, Value.int 2228 0, Value.int 86 0, Value.str (Str.ofString "/claim/cut.py") 2229]) #[]
noncomputable def o112 (P : Params) : Obj := Obj.mk (Value.type "function") none (Data.func (FuncData.mk (Str.ofString "_law_moved") (Str.ofString "_law_moved") (fA 14) (FuncBody.stmts (fB 14)) (fS 14) 3 [] Value.none Value.none Value.none (Value.str (Str.ofString "law_uy0009_02") 2176) none (Value.ref 111) Value.none 0)) #[]
noncomputable def o113 (P : Params) : Obj := Obj.mk (Value.type "tuple") none (Data.seq #[]) #[]
noncomputable def o114 (P : Params) : Obj := Obj.mk Value.none none (Data.fields #[]) #[]
noncomputable def o115 (P : Params) : Obj := Obj.mk (Value.type "tuple") none (Data.seq #[Value.str (Str.ofString "lesser") 2234, Value.str (Str.ofString "greater") 2235, Value.str (Str.ofString "t") 2236, Value.str (Str.ofString "rank") 2237, Value.str (Str.ofString "mate") 2238]) #[]
noncomputable def o116 (P : Params) : Obj := Obj.mk (Value.type "tuple") none (Data.seq #[]) #[]
noncomputable def o117 (P : Params) : Obj := Obj.mk Value.none none (Data.func (FuncData.mk (Str.ofString "_law_answer") (Str.ofString "_law_answer") (fA 15) (FuncBody.stmts (fB 15)) (fS 15) 0 [] Value.none Value.none Value.none Value.none none Value.none Value.none 0)) #[]
noncomputable def o118 (P : Params) : Obj := Obj.mk (Value.type "code") none (Data.fields #[Value.str (Str.ofString "_law_answer") 2231, Value.str (Str.ofString "_law_answer") 2232, Value.str (Str.ofString "/claim/cut.py") 2233, Value.int 94 0, Value.int 3 0, Value.int 0 0, Value.int 0 0, Value.int 3 0, Value.ref 113, Value.bool Bool.true, Value.int 181 0, Value.ref 114, Value.none, Value.ref 115, Value.ref 116, Value.ref 117, Value.int 2239 0, Value.int 94 0, Value.str (Str.ofString "/claim/cut.py") 2240]) #[]
noncomputable def o119 (P : Params) : Obj := Obj.mk (Value.type "function") none (Data.func (FuncData.mk (Str.ofString "_law_answer") (Str.ofString "_law_answer") (fA 15) (FuncBody.stmts (fB 15)) (fS 15) 3 [] Value.none Value.none Value.none (Value.str (Str.ofString "law_uy0009_02") 2176) none (Value.ref 118) Value.none 0)) #[]
noncomputable def o120 (P : Params) : Obj := Obj.mk (Value.type "tuple") none (Data.seq #[]) #[]
noncomputable def o121 (P : Params) : Obj := Obj.mk Value.none none (Data.fields #[]) #[]
noncomputable def o122 (P : Params) : Obj := Obj.mk Value.none none (Data.func (FuncData.mk (Str.ofString "law") (Str.ofString "law") (fA 16) (FuncBody.stmts (fB 16)) (Scope.mk ScopeKind.function [(Str.ofString "script", NameKind.cell), (Str.ofString "kind", NameKind.local), (Str.ofString "rank", NameKind.local), (Str.ofString "deed", NameKind.local), (Str.ofString "one", NameKind.local), (Str.ofString "other", NameKind.local), (Str.ofString "t", NameKind.local), (Str.ofString "shift", NameKind.local), (Str.ofString "letters", NameKind.local), (Str.ofString "signs", NameKind.local), (Str.ofString "weights", NameKind.local), (Str.ofString "drawn", NameKind.local), (Str.ofString "heaps", NameKind.local), (Str.ofString "lost", NameKind.local), (Str.ofString "after", NameKind.local), (Str.ofString "enumerate", NameKind.globalImplicit), (Str.ofString "_law_sign", NameKind.globalImplicit), (Str.ofString "_law_position", NameKind.globalImplicit), (Str.ofString "sorted", NameKind.globalImplicit), (Str.ofString "_law_lost", NameKind.globalImplicit), (Str.ofString "_law_moved", NameKind.globalImplicit), (Str.ofString "_law_answer", NameKind.globalImplicit)] Bool.false Bool.false [(Str.ofString "fast", Const.str (Str.ofString "script")), (Str.ofString "fast", Const.str (Str.ofString "place")), (Str.ofString "fast", Const.str (Str.ofString "first")), (Str.ofString "fast", Const.str (Str.ofString "at")), (Str.ofString "fast", Const.str (Str.ofString "x")), (Str.ofString "fast", Const.str (Str.ofString "kind")), (Str.ofString "fast", Const.str (Str.ofString "rank")), (Str.ofString "fast", Const.str (Str.ofString "deed")), (Str.ofString "fast", Const.str (Str.ofString "one")), (Str.ofString "fast", Const.str (Str.ofString "other")), (Str.ofString "fast", Const.str (Str.ofString "t")), (Str.ofString "fast", Const.str (Str.ofString "shift")), (Str.ofString "fast", Const.str (Str.ofString "letters")), (Str.ofString "fast", Const.str (Str.ofString "signs")), (Str.ofString "fast", Const.str (Str.ofString "weights")), (Str.ofString "fast", Const.str (Str.ofString "drawn")), (Str.ofString "fast", Const.str (Str.ofString "heaps")), (Str.ofString "fast", Const.str (Str.ofString "lost")), (Str.ofString "fast", Const.str (Str.ofString "after"))]) 0 [] Value.none Value.none Value.none Value.none none Value.none Value.none 0)) #[]
noncomputable def o123 (P : Params) : Obj := Obj.mk (Value.type "code") none (Data.fields #[Value.str (Str.ofString "law") 2242, Value.str (Str.ofString "law") 2243, Value.str (Str.ofString "/claim/cut.py") 2244, Value.int 102 0, Value.int 1 0, Value.int 0 0, Value.int 0 0, Value.int 3 0, Value.ref 120, Value.bool Bool.true, Value.int 181 0, Value.ref 121, Value.none, Value.none, Value.none, Value.ref 122, Value.int 2245 0, Value.int 102 0, Value.str (Str.ofString "/claim/cut.py") 2246]) #[]
noncomputable def o124 (P : Params) : Obj := Obj.mk (Value.type "function") none (Data.func (FuncData.mk (Str.ofString "law") (Str.ofString "law") (fA 16) (FuncBody.stmts (fB 16)) (Scope.mk ScopeKind.function [(Str.ofString "script", NameKind.cell), (Str.ofString "kind", NameKind.local), (Str.ofString "rank", NameKind.local), (Str.ofString "deed", NameKind.local), (Str.ofString "one", NameKind.local), (Str.ofString "other", NameKind.local), (Str.ofString "t", NameKind.local), (Str.ofString "shift", NameKind.local), (Str.ofString "letters", NameKind.local), (Str.ofString "signs", NameKind.local), (Str.ofString "weights", NameKind.local), (Str.ofString "drawn", NameKind.local), (Str.ofString "heaps", NameKind.local), (Str.ofString "lost", NameKind.local), (Str.ofString "after", NameKind.local), (Str.ofString "enumerate", NameKind.globalImplicit), (Str.ofString "_law_sign", NameKind.globalImplicit), (Str.ofString "_law_position", NameKind.globalImplicit), (Str.ofString "sorted", NameKind.globalImplicit), (Str.ofString "_law_lost", NameKind.globalImplicit), (Str.ofString "_law_moved", NameKind.globalImplicit), (Str.ofString "_law_answer", NameKind.globalImplicit)] Bool.false Bool.false [(Str.ofString "fast", Const.str (Str.ofString "script")), (Str.ofString "fast", Const.str (Str.ofString "place")), (Str.ofString "fast", Const.str (Str.ofString "first")), (Str.ofString "fast", Const.str (Str.ofString "at")), (Str.ofString "fast", Const.str (Str.ofString "x")), (Str.ofString "fast", Const.str (Str.ofString "kind")), (Str.ofString "fast", Const.str (Str.ofString "rank")), (Str.ofString "fast", Const.str (Str.ofString "deed")), (Str.ofString "fast", Const.str (Str.ofString "one")), (Str.ofString "fast", Const.str (Str.ofString "other")), (Str.ofString "fast", Const.str (Str.ofString "t")), (Str.ofString "fast", Const.str (Str.ofString "shift")), (Str.ofString "fast", Const.str (Str.ofString "letters")), (Str.ofString "fast", Const.str (Str.ofString "signs")), (Str.ofString "fast", Const.str (Str.ofString "weights")), (Str.ofString "fast", Const.str (Str.ofString "drawn")), (Str.ofString "fast", Const.str (Str.ofString "heaps")), (Str.ofString "fast", Const.str (Str.ofString "lost")), (Str.ofString "fast", Const.str (Str.ofString "after"))]) 3 [] Value.none Value.none Value.none (Value.str (Str.ofString "law_uy0009_02") 2176) none (Value.ref 123) Value.none 0)) #[]
noncomputable def o3a (P : Params) : Obj := Obj.mk (Value.type "dict") none (Data.dict #[DictEntry.mk (PyData.keyHash P (Str.ofString "__name__")) (Value.str (Str.ofString "__name__") 165) (Value.str (Str.ofString "__main__") 164), DictEntry.mk (PyData.keyHash P (Str.ofString "__doc__")) (Value.str (Str.ofString "__doc__") 166) Value.none, DictEntry.mk (PyData.keyHash P (Str.ofString "__package__")) (Value.str (Str.ofString "__package__") 167) Value.none, DictEntry.mk (PyData.keyHash P (Str.ofString "__loader__")) (Value.str (Str.ofString "__loader__") 168) (Value.builtin "__main__.__loader__#opaque"), DictEntry.mk (PyData.keyHash P (Str.ofString "__spec__")) (Value.str (Str.ofString "__spec__") 169) Value.none, DictEntry.mk (PyData.keyHash P (Str.ofString "__annotations__")) (Value.str (Str.ofString "__annotations__") 170) (Value.ref 6), DictEntry.mk (PyData.keyHash P (Str.ofString "__builtins__")) (Value.str (Str.ofString "__builtins__") 171) (Value.ref 4), DictEntry.mk (PyData.keyHash P (Str.ofString "__file__")) (Value.str (Str.ofString "__file__") 173) (Value.str (Str.ofString "/claim/cut.py") 172), DictEntry.mk (PyData.keyHash P (Str.ofString "__cached__")) (Value.str (Str.ofString "__cached__") 174) Value.none] 9) #[]
noncomputable def o12a (P : Params) : Obj := Obj.mk Value.none none (Data.fields #[]) #[]
noncomputable def o3b (P : Params) : Obj := Obj.mk (Value.type "dict") none (Data.dict #[DictEntry.mk (PyData.keyHash P (Str.ofString "__name__")) (Value.str (Str.ofString "__name__") 165) (Value.str (Str.ofString "cpy313.stringprep") 215), DictEntry.mk (PyData.keyHash P (Str.ofString "__doc__")) (Value.str (Str.ofString "__doc__") 166) Value.none, DictEntry.mk (PyData.keyHash P (Str.ofString "__package__")) (Value.str (Str.ofString "__package__") 167) Value.none, DictEntry.mk (PyData.keyHash P (Str.ofString "__loader__")) (Value.str (Str.ofString "__loader__") 168) (Value.builtin "__main__.__loader__#opaque"), DictEntry.mk (PyData.keyHash P (Str.ofString "__spec__")) (Value.str (Str.ofString "__spec__") 169) Value.none, DictEntry.mk (PyData.keyHash P (Str.ofString "__annotations__")) (Value.str (Str.ofString "__annotations__") 170) (Value.ref 6), DictEntry.mk (PyData.keyHash P (Str.ofString "__builtins__")) (Value.str (Str.ofString "__builtins__") 171) (Value.ref 4), DictEntry.mk (PyData.keyHash P (Str.ofString "__file__")) (Value.str (Str.ofString "__file__") 173) (Value.str (Str.ofString "/claim/cut.py") 172), DictEntry.mk (PyData.keyHash P (Str.ofString "__cached__")) (Value.str (Str.ofString "__cached__") 174) Value.none, DictEntry.mk (PyData.keyHash P (Str.ofString "Int2AP")) (Value.str (Str.ofString "Int2AP") 198) (Value.ref 21), DictEntry.mk (PyData.keyHash P (Str.ofString "ELLIPSIS_MARKER")) (Value.str (Str.ofString "ELLIPSIS_MARKER") 202) (Value.str (Str.ofString "...") 201), DictEntry.mk (PyData.keyHash P (Str.ofString "_ellipsis_match")) (Value.str (Str.ofString "_ellipsis_match") 214) (Value.ref 28)] 12) #[]
noncomputable def o12b (P : Params) : Obj := Obj.mk Value.none none (Data.fields #[Value.int 2 0, Value.int 0 0, Value.ref 20, Value.int 12 0, Value.int 0 0, Value.ref 27]) #[]
noncomputable def o3c (P : Params) : Obj := Obj.mk (Value.type "dict") none (Data.dict #[DictEntry.mk (PyData.keyHash P (Str.ofString "__name__")) (Value.str (Str.ofString "__name__") 165) (Value.str (Str.ofString "cpy313.stringprep") 215), DictEntry.mk (PyData.keyHash P (Str.ofString "__doc__")) (Value.str (Str.ofString "__doc__") 166) Value.none, DictEntry.mk (PyData.keyHash P (Str.ofString "__package__")) (Value.str (Str.ofString "__package__") 167) Value.none, DictEntry.mk (PyData.keyHash P (Str.ofString "__loader__")) (Value.str (Str.ofString "__loader__") 168) (Value.builtin "__main__.__loader__#opaque"), DictEntry.mk (PyData.keyHash P (Str.ofString "__spec__")) (Value.str (Str.ofString "__spec__") 169) Value.none, DictEntry.mk (PyData.keyHash P (Str.ofString "__annotations__")) (Value.str (Str.ofString "__annotations__") 170) (Value.ref 6), DictEntry.mk (PyData.keyHash P (Str.ofString "__builtins__")) (Value.str (Str.ofString "__builtins__") 171) (Value.ref 4), DictEntry.mk (PyData.keyHash P (Str.ofString "__file__")) (Value.str (Str.ofString "__file__") 173) (Value.str (Str.ofString "/claim/cut.py") 172), DictEntry.mk (PyData.keyHash P (Str.ofString "__cached__")) (Value.str (Str.ofString "__cached__") 174) Value.none, DictEntry.mk (PyData.keyHash P (Str.ofString "Int2AP")) (Value.str (Str.ofString "Int2AP") 198) (Value.ref 21), DictEntry.mk (PyData.keyHash P (Str.ofString "ELLIPSIS_MARKER")) (Value.str (Str.ofString "ELLIPSIS_MARKER") 202) (Value.str (Str.ofString "...") 201), DictEntry.mk (PyData.keyHash P (Str.ofString "_ellipsis_match")) (Value.str (Str.ofString "_ellipsis_match") 214) (Value.ref 28), DictEntry.mk (PyData.keyHash P (Str.ofString "b3_exceptions")) (Value.str (Str.ofString "b3_exceptions") 2167) (Value.ref 29)] 13) #[]
noncomputable def o12c (P : Params) : Obj := Obj.mk Value.none none (Data.fields #[Value.int 2 0, Value.int 0 0, Value.ref 20, Value.int 12 0, Value.int 0 0, Value.ref 27]) #[]
noncomputable def o3d (P : Params) : Obj := Obj.mk (Value.type "dict") none (Data.dict #[DictEntry.mk (PyData.keyHash P (Str.ofString "__name__")) (Value.str (Str.ofString "__name__") 165) (Value.str (Str.ofString "law_uy0009_02") 2176), DictEntry.mk (PyData.keyHash P (Str.ofString "__doc__")) (Value.str (Str.ofString "__doc__") 166) Value.none, DictEntry.mk (PyData.keyHash P (Str.ofString "__package__")) (Value.str (Str.ofString "__package__") 167) Value.none, DictEntry.mk (PyData.keyHash P (Str.ofString "__loader__")) (Value.str (Str.ofString "__loader__") 168) (Value.builtin "__main__.__loader__#opaque"), DictEntry.mk (PyData.keyHash P (Str.ofString "__spec__")) (Value.str (Str.ofString "__spec__") 169) Value.none, DictEntry.mk (PyData.keyHash P (Str.ofString "__annotations__")) (Value.str (Str.ofString "__annotations__") 170) (Value.ref 6), DictEntry.mk (PyData.keyHash P (Str.ofString "__builtins__")) (Value.str (Str.ofString "__builtins__") 171) (Value.ref 4), DictEntry.mk (PyData.keyHash P (Str.ofString "__file__")) (Value.str (Str.ofString "__file__") 173) (Value.str (Str.ofString "/claim/cut.py") 172), DictEntry.mk (PyData.keyHash P (Str.ofString "__cached__")) (Value.str (Str.ofString "__cached__") 174) Value.none, DictEntry.mk (PyData.keyHash P (Str.ofString "Int2AP")) (Value.str (Str.ofString "Int2AP") 198) (Value.ref 21), DictEntry.mk (PyData.keyHash P (Str.ofString "ELLIPSIS_MARKER")) (Value.str (Str.ofString "ELLIPSIS_MARKER") 202) (Value.str (Str.ofString "...") 201), DictEntry.mk (PyData.keyHash P (Str.ofString "_ellipsis_match")) (Value.str (Str.ofString "_ellipsis_match") 214) (Value.ref 28), DictEntry.mk (PyData.keyHash P (Str.ofString "b3_exceptions")) (Value.str (Str.ofString "b3_exceptions") 2167) (Value.ref 29), DictEntry.mk (PyData.keyHash P (Str.ofString "map_table_b3")) (Value.str (Str.ofString "map_table_b3") 2175) (Value.ref 74), DictEntry.mk (PyData.keyHash P (Str.ofString "_law_sign")) (Value.str (Str.ofString "_law_sign") 2188) (Value.ref 81), DictEntry.mk (PyData.keyHash P (Str.ofString "_law_root")) (Value.str (Str.ofString "_law_root") 2197) (Value.ref 88), DictEntry.mk (PyData.keyHash P (Str.ofString "_law_position")) (Value.str (Str.ofString "_law_position") 2206) (Value.ref 95), DictEntry.mk (PyData.keyHash P (Str.ofString "_law_word")) (Value.str (Str.ofString "_law_word") 2212) (Value.ref 100), DictEntry.mk (PyData.keyHash P (Str.ofString "_law_lost")) (Value.str (Str.ofString "_law_lost") 2218) (Value.ref 105), DictEntry.mk (PyData.keyHash P (Str.ofString "_law_moved")) (Value.str (Str.ofString "_law_moved") 2230) (Value.ref 112), DictEntry.mk (PyData.keyHash P (Str.ofString "_law_answer")) (Value.str (Str.ofString "_law_answer") 2241) (Value.ref 119), DictEntry.mk (PyData.keyHash P (Str.ofString "law")) (Value.str (Str.ofString "law") 2247) (Value.ref 124)] 22) #[]
noncomputable def o12d (P : Params) : Obj := Obj.mk Value.none none (Data.fields #[Value.int 2 0, Value.int 0 0, Value.ref 20, Value.int 12 0, Value.int 0 0, Value.ref 27, Value.int 42 0, Value.int 0 0, Value.ref 73, Value.int 48 0, Value.int 0 0, Value.ref 80, Value.int 59 0, Value.int 0 0, Value.ref 87, Value.int 66 0, Value.int 0 0, Value.ref 94, Value.int 69 0, Value.int 0 0, Value.ref 99, Value.int 75 0, Value.int 0 0, Value.ref 104, Value.int 86 0, Value.int 0 0, Value.ref 111, Value.int 94 0, Value.int 0 0, Value.ref 118, Value.int 102 0, Value.int 0 0, Value.ref 123]) #[]
noncomputable def hA (P : Params) : Heap := ⟨⟨[boot_o_0 P, boot_o_1 P, boot_o_2 P, o3a P, boot_o_4 P, boot_o_5 P, boot_o_6 P, boot_o_7 P, boot_o_8 P, boot_o_9 P, boot_o_10 P, o11 P, o12a P, o13 P, o14 P]⟩, {}⟩
noncomputable def bB (P : Params) : List Obj := [boot_o_0 P, boot_o_1 P, boot_o_2 P, o3b P, boot_o_4 P, boot_o_5 P, boot_o_6 P, boot_o_7 P, boot_o_8 P, boot_o_9 P, boot_o_10 P, o11 P, o12b P, o13 P, o14 P, o15 P, o16 P, o17 P, o18 P, o19 P, o20 P, o21 P, o22 P, o23 P, o24 P, o25 P, o26 P, o27 P, o28 P]
noncomputable def bC (P : Params) : List Obj := [boot_o_0 P, boot_o_1 P, boot_o_2 P, o3c P, boot_o_4 P, boot_o_5 P, boot_o_6 P, boot_o_7 P, boot_o_8 P, boot_o_9 P, boot_o_10 P, o11 P, o12c P, o13 P, o14 P, o15 P, o16 P, o17 P, o18 P, o19 P, o20 P, o21 P, o22 P, o23 P, o24 P, o25 P, o26 P, o27 P, o28 P]
noncomputable def ES : List DictEntry := ents 217 e0 ++ ents (217 + 51) eM.flatten ++ entsS (217 + 51 + 51 * 37) e38
noncomputable def SB : List Obj := [D (ents 268 e1) 17, D (ents 319 e2) 17, D (ents 370 e3) 17, D (ents 421 e4) 17, D (ents 472 e5) 17, D (ents 523 e6) 17, D (ents 574 e7) 17, D (ents 625 e8) 17, D (ents 676 e9) 17, D (ents 727 e10) 17, D (ents 778 e11) 17, D (ents 829 e12) 17, D (ents 880 e13) 17, D (ents 931 e14) 17, D (ents 982 e15) 17, D (ents 1033 e16) 17, D (ents 1084 e17) 17, D (ents 1135 e18) 17, D (ents 1186 e19) 17, D (ents 1237 e20) 17, D (ents 1288 e21) 17, D (ents 1339 e22) 17, D (ents 1390 e23) 17, D (ents 1441 e24) 17, D (ents 1492 e25) 17, D (ents 1543 e26) 17, D (ents 1594 e27) 17, D (ents 1645 e28) 17, D (ents 1696 e29) 17, D (ents 1747 e30) 17, D (ents 1798 e31) 17, D (ents 1849 e32) 17, D (ents 1900 e33) 17, D (ents 1951 e34) 17, D (ents 2002 e35) 17, D (ents 2053 e36) 17, D (ents 2104 e37) 17, D (entsS 2155 e38) 4]
noncomputable def hC (P : Params) : Heap := hp (bC P) (D ES 650) SB {}
noncomputable def hF (P : Params) : Heap := ⟨⟨[boot_o_0 P, boot_o_1 P, boot_o_2 P, o3d P, boot_o_4 P, boot_o_5 P, boot_o_6 P, boot_o_7 P, boot_o_8 P, boot_o_9 P, boot_o_10 P, o11 P, o12d P, o13 P, o14 P, o15 P, o16 P, o17 P, o18 P, o19 P, o20 P, o21 P, o22 P, o23 P, o24 P, o25 P, o26 P, o27 P, o28 P, D ES 650, D (ents 268 e1) 17, D (ents 319 e2) 17, D (ents 370 e3) 17, D (ents 421 e4) 17, D (ents 472 e5) 17, D (ents 523 e6) 17, D (ents 574 e7) 17, D (ents 625 e8) 17, D (ents 676 e9) 17, D (ents 727 e10) 17, D (ents 778 e11) 17, D (ents 829 e12) 17, D (ents 880 e13) 17, D (ents 931 e14) 17, D (ents 982 e15) 17, D (ents 1033 e16) 17, D (ents 1084 e17) 17, D (ents 1135 e18) 17, D (ents 1186 e19) 17, D (ents 1237 e20) 17, D (ents 1288 e21) 17, D (ents 1339 e22) 17, D (ents 1390 e23) 17, D (ents 1441 e24) 17, D (ents 1492 e25) 17, D (ents 1543 e26) 17, D (ents 1594 e27) 17, D (ents 1645 e28) 17, D (ents 1696 e29) 17, D (ents 1747 e30) 17, D (ents 1798 e31) 17, D (ents 1849 e32) 17, D (ents 1900 e33) 17, D (ents 1951 e34) 17, D (ents 2002 e35) 17, D (ents 2053 e36) 17, D (ents 2104 e37) 17, D (entsS 2155 e38) 4, o68 P, o69 P, o70 P, o71 P, o72 P, o73 P, o74 P, o75 P, o76 P, o77 P, o78 P, o79 P, o80 P, o81 P, o82 P, o83 P, o84 P, o85 P, o86 P, o87 P, o88 P, o89 P, o90 P, o91 P, o92 P, o93 P, o94 P, o95 P, o96 P, o97 P, o98 P, o99 P, o100 P, o101 P, o102 P, o103 P, o104 P, o105 P, o106 P, o107 P, o108 P, o109 P, o110 P, o111 P, o112 P, o113 P, o114 P, o115 P, o116 P, o117 P, o118 P, o119 P, o120 P, o121 P, o122 P, o123 P, o124 P]⟩, {}⟩
/-- what the walk may lean on: the objects that the defs are -/
noncomputable def fragG (P : Params) : Frag := by
  refine (fun (_ : ?a1 = fA 1 ∧ ?b1 = fB 1 ∧ ?s1 = fS 1 ∧ ?a4 = fA 4 ∧ ?b4 = fB 4 ∧ ?s4 = fS 4 ∧ ?a7 = fA 7 ∧ ?b7 = fB 7 ∧ ?s7 = fS 7 ∧ ?a9 = fA 9 ∧ ?b9 = fB 9 ∧ ?s9 = fS 9 ∧ ?a10 = fA 10 ∧ ?b10 = fB 10 ∧ ?s10 = fS 10 ∧ ?a11 = fA 11 ∧ ?b11 = fB 11 ∧ ?s11 = fS 11 ∧ ?a12 = fA 12 ∧ ?b12 = fB 12 ∧ ?s12 = fS 12 ∧ ?a13 = fA 13 ∧ ?b13 = fB 13 ∧ ?s13 = fS 13 ∧ ?a14 = fA 14 ∧ ?b14 = fB 14 ∧ ?s14 = fS 14 ∧ ?a15 = fA 15 ∧ ?b15 = fB 15 ∧ ?s15 = fS 15) => (nat_lit 2, Obj.mk Value.none none (Data.dict #[]) #[]) :: (nat_lit 3, Obj.mk (Value.type "dict") none (Data.dict #[DictEntry.mk (PyData.keyHash P (Str.ofString "__name__")) (Value.str (Str.ofString "__name__") 165) (Value.str (Str.ofString "law_uy0009_02") 2176), DictEntry.mk (PyData.keyHash P (Str.ofString "__doc__")) (Value.str (Str.ofString "__doc__") 166) Value.none, DictEntry.mk (PyData.keyHash P (Str.ofString "__package__")) (Value.str (Str.ofString "__package__") 167) Value.none, DictEntry.mk (PyData.keyHash P (Str.ofString "__loader__")) (Value.str (Str.ofString "__loader__") 168) (Value.builtin "__main__.__loader__#opaque"), DictEntry.mk (PyData.keyHash P (Str.ofString "__spec__")) (Value.str (Str.ofString "__spec__") 169) Value.none, DictEntry.mk (PyData.keyHash P (Str.ofString "__annotations__")) (Value.str (Str.ofString "__annotations__") 170) (Value.ref 6), DictEntry.mk (PyData.keyHash P (Str.ofString "__builtins__")) (Value.str (Str.ofString "__builtins__") 171) (Value.ref 4), DictEntry.mk (PyData.keyHash P (Str.ofString "__file__")) (Value.str (Str.ofString "__file__") 173) (Value.str (Str.ofString "/claim/cut.py") 172), DictEntry.mk (PyData.keyHash P (Str.ofString "__cached__")) (Value.str (Str.ofString "__cached__") 174) Value.none, DictEntry.mk (PyData.keyHash P (Str.ofString "Int2AP")) (Value.str (Str.ofString "Int2AP") 198) (Value.ref 21), DictEntry.mk (PyData.keyHash P (Str.ofString "ELLIPSIS_MARKER")) (Value.str (Str.ofString "ELLIPSIS_MARKER") 202) (Value.str (Str.ofString "...") 201), DictEntry.mk (PyData.keyHash P (Str.ofString "_ellipsis_match")) (Value.str (Str.ofString "_ellipsis_match") 214) (Value.ref 28), DictEntry.mk (PyData.keyHash P (Str.ofString "b3_exceptions")) (Value.str (Str.ofString "b3_exceptions") 2167) (Value.ref 29), DictEntry.mk (PyData.keyHash P (Str.ofString "map_table_b3")) (Value.str (Str.ofString "map_table_b3") 2175) (Value.ref 74), DictEntry.mk (PyData.keyHash P (Str.ofString "_law_sign")) (Value.str (Str.ofString "_law_sign") 2188) (Value.ref 81), DictEntry.mk (PyData.keyHash P (Str.ofString "_law_root")) (Value.str (Str.ofString "_law_root") 2197) (Value.ref 88), DictEntry.mk (PyData.keyHash P (Str.ofString "_law_position")) (Value.str (Str.ofString "_law_position") 2206) (Value.ref 95), DictEntry.mk (PyData.keyHash P (Str.ofString "_law_word")) (Value.str (Str.ofString "_law_word") 2212) (Value.ref 100), DictEntry.mk (PyData.keyHash P (Str.ofString "_law_lost")) (Value.str (Str.ofString "_law_lost") 2218) (Value.ref 105), DictEntry.mk (PyData.keyHash P (Str.ofString "_law_moved")) (Value.str (Str.ofString "_law_moved") 2230) (Value.ref 112), DictEntry.mk (PyData.keyHash P (Str.ofString "_law_answer")) (Value.str (Str.ofString "_law_answer") 2241) (Value.ref 119), DictEntry.mk (PyData.keyHash P (Str.ofString "law")) (Value.str (Str.ofString "law") 2247) (Value.ref 124)] 22) #[]) :: (nat_lit 6, Obj.mk (Value.type "dict") none (Data.dict #[]) #[]) :: (nat_lit 15, Obj.mk (Value.type "tuple") none (Data.seq #[]) #[]) :: (nat_lit 17, Obj.mk (Value.type "tuple") none (Data.seq #[Value.str (Str.ofString "num") 192, Value.str (Str.ofString "val") 193, Value.str (Str.ofString "AP") 194, Value.str (Str.ofString "mod") 195]) #[]) :: (nat_lit 18, Obj.mk (Value.type "tuple") none (Data.seq #[]) #[]) :: (nat_lit 20, Obj.mk (Value.type "code") none (Data.fields #[Value.str (Str.ofString "Int2AP") 189, Value.str (Str.ofString "Int2AP") 190, Value.str (Str.ofString "/claim/cut.py") 191, Value.int 2 0, Value.int 1 0, Value.int 0 0, Value.int 0 0, Value.int 3 0, Value.ref 15, Value.bool Bool.true, Value.int 181 0, Value.ref 16, Value.none, Value.ref 17, Value.ref 18, Value.ref 19, Value.int 196 0, Value.int 2 0, Value.str (Str.ofString "/claim/cut.py") 197]) #[]) :: (nat_lit 21, Obj.mk (Value.type "function") none (Data.func (FuncData.mk (Str.ofString "Int2AP") (Str.ofString "Int2AP") ?a1 (FuncBody.stmts ?b1) ?s1 3 [] Value.none Value.none Value.none (Value.str (Str.ofString "cpy313.imaplib") 187) none (Value.ref 20) Value.none 0)) #[]) :: (nat_lit 22, Obj.mk (Value.type "tuple") none (Data.seq #[]) #[]) :: (nat_lit 24, Obj.mk (Value.type "tuple") none (Data.seq #[Value.str (Str.ofString "want") 206, Value.str (Str.ofString "got") 207, Value.str (Str.ofString "ws") 208, Value.str (Str.ofString "startpos") 209, Value.str (Str.ofString "endpos") 210, Value.str (Str.ofString "w") 211]) #[]) :: (nat_lit 25, Obj.mk (Value.type "tuple") none (Data.seq #[]) #[]) :: (nat_lit 27, Obj.mk (Value.type "code") none (Data.fields #[Value.str (Str.ofString "_ellipsis_match") 203, Value.str (Str.ofString "_ellipsis_match") 204, Value.str (Str.ofString "/claim/cut.py") 205, Value.int 12 0, Value.int 2 0, Value.int 0 0, Value.int 0 0, Value.int 3 0, Value.ref 22, Value.bool Bool.true, Value.int 181 0, Value.ref 23, Value.none, Value.ref 24, Value.ref 25, Value.ref 26, Value.int 212 0, Value.int 12 0, Value.str (Str.ofString "/claim/cut.py") 213]) #[]) :: (nat_lit 28, Obj.mk (Value.type "function") none (Data.func (FuncData.mk (Str.ofString "_ellipsis_match") (Str.ofString "_ellipsis_match") ?a4 (FuncBody.stmts ?b4) ?s4 3 [] Value.none Value.none Value.none (Value.str (Str.ofString "cpy313.doctest") 199) none (Value.ref 27) Value.none 0)) #[]) :: (nat_lit 29, D ES 650) :: (nat_lit 68, Obj.mk (Value.type "tuple") none (Data.seq #[]) #[]) :: (nat_lit 70, Obj.mk (Value.type "tuple") none (Data.seq #[Value.str (Str.ofString "code") 2171, Value.str (Str.ofString "r") 2172]) #[]) :: (nat_lit 71, Obj.mk (Value.type "tuple") none (Data.seq #[]) #[]) :: (nat_lit 73, Obj.mk (Value.type "code") none (Data.fields #[Value.str (Str.ofString "map_table_b3") 2168, Value.str (Str.ofString "map_table_b3") 2169, Value.str (Str.ofString "/claim/cut.py") 2170, Value.int 42 0, Value.int 1 0, Value.int 0 0, Value.int 0 0, Value.int 3 0, Value.ref 68, Value.bool Bool.true, Value.int 181 0, Value.ref 69, Value.none, Value.ref 70, Value.ref 71, Value.ref 72, Value.int 2173 0, Value.int 42 0, Value.str (Str.ofString "/claim/cut.py") 2174]) #[]) :: (nat_lit 74, Obj.mk (Value.type "function") none (Data.func (FuncData.mk (Str.ofString "map_table_b3") (Str.ofString "map_table_b3") ?a7 (FuncBody.stmts ?b7) ?s7 3 [] Value.none Value.none Value.none (Value.str (Str.ofString "cpy313.stringprep") 215) none (Value.ref 73) Value.none 0)) #[]) :: (nat_lit 75, Obj.mk (Value.type "tuple") none (Data.seq #[]) #[]) :: (nat_lit 77, Obj.mk (Value.type "tuple") none (Data.seq #[Value.str (Str.ofString "kind") 2181, Value.str (Str.ofString "table") 2182, Value.str (Str.ofString "at") 2183, Value.str (Str.ofString "capitals") 2184, Value.str (Str.ofString "alone") 2185]) #[]) :: (nat_lit 78, Obj.mk (Value.type "tuple") none (Data.seq #[]) #[]) :: (nat_lit 80, Obj.mk (Value.type "code") none (Data.fields #[Value.str (Str.ofString "_law_sign") 2178, Value.str (Str.ofString "_law_sign") 2179, Value.str (Str.ofString "/claim/cut.py") 2180, Value.int 48 0, Value.int 1 0, Value.int 0 0, Value.int 0 0, Value.int 3 0, Value.ref 75, Value.bool Bool.true, Value.int 181 0, Value.ref 76, Value.none, Value.ref 77, Value.ref 78, Value.ref 79, Value.int 2186 0, Value.int 48 0, Value.str (Str.ofString "/claim/cut.py") 2187]) #[]) :: (nat_lit 81, Obj.mk (Value.type "function") none (Data.func (FuncData.mk (Str.ofString "_law_sign") (Str.ofString "_law_sign") ?a9 (FuncBody.stmts ?b9) ?s9 3 [] Value.none Value.none Value.none (Value.str (Str.ofString "law_uy0009_02") 2176) none (Value.ref 80) Value.none 0)) #[]) :: (nat_lit 82, Obj.mk (Value.type "tuple") none (Data.seq #[]) #[]) :: (nat_lit 84, Obj.mk (Value.type "tuple") none (Data.seq #[Value.str (Str.ofString "number") 2192, Value.str (Str.ofString "root") 2193, Value.str (Str.ofString "step") 2194]) #[]) :: (nat_lit 85, Obj.mk (Value.type "tuple") none (Data.seq #[]) #[]) :: (nat_lit 87, Obj.mk (Value.type "code") none (Data.fields #[Value.str (Str.ofString "_law_root") 2189, Value.str (Str.ofString "_law_root") 2190, Value.str (Str.ofString "/claim/cut.py") 2191, Value.int 59 0, Value.int 1 0, Value.int 0 0, Value.int 0 0, Value.int 3 0, Value.ref 82, Value.bool Bool.true, Value.int 181 0, Value.ref 83, Value.none, Value.ref 84, Value.ref 85, Value.ref 86, Value.int 2195 0, Value.int 59 0, Value.str (Str.ofString "/claim/cut.py") 2196]) #[]) :: (nat_lit 88, Obj.mk (Value.type "function") none (Data.func (FuncData.mk (Str.ofString "_law_root") (Str.ofString "_law_root") ?a10 (FuncBody.stmts ?b10) ?s10 3 [] Value.none Value.none Value.none (Value.str (Str.ofString "law_uy0009_02") 2176) none (Value.ref 87) Value.none 0)) #[]) :: (nat_lit 89, Obj.mk (Value.type "tuple") none (Data.seq #[]) #[]) :: (nat_lit 91, Obj.mk (Value.type "tuple") none (Data.seq #[Value.str (Str.ofString "rank") 2201, Value.str (Str.ofString "t") 2202, Value.str (Str.ofString "lesser") 2203]) #[]) :: (nat_lit 92, Obj.mk (Value.type "tuple") none (Data.seq #[]) #[]) :: (nat_lit 94, Obj.mk (Value.type "code") none (Data.fields #[Value.str (Str.ofString "_law_position") 2198, Value.str (Str.ofString "_law_position") 2199, Value.str (Str.ofString "/claim/cut.py") 2200, Value.int 66 0, Value.int 2 0, Value.int 0 0, Value.int 0 0, Value.int 3 0, Value.ref 89, Value.bool Bool.true, Value.int 181 0, Value.ref 90, Value.none, Value.ref 91, Value.ref 92, Value.ref 93, Value.int 2204 0, Value.int 66 0, Value.str (Str.ofString "/claim/cut.py") 2205]) #[]) :: (nat_lit 95, Obj.mk (Value.type "function") none (Data.func (FuncData.mk (Str.ofString "_law_position") (Str.ofString "_law_position") ?a11 (FuncBody.stmts ?b11) ?s11 3 [] Value.none Value.none Value.none (Value.str (Str.ofString "law_uy0009_02") 2176) none (Value.ref 94) Value.none 0)) #[]) :: (nat_lit 96, Obj.mk (Value.type "tuple") none (Data.seq #[]) #[]) :: (nat_lit 99, Obj.mk (Value.type "code") none (Data.fields #[Value.str (Str.ofString "_law_word") 2207, Value.str (Str.ofString "_law_word") 2208, Value.str (Str.ofString "/claim/cut.py") 2209, Value.int 69 0, Value.int 3 0, Value.int 0 0, Value.int 0 0, Value.int 3 0, Value.ref 96, Value.bool Bool.true, Value.int 181 0, Value.ref 97, Value.none, Value.none, Value.none, Value.ref 98, Value.int 2210 0, Value.int 69 0, Value.str (Str.ofString "/claim/cut.py") 2211]) #[]) :: (nat_lit 100, Obj.mk (Value.type "function") none (Data.func (FuncData.mk (Str.ofString "_law_word") (Str.ofString "_law_word") ?a12 (FuncBody.stmts ?b12) (Scope.mk ScopeKind.function [(Str.ofString "number", NameKind.local), (Str.ofString "weights", NameKind.local), (Str.ofString "shift", NameKind.local), (Str.ofString "packed", NameKind.local), (Str.ofString "weight", NameKind.local), (Str.ofString "Int2AP", NameKind.globalImplicit)] Bool.false Bool.false [(Str.ofString "fast", Const.str (Str.ofString "number")), (Str.ofString "fast", Const.str (Str.ofString "weights")), (Str.ofString "fast", Const.str (Str.ofString "shift")), (Str.ofString "fast", Const.str (Str.ofString "packed")), (Str.ofString "fast", Const.str (Str.ofString "weight")), (Str.ofString "fast", Const.str (Str.ofString "octet"))]) 3 [] Value.none Value.none Value.none (Value.str (Str.ofString "law_uy0009_02") 2176) none (Value.ref 99) Value.none 0)) #[]) :: (nat_lit 101, Obj.mk (Value.type "tuple") none (Data.seq #[]) #[]) :: (nat_lit 104, Obj.mk (Value.type "code") none (Data.fields #[Value.str (Str.ofString "_law_lost") 2213, Value.str (Str.ofString "_law_lost") 2214, Value.str (Str.ofString "/claim/cut.py") 2215, Value.int 75 0, Value.int 6 0, Value.int 0 0, Value.int 0 0, Value.int 3 0, Value.ref 101, Value.bool Bool.true, Value.int 181 0, Value.ref 102, Value.none, Value.none, Value.none, Value.ref 103, Value.int 2216 0, Value.int 75 0, Value.str (Str.ofString "/claim/cut.py") 2217]) #[]) :: (nat_lit 105, Obj.mk (Value.type "function") none (Data.func (FuncData.mk (Str.ofString "_law_lost") (Str.ofString "_law_lost") ?a13 (FuncBody.stmts ?b13) (Scope.mk ScopeKind.function [(Str.ofString "heaps", NameKind.local), (Str.ofString "t", NameKind.cell), (Str.ofString "weights", NameKind.local), (Str.ofString "shift", NameKind.cell), (Str.ofString "letters", NameKind.local), (Str.ofString "signs", NameKind.local), (Str.ofString "lesser", NameKind.local), (Str.ofString "greater", NameKind.local), (Str.ofString "word", NameKind.cell), (Str.ofString "letter", NameKind.local), (Str.ofString "nought", NameKind.cell), (Str.ofString "ends", NameKind.local), (Str.ofString "figure", NameKind.local), (Str.ofString "sorted", NameKind.globalImplicit), (Str.ofString "_law_word", NameKind.globalImplicit), (Str.ofString "chr", NameKind.globalImplicit), (Str.ofString "range", NameKind.globalImplicit), (Str.ofString "len", NameKind.globalImplicit), (Str.ofString "map_table_b3", NameKind.globalImplicit), (Str.ofString "ord", NameKind.globalImplicit), (Str.ofString "_ellipsis_match", NameKind.globalImplicit)] Bool.false Bool.false [(Str.ofString "fast", Const.str (Str.ofString "heaps")), (Str.ofString "fast", Const.str (Str.ofString "t")), (Str.ofString "fast", Const.str (Str.ofString "weights")), (Str.ofString "fast", Const.str (Str.ofString "shift")), (Str.ofString "fast", Const.str (Str.ofString "letters")), (Str.ofString "fast", Const.str (Str.ofString "signs")), (Str.ofString "fast", Const.str (Str.ofString "lesser")), (Str.ofString "fast", Const.str (Str.ofString "greater")), (Str.ofString "fast", Const.str (Str.ofString "word")), (Str.ofString "fast", Const.str (Str.ofString "letter")), (Str.ofString "fast", Const.str (Str.ofString "nought")), (Str.ofString "fast", Const.str (Str.ofString "size")), (Str.ofString "fast", Const.str (Str.ofString "top")), (Str.ofString "fast", Const.str (Str.ofString "ends")), (Str.ofString "fast", Const.str (Str.ofString "figure"))]) 3 [] Value.none Value.none Value.none (Value.str (Str.ofString "law_uy0009_02") 2176) none (Value.ref 104) Value.none 0)) #[]) :: (nat_lit 106, Obj.mk (Value.type "tuple") none (Data.seq #[]) #[]) :: (nat_lit 108, Obj.mk (Value.type "tuple") none (Data.seq #[Value.str (Str.ofString "lesser") 2222, Value.str (Str.ofString "greater") 2223, Value.str (Str.ofString "deed") 2224, Value.str (Str.ofString "t") 2225, Value.str (Str.ofString "off") 2226, Value.str (Str.ofString "other") 2227]) #[]) :: (nat_lit 109, Obj.mk (Value.type "tuple") none (Data.seq #[]) #[]) :: (nat_lit 111, Obj.mk (Value.type "code") none (Data.fields #[Value.str (Str.ofString "_law_moved") 2219, Value.str (Str.ofString "_law_moved") 2220, Value.str (Str.ofString "/claim/cut.py") 2221, Value.int 86 0, Value.int 4 0, Value.int 0 0, Value.int 0 0, Value.int 3 0, Value.ref 106, Value.bool Bool.true, Value.int 181 0, Value.ref 107, Value.none, Value.ref 108, Value.ref 109, Value.ref 110, Value.int 2228 0, Value.int 86 0, Value.str (Str.ofString "/claim/cut.py") 2229]) #[]) :: (nat_lit 112, Obj.mk (Value.type "function") none (Data.func (FuncData.mk (Str.ofString "_law_moved") (Str.ofString "_law_moved") ?a14 (FuncBody.stmts ?b14) ?s14 3 [] Value.none Value.none Value.none (Value.str (Str.ofString "law_uy0009_02") 2176) none (Value.ref 111) Value.none 0)) #[]) :: (nat_lit 113, Obj.mk (Value.type "tuple") none (Data.seq #[]) #[]) :: (nat_lit 115, Obj.mk (Value.type "tuple") none (Data.seq #[Value.str (Str.ofString "lesser") 2234, Value.str (Str.ofString "greater") 2235, Value.str (Str.ofString "t") 2236, Value.str (Str.ofString "rank") 2237, Value.str (Str.ofString "mate") 2238]) #[]) :: (nat_lit 116, Obj.mk (Value.type "tuple") none (Data.seq #[]) #[]) :: (nat_lit 118, Obj.mk (Value.type "code") none (Data.fields #[Value.str (Str.ofString "_law_answer") 2231, Value.str (Str.ofString "_law_answer") 2232, Value.str (Str.ofString "/claim/cut.py") 2233, Value.int 94 0, Value.int 3 0, Value.int 0 0, Value.int 0 0, Value.int 3 0, Value.ref 113, Value.bool Bool.true, Value.int 181 0, Value.ref 114, Value.none, Value.ref 115, Value.ref 116, Value.ref 117, Value.int 2239 0, Value.int 94 0, Value.str (Str.ofString "/claim/cut.py") 2240]) #[]) :: (nat_lit 119, Obj.mk (Value.type "function") none (Data.func (FuncData.mk (Str.ofString "_law_answer") (Str.ofString "_law_answer") ?a15 (FuncBody.stmts ?b15) ?s15 3 [] Value.none Value.none Value.none (Value.str (Str.ofString "law_uy0009_02") 2176) none (Value.ref 118) Value.none 0)) #[]) :: (nat_lit 120, Obj.mk (Value.type "tuple") none (Data.seq #[]) #[]) :: (nat_lit 123, Obj.mk (Value.type "code") none (Data.fields #[Value.str (Str.ofString "law") 2242, Value.str (Str.ofString "law") 2243, Value.str (Str.ofString "/claim/cut.py") 2244, Value.int 102 0, Value.int 1 0, Value.int 0 0, Value.int 0 0, Value.int 3 0, Value.ref 120, Value.bool Bool.true, Value.int 181 0, Value.ref 121, Value.none, Value.none, Value.none, Value.ref 122, Value.int 2245 0, Value.int 102 0, Value.str (Str.ofString "/claim/cut.py") 2246]) #[]) :: (nat_lit 124, Obj.mk (Value.type "function") none (Data.func (FuncData.mk (Str.ofString "law") (Str.ofString "law") (fA 16) (FuncBody.stmts (fB 16)) (Scope.mk ScopeKind.function [(Str.ofString "script", NameKind.cell), (Str.ofString "kind", NameKind.local), (Str.ofString "rank", NameKind.local), (Str.ofString "deed", NameKind.local), (Str.ofString "one", NameKind.local), (Str.ofString "other", NameKind.local), (Str.ofString "t", NameKind.local), (Str.ofString "shift", NameKind.local), (Str.ofString "letters", NameKind.local), (Str.ofString "signs", NameKind.local), (Str.ofString "weights", NameKind.local), (Str.ofString "drawn", NameKind.local), (Str.ofString "heaps", NameKind.local), (Str.ofString "lost", NameKind.local), (Str.ofString "after", NameKind.local), (Str.ofString "enumerate", NameKind.globalImplicit), (Str.ofString "_law_sign", NameKind.globalImplicit), (Str.ofString "_law_position", NameKind.globalImplicit), (Str.ofString "sorted", NameKind.globalImplicit), (Str.ofString "_law_lost", NameKind.globalImplicit), (Str.ofString "_law_moved", NameKind.globalImplicit), (Str.ofString "_law_answer", NameKind.globalImplicit)] Bool.false Bool.false [(Str.ofString "fast", Const.str (Str.ofString "script")), (Str.ofString "fast", Const.str (Str.ofString "place")), (Str.ofString "fast", Const.str (Str.ofString "first")), (Str.ofString "fast", Const.str (Str.ofString "at")), (Str.ofString "fast", Const.str (Str.ofString "x")), (Str.ofString "fast", Const.str (Str.ofString "kind")), (Str.ofString "fast", Const.str (Str.ofString "rank")), (Str.ofString "fast", Const.str (Str.ofString "deed")), (Str.ofString "fast", Const.str (Str.ofString "one")), (Str.ofString "fast", Const.str (Str.ofString "other")), (Str.ofString "fast", Const.str (Str.ofString "t")), (Str.ofString "fast", Const.str (Str.ofString "shift")), (Str.ofString "fast", Const.str (Str.ofString "letters")), (Str.ofString "fast", Const.str (Str.ofString "signs")), (Str.ofString "fast", Const.str (Str.ofString "weights")), (Str.ofString "fast", Const.str (Str.ofString "drawn")), (Str.ofString "fast", Const.str (Str.ofString "heaps")), (Str.ofString "fast", Const.str (Str.ofString "lost")), (Str.ofString "fast", Const.str (Str.ofString "after"))]) 3 [] Value.none Value.none Value.none (Value.str (Str.ofString "law_uy0009_02") 2176) none (Value.ref 123) Value.none 0)) #[]) :: []) ⟨?pa1, ?pb1, ?ps1, ?pa4, ?pb4, ?ps4, ?pa7, ?pb7, ?ps7, ?pa9, ?pb9, ?ps9, ?pa10, ?pb10, ?ps10, ?pa11, ?pb11, ?ps11, ?pa12, ?pb12, ?ps12, ?pa13, ?pb13, ?ps13, ?pa14, ?pb14, ?ps14, ?pa15, ?pb15, ?ps15⟩
  case pa1 => (conv => rhs; whnf)
  case pb1 => (conv => rhs; whnf)
  case ps1 => (conv => rhs; whnf)
  case pa4 => (conv => rhs; whnf)
  case pb4 => (conv => rhs; whnf)
  case ps4 => (conv => rhs; whnf)
  case pa7 => (conv => rhs; whnf)
  case pb7 => (conv => rhs; whnf)
  case ps7 => (conv => rhs; whnf)
  case pa9 => (conv => rhs; whnf)
  case pb9 => (conv => rhs; whnf)
  case ps9 => (conv => rhs; whnf)
  case pa10 => (conv => rhs; whnf)
  case pb10 => (conv => rhs; whnf)
  case ps10 => (conv => rhs; whnf)
  case pa11 => (conv => rhs; whnf)
  case pb11 => (conv => rhs; whnf)
  case ps11 => (conv => rhs; whnf)
  case pa12 => (conv => rhs; whnf)
  case pb12 => (conv => rhs; whnf)
  case ps12 => (conv => rhs; whnf)
  case pa13 => (conv => rhs; whnf)
  case pb13 => (conv => rhs; whnf)
  case ps13 => (conv => rhs; whnf)
  case pa14 => (conv => rhs; whnf)
  case pb14 => (conv => rhs; whnf)
  case ps14 => (conv => rhs; whnf)
  case pa15 => (conv => rhs; whnf)
  case pb15 => (conv => rhs; whnf)
  case ps15 => (conv => rhs; whnf)
noncomputable def stAt (i : Nat) : Stmt := (PG.main.body[i]?).getD (.Pass default)
/-- the text as the walk sees it: without its names' and modules' lines -/
noncomputable def vw : Program := by
  refine (fun (_ : ?t1 = stAt 1 ∧ ?t3 = stAt 3 ∧ ?t4 = stAt 4 ∧ ?t7 = stAt 7 ∧ ?t9 = stAt 9 ∧ ?t10 = stAt 10 ∧ ?t11 = stAt 11 ∧ ?t12 = stAt 12 ∧ ?t13 = stAt 13 ∧ ?t14 = stAt 14 ∧ ?t15 = stAt 15) => { PG with main := { PG.main with body := [?t1, ?t3, ?t4, ?t7, ?t9, ?t10, ?t11, ?t12, ?t13, ?t14, ?t15, stAt 16] } }) ⟨?p1, ?p3, ?p4, ?p7, ?p9, ?p10, ?p11, ?p12, ?p13, ?p14, ?p15⟩
  case p1 => (conv => rhs; whnf)
  case p3 => (conv => rhs; whnf)
  case p4 => (conv => rhs; whnf)
  case p7 => (conv => rhs; whnf)
  case p9 => (conv => rhs; whnf)
  case p10 => (conv => rhs; whnf)
  case p11 => (conv => rhs; whnf)
  case p12 => (conv => rhs; whnf)
  case p13 => (conv => rhs; whnf)
  case p14 => (conv => rhs; whnf)
  case p15 => (conv => rhs; whnf)
noncomputable abbrev asK : List Addr := [2, 3, 6, 15, 17, 18, 20, 21, 22, 24, 25, 27, 28, 29, 68, 70, 71, 73, 74, 75, 77, 78, 80, 81, 82, 84, 85, 87, 88, 89, 91, 92, 94, 95, 96, 99, 100, 101, 104, 105, 106, 108, 109, 111, 112, 113, 115, 116, 118, 119, 120, 123, 124]
end
end Mine
end
section
open PySem PySem.W PyProof.Rows
set_option maxRecDepth 1000000
namespace Mine
section
variable {p : Program} {w : World} {n₀ : Nat} {ann : Option Value} {c : Code} {q : Pos} {α β : Type}
theorem zip_items {env : Env} {ps : Pos} : ∀ xs : List En, (evalEachOpt (xs.map fun x => some x.key) env).zip ((evalEach (xs.map fun x => x.val) env).map fun v => do let x ← v; standAt ps; pure x) = xs.map (it env ps)
  | [] => rfl
  | x :: xs => by
    have ih := zip_items (env := env) (ps := ps) xs
    simp only [List.map_cons]
    rw [← ih]
    rfl
theorem goes_at {ps : Pos} {s : Shared} : Goes p w n₀ ann c q (standAt ps) s () s 1 := fun _ _ _ _ _ => ⟨ps, rfl⟩
theorem goes_dict {env : Env} {dp : Pos} {xs : List En} {s s' : Shared} {r : Value} {n : Nat} (h : Goes p w n₀ ann c q (dictDisplay (xs.map (it env dp))) s r s' n) : Goes p w n₀ ann c q (eval (.Dict (xs.map fun x => some x.key) (xs.map fun x => x.val) dp) env) s r s' (1 + n) := by
  have e : eval (.Dict (xs.map fun x => some x.key) (xs.map fun x => x.val) dp) env = (do standAt dp; dictDisplay ((evalEachOpt (xs.map fun x => some x.key) env).zip ((evalEach (xs.map fun x => x.val) env).map fun v => do let x ← v; standAt dp; pure x))) := rfl
  rw [e, zip_items]
  exact goes_bind goes_at h
/-- what is left of the statement behind its value -/
noncomputable def tailOf (id : Str) (np : Pos) (env : Env) (v : Value) : Sem Flow := assignStores env v none ((assignEach [.Name id np] env).map (·.2))
theorem seg_dict {env : Env} {dp ap np pos : Pos} {id : Str} {xs : List En} {s s' : Shared} {v : Value} {n N : Nat} {r : Flow × Shared × Code × Pos} (h : Goes p w n₀ ann c q (dictDisplay (xs.map (it env dp))) s v s' n)
    (k : ∀ pos', segRun treeTable p w n₀ ann 1 N s' ⟨(tailOf id np env v).wrap doneF deadEnd _root_.id _root_.id, c, pos', [topFrame q]⟩ = some r) :
    segRun treeTable p w n₀ ann 1 (1 + (1 + n) + N) s (pieceOf (.Assign [.Name id np] (.Dict (xs.map fun x => some x.key) (xs.map fun x => x.val) dp) ap) env c pos [topFrame q]) = some r := by
  have e : exec (.Assign [.Name id np] (.Dict (xs.map fun x => some x.key) (xs.map fun x => x.val) dp) ap) env = ((standAt ap >>= fun _ => eval (.Dict (xs.map fun x => some x.key) (xs.map fun x => x.val) dp) env) >>= tailOf id np env) := rfl
  have g := goes_bind (goes_at (p := p) (w := w) (n₀ := n₀) (ann := ann) (c := c) (q := q) (ps := ap) (s := s)) (goes_dict h) (f := fun _ => eval (.Dict (xs.map fun x => some x.key) (xs.map fun x => x.val) dp) env)
  obtain ⟨pos', g'⟩ := g (fun a => (tailOf id np env a).wrap doneF deadEnd _root_.id _root_.id) (fun e => (Sem.raise e : Sem Flow).wrap doneF deadEnd _root_.id _root_.id) _root_.id _root_.id pos
  refine seg_go (s' := s') (t' := ⟨(tailOf id np env v).wrap doneF deadEnd _root_.id _root_.id, c, pos', [topFrame q]⟩) ?_ (k pos')
  show segGo treeTable p w n₀ ann 1 _ s ⟨(exec _ env).wrap doneF deadEnd _root_.id _root_.id, c, pos, [topFrame q]⟩ = _
  rw [e, Sem.bind_eq_wrap', Sem.wrap_wrap]
  exact g'
end
end Mine
end
section
open PySem PySem.W PyProof.Rows
set_option maxRecDepth 1000000
namespace Mine
noncomputable section
noncomputable def envG : Env := { scope := PG.main.scope, locals := mainNs, globals := mainNs, cells := [], code := .ref 13, frame := some 14 }
noncomputable def bdG : List Stmt := behindTheImports PG
noncomputable abbrev cG : Code := .body bdG envG
noncomputable abbrev pos0 : Pos := ⟨0, 0, 0, 0⟩
noncomputable abbrev pDict : Pos := ⟨41, 0, 41, 13⟩
noncomputable def dSt : Stmt := .Assign [.Name "b3_exceptions" pDict] (.Dict (eAll.map fun x => some x.key) (eAll.map fun x => x.val) ⟨41, 16, 41, 8704⟩) ⟨41, 0, 41, 8704⟩
theorem bd_split : bdG = bdG.take 6 ++ (dSt :: (bdG.drop 7 ++ [])) := by kernel_rfl
theorem g_pre (w : World) (os : OsState) : topGo treeTable PG w 11 (some (.ref 6)) 12 ⟨boot_heap w.params, ⟨[]⟩, boot_drawn, boot_toks, os⟩ (topStub PG) = some (⟨hA w.params, ⟨[]⟩, {}, 187, os⟩, ⟨denote treeTable cG, cG, pos0, [topFrame pos0]⟩) := by kernel_rfl
theorem g_block (w : World) (os : OsState) : segRun treeTable PG w 11 (some (.ref 6)) 1 1 ⟨hA w.params, ⟨[]⟩, {}, 187, os⟩ (blockOf bdG envG cG pos0 [topFrame pos0]) = some (.next, ⟨hA w.params, ⟨[]⟩, {}, 187, os⟩, cG, pos0) := by kernel_rfl
theorem g_one (w : World) (os : OsState) : segRun treeTable PG w 11 (some (.ref 6)) 1 103 ⟨hA w.params, ⟨[]⟩, {}, 187, os⟩ (piecesOf (bdG.take 6) envG cG pos0 [topFrame pos0]) = some (.next, ⟨⟨(bB w.params).toArray, {}⟩, ⟨[]⟩, {}, 217, os⟩, cG, ⟨40, 0, 40, 8⟩) := by kernel_rfl
/-- keys that rise -/
noncomputable def asc : Nat → List En → Bool
  | _, [] => true
  | a, x :: r => Nat.blt a x.k && asc x.k r
theorem asc_spec : ∀ {a : Nat} {l : List En}, asc a l = true → (∀ x ∈ l, a < x.k) ∧ l.Pairwise fun x y => x.k < y.k
  | a, [], _ => ⟨fun x h => (nomatch h), List.Pairwise.nil⟩
  | a, x :: r, h => by
    unfold asc at h
    rw [Bool.and_eq_true] at h
    have h1 : a < x.k := Nat.lt_of_lt_of_le (Nat.lt_succ_self a) (Nat.le_of_ble_eq_true h.1)
    obtain ⟨h2, h3⟩ := asc_spec h.2
    refine ⟨fun y hy => ?_, List.pairwise_cons.mpr ⟨h2, h3⟩⟩
    rcases List.mem_cons.mp hy with rfl | hy
    · exact h1
    · exact Nat.lt_trans h1 (h2 y hy)
theorem all_asc : asc 0 eAll = true := by kernel_rfl
theorem all_rise : Rise eAll := (asc_spec all_asc).2.imp fun h => Nat.ne_of_lt h
theorem all_small : ∀ x ∈ eAll, x.k < 2 ^ 61 - 1 := by
  have h : (eAll.all fun x => Nat.blt x.k (2 ^ 61 - 1)) = true := by kernel_rfl
  intro x hx
  exact Nat.lt_of_lt_of_le (Nat.lt_succ_self _) (Nat.le_of_ble_eq_true (List.all_eq_true.mp h x hx))
theorem all_17 : ∀ y ∈ eM, y.length = 17 := by
  have h : (eM.all fun y => Nat.beq y.length 17) = true := by kernel_rfl
  intro y hy
  exact Nat.eq_of_beq_eq_true (List.all_eq_true.mp h y hy)
theorem g_tail (w : World) (os : OsState) (pos' : Pos) : segRun treeTable PG w 11 (some (.ref 6)) 1 8 ⟨hp (bB w.params) (D ES 650) SB {}, ⟨[]⟩, {}, 2167, os⟩ ⟨(tailOf "b3_exceptions" pDict envG (.ref 29)).wrap doneF deadEnd id id, cG, pos', [topFrame pos0]⟩ = some (.next, ⟨hC w.params, ⟨[]⟩, {}, 2168, os⟩, cG, pDict) := by kernel_rfl
theorem b_len (P : Params) : (bB P).length = 29 := rfl
theorem g_disp (w : World) (os : OsState) : Goes PG w 11 (some (.ref 6)) cG pos0 (dictDisplay (eAll.map (it envG ⟨41, 16, 41, 8704⟩))) ⟨⟨(bB w.params).toArray, {}⟩, ⟨[]⟩, {}, 217, os⟩ (.ref 29) ⟨hp (bB w.params) (D ES 650) SB {}, ⟨[]⟩, {}, 2167, os⟩ 12515 := by
  have h := goes_display (p := PG) (w := w) (n₀ := 11) (ann := some (.ref 6)) (c := cG) (q := pos0) (env := envG) (ps := ⟨41, 16, 41, 8704⟩) (bs := bB w.params) (l := {}) (s := ⟨⟨(bB w.params).toArray, {}⟩, ⟨[]⟩, {}, 217, os⟩) (t := 217) (x₀ := e0) (z := e38) (cs := eM)
    (by rw [b_len]; omega) (fun k => by rw [b_len, beq_eq_false_iff_ne]; show (29 + (k + 1) : Nat) ≠ 1; omega) rfl ⟨by decide, by decide⟩ all_17 (by decide) all_rise all_small
  have e1 : hp (bB w.params) (D (ents 217 e0 ++ ents (217 + 51) eM.flatten ++ entsS (217 + 51 + 51 * eM.length) e38) (17 + 17 * eM.length + e38.length)) (subs (217 + 51) eM ++ [D (entsS (217 + 51 + 51 * eM.length) e38) e38.length]) {} = hp (bB w.params) (D ES 650) SB {} := by kernel_rfl
  rw [e1, b_len] at h
  exact h
theorem g_dict (w : World) (os : OsState) : segRun treeTable PG w 11 (some (.ref 6)) 1 (1 + (1 + 12515) + 8) ⟨⟨(bB w.params).toArray, {}⟩, ⟨[]⟩, {}, 217, os⟩ (pieceOf dSt envG cG ⟨40, 0, 40, 8⟩ [topFrame pos0]) = some (.next, ⟨hC w.params, ⟨[]⟩, {}, 2168, os⟩, cG, pDict) := by
  unfold dSt
  exact seg_dict (n := 12515) (N := 8) (xs := eAll) (g_disp w os) (g_tail w os)
theorem g_rest (w : World) (os : OsState) : segRun treeTable PG w 11 (some (.ref 6)) 1 280 ⟨hC w.params, ⟨[]⟩, {}, 2168, os⟩ (piecesOf (bdG.drop 7) envG cG pDict [topFrame pos0]) = some (.next, ⟨hF w.params, ⟨[]⟩, {}, 2248, os⟩, cG, ⟨102, 0, 118, 15⟩) := by kernel_rfl
theorem g_fin (w : World) (os : OsState) : topRun treeTable PG w 11 (some (.ref 6)) 2 ⟨hF w.params, ⟨[]⟩, {}, 2248, os⟩ ⟨doneF .next, cG, ⟨102, 0, 118, 15⟩, [topFrame pos0]⟩ = some ⟨hF w.params, ⟨[]⟩, {}, 2248, os⟩ := by kernel_rfl
theorem g_run (w : World) (os : OsState) : topRun treeTable PG w 11 (some (.ref 6)) (12 + (1 + (103 + ((1 + (1 + 12515) + 8) + (280 + 2))))) ⟨boot_heap w.params, ⟨[]⟩, boot_drawn, boot_toks, os⟩ (topStub PG) = some ⟨hF w.params, ⟨[]⟩, {}, 2248, os⟩ := by
  refine go_top (g_pre w os) (piece_block (g_block w os) ?_)
  have k := piece_app (g_one w os) (piece_cons (g_dict w os) (piece_app (g_rest w os) (piece_nil (g_fin w os))))
  rw [← bd_split] at k
  exact k
end
end Mine
end
section
open PySem PySem.W PyProof.Rows
set_option maxRecDepth 1000000
namespace Mine
noncomputable section
theorem hasK : ∀ P, asK = (fragG P).map (·.1) := fun _ => by kernel_rfl
noncomputable abbrev HK : Hook := kHook fragG asK hasK
noncomputable abbrev looseG : List Str := [Str.ofString "b3_exceptions"]
noncomputable abbrev XtG : Shared → Bool := fun s => xlAt vw [] s && recOk (RowW.records PySem.Challenge.rw_uy0009_02.row.toRowW) s
theorem g_open : ∀ w : World, (fencedOpening treeTable PG w 30000).map (fun s => (s.heap, s.gens, s.drawn, s.toks)) = some (boot_heap w.params, Array.mk [], boot_drawn, boot_toks) := boot_open (by kernel_rfl) (by decide) (fun _ => by kernel_rfl)
theorem g_size (w : World) : ((boot_heap w.params).isNs mainGlobals && (Array.mk [] : Array GenState).size == 0, (boot_heap w.params).objs.size, (boot_heap w.params).nsMap mainGlobals "__annotations__") = (true, 11, some (.ref 6)) := by kernel_rfl
theorem g_look1 (w : World) : (fun os : OsState => (staticsOk (importedModules PG.main.body) (boot_heap w.params) (hF w.params) && namesBound PG (hF w.params) && gensDone ⟨hF w.params, ⟨[]⟩, {}, 2248, os⟩ && laidKept (boot_heap w.params) (hF w.params))) = fun _ => true := by kernel_rfl
theorem g_look2 (w : World) : (fun os : OsState => HK.obs ⟨hF w.params, ⟨[]⟩, {}, 2248, os⟩) = fun _ => HK.val w := by kernel_rfl
theorem g_look3 (w : World) : (fun os : OsState => openSeen vw looseG (importedModules PG.main.body) XtG true ⟨hF w.params, ⟨[]⟩, {}, 2248, os⟩) = fun _ => openGood vw looseG := by kernel_rfl
theorem g_left : LeftO PG vw looseG XtG HK.obs HK.val 30000 :=
  LeftO.of_pieces (H₀ := boot_heap) (H₁ := hF) (gs₀ := ⟨[]⟩) (gs₁ := ⟨[]⟩) (d₀ := boot_drawn) (d₁ := {}) (k₀ := boot_toks) (k₁ := 2248) (m₀ := 11) (ann := some (.ref 6)) (M := 12 + (1 + (103 + ((1 + (1 + 12515) + 8) + (280 + 2)))))
    g_open g_size g_run (by decide) (fun w => funext fun os => by
      rw [Prod.mk.injEq, Prod.mk.injEq]
      exact ⟨congrFun (g_look1 w) os, congrFun (g_look3 w) os, congrFun (g_look2 w) os⟩)
end
end Mine
end
section
open PySem PySem.W PyProof.Rows
set_option maxRecDepth 1000000
namespace Mine
-- the law is well said: each look by the kernel alone (o_law's twins of the whole text would cost 6 MB)
set_option maxHeartbeats 4000000 in
theorem okG : OpenLaw.wellSaid PySem.Challenge.rw_uy0009_02 = true := by
  unfold OpenLaw.wellSaid
  repeat' (first
    | with_reducible refine look_both ?_ ?_
    | (with_reducible show OpenRow.wellSaid _ = true; unfold OpenRow.wellSaid)
    | (with_reducible show OpenRow.partSaid _ = true; unfold OpenRow.partSaid)
    | (with_reducible show looksOpen _ = true; unfold looksOpen))
  all_goals decide +kernel
theorem hd {d : DefRec} {kwd : List (Str × Expr)} (hdef : defOf vw (Str.ofString "law") = some (d, kwd)) (hp : PG.theDef (Str.ofString "law") = some (d.params, d.body, d.scope)) (hk : kwWritten? d.params.kwonlyargs d.params.kw_defaults = some kwd)
    (walk : WalkO vw looseG (XL vw []) HK.says PySem.Challenge.rw_uy0009_02.row.toRowW d kwd fun f vs => PySem.call f vs) : PySem.Challenge.rw_uy0009_02.Holds := by
  w_on
  refine holds_law okG fun said => ?_
  refine holds_open (q := vw) (loose := looseG) (Xt := XtG) (XP := XL vw []) (Yf := HK.obs) (Ya := HK.val) (YP := HK.says) (N := 30000) g_left HK.of HK.keeps (fun s e => xl_of s (Bool.and_eq_true_iff.mp e).1) XL.keeps hdef hp hk (fun s e => recFacts_of (Bool.and_eq_true_iff.mp e).2) (by rfl) (by first | assumption | decide +kernel) (by decide +kernel) ⟨rfl, rfl, rfl, rfl, rfl, by decide +kernel⟩ ?hw walk
  case hw => w_witness2
end Mine
end
section
open PySem PySem.W PyProof.Rows PySem.Calls
set_option maxRecDepth 1000000
namespace Mine
theorem ents_mem : ∀ {t : Nat} {l : List En} {e : DictEntry}, e ∈ ents t l → ∃ x ∈ l, ∃ ti v, e = ⟨x.k, .int x.k ti, v⟩
  | _, [], _, h => absurd h List.not_mem_nil
  | t, x :: l, e, h => by
    rcases List.mem_cons.mp h with rfl | h
    · exact ⟨x, List.mem_cons_self, _, _, rfl⟩
    · obtain ⟨y, hy, r⟩ := ents_mem h
      exact ⟨y, List.mem_cons_of_mem _ hy, r⟩
theorem entsS_mem : ∀ {t : Nat} {l : List En} {e : DictEntry}, e ∈ entsS t l → ∃ x ∈ l, ∃ ti v, e = ⟨x.k, .int x.k ti, v⟩
  | _, [], _, h => absurd h List.not_mem_nil
  | t, x :: l, e, h => by
    rcases List.mem_cons.mp h with rfl | h
    · exact ⟨x, List.mem_cons_self, _, _, rfl⟩
    · obtain ⟨y, hy, r⟩ := entsS_mem h
      exact ⟨y, List.mem_cons_of_mem _ hy, r⟩
theorem es_mem {e : DictEntry} (h : e ∈ ES) : ∃ x ∈ eAll, ∃ ti v, e = ⟨x.k, .int x.k ti, v⟩ := by
  unfold ES at h
  rcases List.mem_append.mp h with h | h
  · rcases List.mem_append.mp h with h | h
    · obtain ⟨x, hx, r⟩ := ents_mem h
      exact ⟨x, List.mem_append.mpr (.inl hx), r⟩
    · obtain ⟨x, hx, r⟩ := ents_mem h
      exact ⟨x, List.mem_append.mpr (.inr (List.mem_append.mpr (.inl hx))), r⟩
  · obtain ⟨x, hx, r⟩ := entsS_mem h
    exact ⟨x, List.mem_append.mpr (.inr (List.mem_append.mpr (.inr hx))), r⟩
theorem hashInt_id {k : Int} (h0 : 0 ≤ k) (h1 : k < 2 ^ 61 - 1) : hashInt k = k := by
  unfold hashInt rawHash
  have e2 : ((k.natAbs : Int) % ((2 ^ 61 - 1 : Nat) : Int)) = k := by omega
  have e3 : ((k.natAbs % (2 ^ 61 - 1) : Nat) : Int) = k := by omega
  have e1 : (k == -1) = false := by simp; omega
  simp [e1, e3, if_neg (show ¬ k < 0 by omega)]
  omega
section
variable {prog : Program} {w : World} {A : Around} {E : Value → Shared → Prop} {s : Shared} {h₀ h : Heap} {L : Addr} {m : Str → Option Value} {t : Tok}
theorem b3_map (F : Fr h₀ L h m) (X : (fragG w.params).In h₀) : h.MapOf (intKind prog w) 29 (fun k => findBy Value.isInt ES.toArray k) :=
  ⟨_, _, _, (X.keeps F.keep) 29 (D ES 650) (by kernel_rfl), ⟨rfl, rfl, rfl⟩, rfl, fun e he => by
    obtain ⟨x, hx, ti, v, rfl⟩ := es_mem (Array.mem_toList_iff.mpr he)
    exact ⟨x.k, intKind_is prog w x.k ti, (hashInt_id (k := x.k) (by omega) (by have := all_small x hx; omega)).symm⟩, fun _ => rfl⟩
theorem b3_method {pl : Sem Bool} {Q : Value × List Value → Shared → Prop} (F : Fr h₀ L s.heap m) (X : (fragG w.params).In h₀) (h : Q (.builtin "dict.get", [.ref 29]) s) : wpAny (model prog w) A (getMethod (.ref 29) (Str.ofString "get") pl) Q E s :=
  have hm := b3_map (prog := prog) F X
  getMethod_builtin hm.typeIs PySem.F.plainAttrs_dict PySem.F.slot_dict_get PySem.F.type_dict_get hm.noDict h
theorem b3_get {k : Int} {x : Option Value} {Q : Value → Shared → Prop} (F : Fr h₀ L s.heap m) (X : (fragG w.params).In h₀) (hl : findBy Value.isInt ES.toArray k = x) (h : Q (x.getD .none) { s with toks := s.toks + 1 }) :
    wpAny (model prog w) A (call (.builtin "dict.get") [.ref 29, .int k t]) Q E s :=
  have hm := b3_map (prog := prog) F X
  call_meetsIn PySem.F.slot_dict_get hm.typeIs PySem.F.entry_dict_get (PySem.F.args_dict_get_2 _ _) (meets_dict_get (intKind prog w) 29 (intKind_is prog w k t) rfl) ⟨_, hm, by rw [hl]; exact h⟩
end
end Mine
end
section
open PySem PySem.W PyProof.Rows
set_option maxRecDepth 100000
set_option maxHeartbeats 8000000
namespace Mine
theorem filledK : PySem.Challenge.rw_uy0009_02 = PySem.Challenge.rw_uy0009_02 ∧ fragG = fragG := by k_fill; exact ⟨rfl, rfl⟩
section
variable (w : World) (loose : List Str) (mean : ExcName → Option Value) (mg mb : Str → Option Value)
/-- the contract of a def: it needs r frames' room; from these values it hands back that one, and leaves all else as it stood -/
noncomputable abbrev Ct (r : Nat) (f : Addr) (pre : Prop) (vs : List Value) (R : Tok → Value) : Prop :=
  ∀ (news : List (Addr × Obj)) (dp un : Nat) (gd : Option (List Code)) (cn : Str) (cs : Scope) (a : Addr) (ccd : Value) (cl : List (Str × Addr)) (outer : List Env) (A₀ : Around) (base h₀ : Heap) (L : Addr) (m : Str → Option Value) (s : Shared) (Q E : Value → Shared → Prop),
    Below A₀ base outer h₀ → Fr h₀ L s.heap m → (fragG w.params).In h₀ → News h₀ L s.heap news → Top vw loose mean mg mb h₀ → cs.kind = .function →
    pre → dp + r < recursionLimit → un + 8 * r < cLine → CbRet h₀ L m news s Q R →
      wpAny (model PySem.Challenge.rw_uy0009_02.row.prog w) (ktrTop dp un gd cn cs L a ccd cl outer) (call (.ref f) vs) Q E s

theorem Ct.use {w : World} {loose : List Str} {mean : ExcName → Option Value} {mg mb : Str → Option Value} {r : Nat} {f : Addr} {pre : Prop} {vs : List Value} {R : Tok → Value} (C : Ct w loose mean mg mb r f pre vs R)
    {news : List (Addr × Obj)} {dp un : Nat} {gd : Option (List Code)} {cn : Str} {cs : Scope} {a : Addr} {ccd : Value} {cl : List (Str × Addr)} {outer : List Env} {A₀ : Around} {base h₀ : Heap} {L : Addr} {m : Str → Option Value} {s : Shared} {Q E : Value → Shared → Prop}
    (B : Below A₀ base outer h₀) (F : Fr h₀ L s.heap m) (X : (fragG w.params).In h₀) (N : News h₀ L s.heap news) (T : Top vw loose mean mg mb h₀) (hk : cs.kind = .function)
    (hp : pre) (hd : dp + r < recursionLimit) (hu : un + 8 * r < cLine) (ret : CbRet h₀ L m news s Q R) :
    wpAny (model PySem.Challenge.rw_uy0009_02.row.prog w) (ktrTop dp un gd cn cs L a ccd cl outer) (call (.ref f) vs) Q E s :=
  C news dp un gd cn cs a ccd cl outer A₀ base h₀ L m s Q E B F X N T hk hp hd hu ret

local macro_rules | `(tactic| walk_at "exec While Compare cons nil") => `(tactic| k_dflt (k_extra "exec While Compare cons nil"))
end
end Mine
end
section
open PySem PySem.W PyProof.Rows
set_option maxRecDepth 100000
set_option maxHeartbeats 1000000
namespace Mine
section
variable (w : World) (loose : List Str) (mean : ExcName → Option Value) (mg mb : Str → Option Value)
local macro_rules | `(tactic| walk_at "call builtin:str.split") => `(tactic| k_dflt (k_extra "call builtin:str.split"))
local macro_rules | `(tactic| walk_at "pyIter ref") => `(tactic| k_dflt (k_extra "pyIter ref"))
local macro_rules | `(tactic| walk_at "call builtin:len") => `(tactic| k_dflt (k_extra "call builtin:len"))
local macro_rules | `(tactic| walk_at "truthy str") => `(tactic| (refine P.truthy_str (by omega) ?_))
local macro_rules | `(tactic| walk_at "subscriptTail") => `(tactic| k_dflt (k_extra "subscriptTail"))
local macro_rules | `(tactic| walk_at "delItem ref int") => `(tactic| k_dflt (k_extra "delItem"))
local macro_rules | `(tactic| walk_at "call builtin:str.find") => `(tactic| (refine call_find4 ?_))
local macro_rules | `(tactic| walk_at "exec For Name Name cons nil") => `(tactic| k_dflt (k_extra "exec For Name Name cons nil"))
local macro_rules | `(tactic| walk_at "EmPost") => `(tactic| (dsimp only [EmPost]))
local macro_rules | `(tactic| walk_at "EmEnd") => `(tactic| k_dflt (k_extra "EmEnd"))
theorem ct_em (x y : Str) (t u : Tok) : Ct w loose mean mg mb 1 28 (x.length ≤ 1000 ∧ y.length ≤ 1000) [.str x t, .str y u] (fun _ => .bool (em x y)) := by
  intro news dp un gd cn cs a ccd cl outer A₀ base h₀ L m s Q E B F X N T hk hpre hd hu hret
  obtain ⟨hx, hy⟩ := hpre
  refine wpAny_call ?_
  k_dflt cell_enter
  k_with_none
  k_with "call builtin:str.split" => (
    have hc : Txt.contains x dots = true := by unfold Txt.contains; simp_all
    refine split_em (by assumption) (by assumption) hc (by rw [sizeLine_eq]; omega) ?_
    intro D p tp mid q tq h' k es hp hq F' N' lt
    have hap : ∀ z ∈ news, z.1 ≠ D := fun z hz => Nat.ne_of_lt (lt z hz)
    have hlen : mid.length + 2 ≤ 1000 := mid_short hx es
    have hall := all_mid hx es
    have hr0 : (strValues mid ++ [Value.str q tq]).length + 1 ≤ sizeLine := by simp [strValues, sizeLine_eq]; omega
    have hr1 : (strValues mid).length + 1 ≤ sizeLine := by simp [strValues, sizeLine_eq]; omega
    have hr2 : (Value.str p tp :: strValues mid).length + 1 ≤ sizeLine := by simp [strValues, sizeLine_eq]; omega
    have hl2 : (Value.str p tp :: (strValues mid ++ [Value.str q tq])).length = mid.length + 2 := by simp [strValues])
  k_with "call builtin:len" => (refine len_own (by assumption) (by first | exact sub_self _ | exact sub_tail _ _) hl2 (by omega) ?_; intro tn tkn)
  k_with "subscriptTail" => (with_reducible refine item_first (by assumption) (by first | exact sub_self _ | exact sub_tail _ _) ?_)
  k_with "subscriptTail" => (with_reducible refine item_last (vs := Value.str p tp :: strValues mid) (v := Value.str q tq) (by assumption) (by first | exact sub_self _ | exact sub_tail _ _) (List.cons_append).symm ?_)
  k_with "subscriptTail" => (with_reducible refine item_last (vs := strValues mid) (v := Value.str q tq) (by assumption) (by first | exact sub_self _ | exact sub_tail _ _) rfl ?_)
  k_with "delItem" => (with_reducible refine erase_first (by assumption) (by assumption) (by first | exact sub_self _ | exact sub_tail _ _) hap (by assumption) ?_; intro h' F' N')
  k_with "delItem" => (with_reducible refine erase_last (vs := Value.str p tp :: strValues mid) (v := Value.str q tq) (by assumption) (by assumption) (by first | exact sub_self _ | exact sub_tail _ _) (List.cons_append).symm hap (by assumption) ?_; intro h' F' N')
  k_with "delItem" => (with_reducible refine erase_last (vs := strValues mid) (v := Value.str q tq) (by assumption) (by assumption) (by first | exact sub_self _ | exact sub_tail _ _) rfl hap (by assumption) ?_; intro h' F' N')
  k_with "exec For Name Name cons nil" => (refine for_own (by assumption) ?_ (by rfl) (by rfl) (by intro _; rfl) (by passes_own))
  k_with "pyIter ref" => (
    refine em_iter (y := y) (R := em x y) (l := mid) rfl (by assumption) (by assumption) (by first | exact sub_self _ | exact sub_tail _ _) rfl hap (by rfl) (em_c1 hc es (by assumption) (by assumption) (by assumption) (by assumption) (by assumption)) hall.2 ?turn1 ?done1
    case' turn1 => intro q2 tq2 r2 sp2 ts2 h2 tk2 own2 hq2 hem F2 N2
    case' done1 => intro m2 h2 tk2 hR F2 N2)
  k_with "pyIter ref" => (
    refine em_iter (y := y) (R := em x y) (l := mid ++ [(q, tq)]) rfl (by assumption) (by assumption) (by first | exact sub_self _ | exact sub_tail _ _) (by simp [strValues]) hap (by rfl) (em_c2 hc es (by assumption) (by assumption) (by assumption) (by assumption)) (by intro z hz; rcases List.mem_append.mp hz with h | h; exact hall.2 z h; rw [List.mem_singleton.mp h]; exact hall.1.2) ?turn2 ?done2
    case' turn2 => intro q2 tq2 r2 sp2 ts2 h2 tk2 own2 hq2 hem F2 N2
    case' done2 => intro m2 h2 tk2 hR F2 N2)
  k_with "pyIter ref" => (
    refine em_iter (y := y) (R := em x y) (l := (p, tp) :: mid) rfl (by assumption) (by assumption) (by first | exact sub_self _ | exact sub_tail _ _) rfl hap (by rfl) (em_c3 hc es (by assumption) (by assumption) (by assumption) (by assumption)) (by intro z hz; rcases List.mem_cons.mp hz with h | h; rw [h]; exact hall.1.1; exact hall.2 z h) ?turn3 ?done3
    case' turn3 => intro q2 tq2 r2 sp2 ts2 h2 tk2 own2 hq2 hem F2 N2
    case' done3 => intro m2 h2 tk2 hR F2 N2)
  k_with "pyIter ref" => (
    refine em_iter (y := y) (R := em x y) (l := (p, tp) :: (mid ++ [(q, tq)])) rfl (by assumption) (by assumption) (by first | exact sub_self _ | exact sub_tail _ _) (by simp [strValues]) hap (by rfl) (em_c4 hc es (by assumption) (by assumption)) (by intro z hz; rcases List.mem_cons.mp hz with h | h; rw [h]; exact hall.1.1; rcases List.mem_append.mp h with h | h; exact hall.2 z h; rw [List.mem_singleton.mp h]; exact hall.1.2) ?turn4 ?done4
    case' turn4 => intro q2 tq2 r2 sp2 ts2 h2 tk2 own2 hq2 hem F2 N2
    case' done4 => intro m2 h2 tk2 hR F2 N2)
  k_with "EmEnd" => (refine em_end (by assumption) (by assumption) (by first | exact sub_self _ | exact sub_tail _ _) (em_step hem (by assumption)) (by rfl) ?_; intro z h1 h2; simp only [if_neg h1, if_neg h2])
  k_steps
  all_goals (
    refine cb_retB (Q := Q) hret ?_ (by assumption) (by first | assumption | exact cb_drop (by assumption) (sub_tail _ _) | exact cb_drop (by assumption) (fun p h => List.mem_append.mpr (.inl h)) | exact cb_drop (by assumption) (fun p h => List.mem_cons_of_mem _ (List.mem_cons_of_mem _ h)))
    first
    | exact em_e0 (by assumption)
    | exact (em_stop hem (by assumption))
    | exact hR.symm
    | exact em_f1 hc es (by assumption) (by assumption)
    | exact em_f2 hc es (by assumption) (by assumption) (by assumption) (by assumption)
    | exact em_f3 hc es (by assumption) (by assumption) (by assumption)
    | exact em_f4 hc es (by assumption) (by assumption) (by assumption) (by assumption) (by assumption)
    | exact em_f5 hc es (by assumption) (by assumption) (by assumption) (by assumption)
    | exact em_f6 hc es (by assumption) (by assumption) (by assumption) (by assumption)
)
end
end Mine
end
section
open PySem PySem.W PyProof.Rows
set_option maxRecDepth 100000
set_option maxHeartbeats 1000000
namespace Mine
section
variable (w : World) (loose : List Str) (mean : ExcName → Option Value) (mg mb : Str → Option Value)
local macro_rules | `(tactic| walk_at "exec While Name cons nil") => `(tactic| k_dflt (k_extra "exec While Name cons nil"))
local macro_rules | `(tactic| walk_at "subscriptTail Name Slice bytes ref") => `(tactic| k_dflt (k_extra "subscriptTail Name Slice bytes ref"))
local macro_rules | `(tactic| walk_at "binaryOp Add bytes bytes") => `(tactic| k_dflt (k_extra "binaryOp Add bytes bytes"))
theorem ct_ap (n : Int) (t : Tok) : Ct w loose mean mg mb 1 21 (n.natAbs < 2 ^ 100) [.int n t] (fun t => .bytes (ap n.natAbs).toArray t) := by
  intro news dp un gd cn cs a ccd cl outer A₀ base h₀ L m s Q E B F X N T hk hpre hd hu hret
  refine wpAny_call ?_
  k_dflt cell_enter
  k_with_none
  k_with "exec While Name cons nil" => k_while (fun _ num val => ApInv n num val) (fun _ num _ => num.toNat) "num" "val"
  k_with "subscriptTail Name Slice bytes ref" => (
    rename ApInv n _ _ => hI
    (with_reducible rename Fr _ _ _ _ => F')
    (with_reducible rename News _ _ _ _ => N')
    refine KBc.slice_K (s := ⟨_, _, _, _, _⟩) F' N' rfl (by constructor) (by constructor) (by decide) ?_
    intro h8 t8 k8 F8 N8 _
    rw [ap_pick hI.1]
    clear F' N')
  k_with "binaryOp Add bytes bytes" => (refine KBy.add_bytes (by have := ap_size hI hpre; simp only [List.size_toArray, List.length_cons, List.length_nil]; omega) ?_; intro t9 k9)
  k_with "state" => first | exact ap_start n _ (by omega) | exact ap_turn (by assumption) (by assumption)
  k_with "measure" => first | exact ap_less (by assumption) (by assumption)
  k_steps
  rename ApInv n _ _ => hI
  first | rw [ap_end hI (by assumption)]
  exact hret _ _ _ (by assumption) (by assumption)
end
end Mine
end
section
open PySem PySem.W PyProof.Rows
set_option maxRecDepth 100000
set_option maxHeartbeats 1000000
namespace Mine
/-- the root grows by halves -/
noncomputable def RootInv (n r s : Int) : Prop := 0 ≤ r ∧ r ≤ 32768 ∧ r * r ≤ n ∧ ((s = 0 ∧ n < (r + 1) * (r + 1)) ∨ (n < (r + 2 * s) * (r + 2 * s) ∧ ∃ i : Nat, i ≤ 14 ∧ s = 2 ^ i ∧ r + 2 * s ≤ 32768))
theorem root_start {n : Int} (h : 0 ≤ n ∧ n < 2 ^ 30) : RootInv n 0 16384 := ⟨by omega, by omega, by omega, .inr ⟨by omega, 14, by omega, by decide, by omega⟩⟩
theorem root_half {s : Int} {i : Nat} (h : s = 2 ^ i) : (s = 1 ∧ s.fdiv 2 = 0) ∨ (∃ j : Nat, i = j + 1 ∧ s.fdiv 2 = 2 ^ j ∧ 2 * s.fdiv 2 = s) := by
  rw [Int.fdiv_eq_ediv_of_nonneg _ (by omega)]
  cases i with
  | zero => left; subst h; decide
  | succ j =>
    right
    have e : s = 2 * 2 ^ j := by rw [h, Int.pow_succ]; omega
    exact ⟨j, rfl, by omega, by omega⟩
theorem root_turn1 {n r s : Int} (h : RootInv n r s) (h0 : 0 < s) (hq : (r + s) ^ Int.toNat 2 ≤ n) : RootInv n (r + s) (s.fdiv 2) := by
  obtain ⟨r0, r1, r2, h3⟩ := h
  have hq' : (r + s) * (r + s) ≤ n := by
    have e : (r + s) ^ Int.toNat 2 = (r + s) * (r + s) := by show (r + s) ^ 2 = _; grind
    rw [e] at hq; exact hq
  rcases h3 with ⟨e, _⟩ | ⟨h4, i, hi, hs, hb⟩
  · omega
  rcases root_half hs with ⟨e1, e2⟩ | ⟨j, rfl, e2, e3⟩
  · rw [e2]
    have q : r + s + 1 = r + 2 * s := by omega
    exact ⟨by omega, by omega, hq', .inl ⟨rfl, by rw [q]; exact h4⟩⟩
  · refine ⟨by omega, by omega, hq', .inr ⟨?_, j, by omega, e2, by omega⟩⟩
    have q : r + s + 2 * s.fdiv 2 = r + 2 * s := by omega
    rw [q]; exact h4
theorem root_turn2 {n r s : Int} (h : RootInv n r s) (h0 : 0 < s) (hq : ¬ (r + s) ^ Int.toNat 2 ≤ n) : RootInv n r (s.fdiv 2) := by
  obtain ⟨r0, r1, r2, h3⟩ := h
  have hq' : n < (r + s) * (r + s) := by
    have e : (r + s) ^ Int.toNat 2 = (r + s) * (r + s) := by show (r + s) ^ 2 = _; grind
    rw [e] at hq; omega
  rcases h3 with ⟨e, _⟩ | ⟨h4, i, hi, hs, hb⟩
  · omega
  rcases root_half hs with ⟨e1, e2⟩ | ⟨j, rfl, e2, e3⟩
  · rw [e2]
    exact ⟨r0, r1, r2, .inl ⟨rfl, by rw [e1] at hq'; exact hq'⟩⟩
  · refine ⟨r0, r1, r2, .inr ⟨?_, j, by omega, e2, by omega⟩⟩
    rw [e3]; exact hq'
theorem root_less {n r s : Int} (h : RootInv n r s) (h0 : 0 < s) : (s.fdiv 2).toNat < s.toNat := by
  rw [Int.fdiv_eq_ediv_of_nonneg _ (by omega)]; omega
theorem root_room {n r s : Int} (h : RootInv n r s) (h0 : 0 < s) : (r + s).natAbs < 2 ^ 64 := by
  obtain ⟨r0, r1, r2, h3⟩ := h
  rcases h3 with ⟨e, _⟩ | ⟨h4, i, hi, hs, hb⟩ <;> omega
theorem root_end {n r s q : Int} (h : RootInv n r s) (h0 : ¬ 0 < s) (hr : Root q n) : r = q := by
  obtain ⟨r0, r1, r2, h3⟩ := h
  have h4 : n < (r + 1) * (r + 1) := by
    rcases h3 with ⟨_, h⟩ | ⟨_, i, _, hs, _⟩
    · exact h
    · have : 0 < (2 : Int) ^ i := Int.pow_pos (by omega)
      omega
  obtain ⟨q0, q1, q2⟩ := hr
  have a : ¬ r < q := fun c => by
    have := sq_le (by omega : 0 ≤ r + 1) (by omega : r + 1 ≤ q)
    omega
  have b : ¬ q < r := fun c => by
    have := sq_le (by omega : 0 ≤ q + 1) (by omega : q + 1 ≤ r)
    omega
  omega
section
variable (w : World) (loose : List Str) (mean : ExcName → Option Value) (mg mb : Str → Option Value)
local macro_rules | `(tactic| walk_at "exec While Compare cons nil") => `(tactic| k_dflt (k_extra "exec While Compare cons nil"))
local macro_rules | `(tactic| walk_at "binaryOp Pow int int") => `(tactic| k_dflt (k_extra "pow"))
theorem ct_root (n r : Int) (t : Tok) : Ct w loose mean mg mb 1 88 (n < 2 ^ 30 ∧ Root r n) [.int n t] (fun t => .int r t) := by
  intro news dp un gd cn cs a ccd cl outer A₀ base h₀ L m s Q E B F X N T hk hpre hd hu hret
  refine wpAny_call ?_
  k_dflt cell_enter
  k_with_none
  k_with "exec While Compare cons nil" => k_while (fun number root step => RootInv n root step) (fun number root step => step.toNat) "root" "step"
  have hn : 0 ≤ n ∧ n < 2 ^ 30 := by
    obtain ⟨h1, q0, q1, q2⟩ := hpre
    have := Int.mul_nonneg q0 q0
    omega
  k_with "pow" => (with_reducible refine pow_int_small (by omega) (by omega) (root_room kInv (by first | assumption | (omega))) ?_)
  k_with "state" => first | exact root_start hn | exact root_turn1 (by assumption) (by assumption) (by assumption) | exact root_turn2 (by assumption) (by assumption) (by assumption)
  k_with "measure" => exact root_less (by assumption) (by assumption)
  k_steps
  all_goals (rename RootInv n _ _ => hI; rw [root_end hI (by assumption) hpre.2]; first | exact hret _ _ _ (by assumption) (by assumption) | exact hret _ _ _ (by assumption) (fun p hp => (by assumption : News _ _ _ (_ :: _)) p (List.mem_cons_of_mem _ hp)))
end
end Mine
end
section
open PySem PySem.W PyProof.Rows
set_option maxRecDepth 100000
set_option maxHeartbeats 1000000
namespace Mine
section
variable (w : World) (loose : List Str) (mean : ExcName → Option Value) (mg mb : Str → Option Value)
noncomputable abbrev RetG (h₀ : Heap) (L : Addr) (m : Str → Option Value) (news : List (Addr × Obj)) (s : Shared) (Q : Value → Shared → Prop) (P : Value → List (Addr × Obj) → Prop) : Prop :=
  ∀ (v : Value) (own : List (Addr × Obj)) (h' : Heap) (tk' : Nat), P v own → (∀ p ∈ own, AllLt p.1 news) → Fr h₀ L h' m → News h₀ L h' (own ++ news) → Q v { s with heap := h', toks := tk' }
/-- the contract of a def that reads objects of the ledger and may hand back new ones -/
noncomputable abbrev CtG (r : Nat) (f : Addr) (pre : List (Addr × Obj) → Prop) (vs : List Value) (P : Value → List (Addr × Obj) → Prop) : Prop :=
  ∀ (news : List (Addr × Obj)) (dp un : Nat) (gd : Option (List Code)) (cn : Str) (cs : Scope) (a : Addr) (ccd : Value) (cl : List (Str × Addr)) (outer : List Env) (A₀ : Around) (base h₀ : Heap) (L : Addr) (m : Str → Option Value) (s : Shared) (Q E : Value → Shared → Prop),
    Below A₀ base outer h₀ → Fr h₀ L s.heap m → (fragG w.params).In h₀ → News h₀ L s.heap news → Top vw loose mean mg mb h₀ → cs.kind = .function →
    pre news → dp + r < recursionLimit → un + 8 * r < cLine → RetG h₀ L m news s Q P →
      wpAny (model PySem.Challenge.rw_uy0009_02.row.prog w) (ktrTop dp un gd cn cs L a ccd cl outer) (call (.ref f) vs) Q E s
theorem CtG.use {w : World} {loose : List Str} {mean : ExcName → Option Value} {mg mb : Str → Option Value} {r : Nat} {f : Addr} {pre : List (Addr × Obj) → Prop} {vs : List Value} {P : Value → List (Addr × Obj) → Prop} (C : CtG w loose mean mg mb r f pre vs P)
    {news : List (Addr × Obj)} {dp un : Nat} {gd : Option (List Code)} {cn : Str} {cs : Scope} {a : Addr} {ccd : Value} {cl : List (Str × Addr)} {outer : List Env} {A₀ : Around} {base h₀ : Heap} {L : Addr} {m : Str → Option Value} {s : Shared} {Q E : Value → Shared → Prop}
    (B : Below A₀ base outer h₀) (F : Fr h₀ L s.heap m) (X : (fragG w.params).In h₀) (N : News h₀ L s.heap news) (T : Top vw loose mean mg mb h₀) (hk : cs.kind = .function)
    (hp : pre news) (hd : dp + r < recursionLimit) (hu : un + 8 * r < cLine) (ret : RetG h₀ L m news s Q P) :
    wpAny (model PySem.Challenge.rw_uy0009_02.row.prog w) (ktrTop dp un gd cn cs L a ccd cl outer) (call (.ref f) vs) Q E s :=
  C news dp un gd cn cs a ccd cl outer A₀ base h₀ L m s Q E B F X N T hk hp hd hu ret
/-- a list or a tuple of two ints -/
noncomputable def PairObj (o : Obj) (a b : Int) : Prop := ∃ ta tb c, o = W.listOf #[.int a ta, .int b tb] c ∨ o = ({ cls := .type "tuple", data := .seq #[.int a ta, .int b tb] c } : Obj)
noncomputable abbrev tupO (vs : List Value) (c : Nat) : Obj := { cls := .type "tuple", data := .seq vs.toArray c }
/-- the weights, the greatest first -/
noncomputable def wls (t : Int) : Nat → List Int
  | 0 => []
  | l + 1 => wt t l :: wls t l
structure WtOk (t : Int) (ws : List Value) (L : Nat) : Prop where
  are : IntsAre ws (wls t L)
  big : 20000 < wt t L
  two : 2 ≤ L
  small : L ≤ 24
  low : wt t (L - 2) ≤ 20000
  big1 : 20000 < wt t (L - 1)
/-- what the sign's table maps a code to -/
noncomputable def B3 (c : Nat) (l : List Nat) : Prop := (∃ tv, findBy Value.isInt ES.toArray (c : Int) = some (.str ⟨l.toArray⟩ tv)) ∨ (findBy Value.isInt ES.toArray (c : Int) = none ∧ 65 ≤ c ∧ c ≤ 90 ∧ l = [c + 32])
structure SignOk (t : Int) (x y sg al : Nat) : Prop where
  ne : x ≠ y
  sign : B3 sg (if t = 1 then [x, y] else [x, x, y])
  alone : B3 al [x]
noncomputable abbrev T12 (t : Int) : Prop := t = 1 ∨ t = 2
noncomputable abbrev InR (a b : Int) : Prop := (0 ≤ a ∧ a < 20000) ∧ (0 ≤ b ∧ b < 20000)
noncomputable abbrev LostU (t a b : Int) : Prop := Lost t (min a b) (max a b)
inductive SignV (kind : Int) (v : Value) (own : List (Addr × Obj)) : Prop
  | mk (D1 D2 : Addr) (x y sg al : Nat) (t1 t2 t3 : Tok) (c1 c2 : Nat) (hv : v = .ref D1) (hw : own = [(D1, tupO [.str ⟨#[x, y]⟩ t1, .ref D2] c1), (D2, tupO [.str ⟨#[sg]⟩ t2, .str ⟨#[al]⟩ t3] c2)]) (hs : SignOk (1 + kind.fmod 2) x y sg al) : SignV kind v own
inductive PosV (t k : Int) (v : Value) (own : List (Addr × Obj)) : Prop
  | mk (D : Addr) (l g : Int) (ta tb : Tok) (c : Nat) (hv : v = .ref D) (hw : own = [(D, W.listOf #[.int l ta, .int g tb] c)]) (hr : ∃ r, Root r ((t * t + 4) * k * k) ∧ l = ((2 - t) * k + r).fdiv 2) (hg : g = l + t * k) : PosV t k v own
inductive PairV (R : Int → Int → Prop) (v : Value) (own : List (Addr × Obj)) : Prop
  | mk (D : Addr) (o : Obj) (a b : Int) (hv : v = .ref D) (hw : own = [(D, o)]) (hp : PairObj o a b) (hi : InR a b) (hR : R a b) : PairV R v own
inductive StrV (x : Str) (v : Value) (own : List (Addr × Obj)) : Prop
  | mk (hw : own = []) (t' : Tok) (hv : v = .str x t') : StrV x v own
inductive BoolV (P : Prop) (v : Value) (own : List (Addr × Obj)) : Prop
  | mk (hw : own = []) (R : Bool) (hv : v = .bool R) (hR : R = true ↔ P) : BoolV P v own
inductive RootV (n : Int) (v : Value) (own : List (Addr × Obj)) : Prop
  | mk (hw : own = []) (r : Int) (t' : Tok) (hv : v = .int r t') (hr : Root r n) : RootV n v own
noncomputable def LostPre (t a b sh : Int) (x y : Nat) (D Wa S : Addr) (news : List (Addr × Obj)) : Prop :=
  T12 t ∧ InR a b ∧ (0 ≤ sh ∧ sh ≤ 13) ∧ (∃ o, (D, o) ∈ news ∧ PairObj o a b) ∧ (∃ ws L c, (Wa, W.listOf ws.toArray c) ∈ news ∧ WtOk t ws L) ∧ (∃ sg al t2 t3 c, (S, tupO [.str ⟨#[sg]⟩ t2, .str ⟨#[al]⟩ t3] c) ∈ news ∧ SignOk t x y sg al)
end
end Mine
end
section
open PySem PySem.W PyProof.Rows PySem.Calls
open AutoSeq1 (wpAny_loadPart')
set_option maxRecDepth 100000
namespace Mine
section
variable {prog : Program} {w : World} {A : Around} {E : Value → Shared → Prop} {s : Shared}
/-- the next item of a tuple's iterator, asked from within -/
theorem tup_nextOf {it t : Addr} {i : Nat} {items : Array Value} {Q : Value → Shared → Prop} (hh : A.handled = none) (hit : s.heap.IsTupleIter it t i) (ht : s.heap.IsTuple t items)
    (hQ : ∀ x, items[i]? = some x → ∀ h', h'.IsTupleIter it t (i + 1) → Heap.SameBut it s.heap h' → Q x { s with heap := h' })
    (hE : items[i]? = none → ∀ h' e, Heap.ExtBut it s.heap h' → (∃ o, h'.get? e = some o ∧ o.cls = .type "StopIteration") → E (.ref e) { s with heap := h' }) :
    wpAny (model prog w) A (Builtin.SmallTypes.nextOf (.ref it)) Q E s := by
  obtain ⟨o, ho, hc, hd⟩ := id hit
  obtain ⟨ol, hol, _, nl, hdl⟩ := ht
  unfold Builtin.SmallTypes.nextOf
  refine wpAny_bind (wpAny_callSpecial?_slot (name := Str.ofString "__next__") hit.typeIs F.slot_tuple_iterator_next
    (wpAny_call_entry F.slot_tuple_iterator_next hit.typeIs F.entry_tuple_iterator_next ?_ (F.args_tuple_iterator_next_1 _)))
  show wpAny _ _ (field (.ref it) 0 >>= _) _ _ s
  refine wpAny_bind (wpAny_field ho hd (x := .ref t) rfl ?_)
  show wpAny _ _ (if (Value.ref t == Value.none) = true then _ else _) _ _ s
  rw [if_neg (show ¬ ((Value.ref t == Value.none) = true) from Bool.false_ne_true)]
  show wpAny _ _ (field (.ref it) 1 >>= _) _ _ s
  refine wpAny_bind (wpAny_field ho hd (x := .int i 0) rfl ?_)
  show wpAny _ _ (seqItems? (.ref t) >>= _) _ _ s
  refine wpAny_bind (wpAny_seqItems hol hdl ?_)
  cases hx : items[i]? with
  | some x =>
    simp only [Int.toNat_natCast, hx]
    refine wpAny_bind (wpAny_setField ho hd (by simp) (wpAny_pure ⟨x, rfl, wpAny_pure (hQ x hx _ ?_ (Heap.SameBut.update ..))⟩))
    exact ⟨_, Heap.get?_update_self _ ho (Obj.isFreed_of_fields (Obj.data_mapFields hd _)), (Obj.cls_mapFields ..).trans hc, by
      rw [Obj.data_mapFields hd]; simp [rawInt]⟩
  | none =>
    simp only [Int.toNat_natCast, hx]
    refine wpAny_bind (wpAny_rule (wpAny_bind (wpAny_setField ho hd (by simp) ?_)))
    show wpAny _ _ (newExc (.type "StopIteration") [] >>= _) _ _ _
    refine wpAny_bind ?_
    simp only [newExc, newTuple]
    refine wpAny_bind (wpAny_newObj_type ?_ (by size_fits))
    refine wpAny_bind (m := firstArgMember _ _) (wpAny_of_eq (a := Value.none) (by first | rfl | (simp only [firstArgMember]; rfl)) ?_)
    refine wpAny_newObj_type ?_ (by size_fits)
    simp only [raiseNew]
    refine wpAny_bind (wpAny_handled ?_)
    first | rw [show A.in1.handled = none from hh] | rw [hh]
    refine wpAny_bind (wpAny_pure (wpAny_throw ?_))
    exact hE hx _ _ (((Heap.SameBut.update ..).extBut.push _).push _) ⟨_, Heap.get?_push_size _ rfl, rfl⟩
end
theorem draws_tup {prog : Program} {w : World} {A : Around} (hh : A.handled = none) (it t : Addr) (hne : t ≠ it) (items : Array Value) :
    Draws prog w A it [it, t] items.size (fun i v => items[i]? = some v) (fun i h => h.IsTupleIter it t i ∧ h.IsTuple t items) where
  live := fun _ _ st => let ⟨o, ho, _⟩ := st.1; ⟨o, ho⟩
  frame := fun _ _ _ st hk => ⟨let ⟨o, ho, r⟩ := st.1; ⟨o, hk it (by simp) o ho, r⟩, let ⟨o, ho, r⟩ := st.2; ⟨o, hk t (by simp) o ho, r⟩⟩
  item := fun i s Q E hi st hQ => tup_nextOf hh st.1 st.2 (fun x hx h' hit' hs' => hQ x h' s.toks hx ⟨hit', st.2.extBut hs'.extBut hne⟩ hs') (fun hx => absurd hx (by simp [hi]))
  done := fun s Q E st hE => tup_nextOf hh st.1 st.2 (fun x hx => absurd hx (by simp)) (fun _ h' e k z => hE h' e k z)

theorem meets_enumT (t : Addr) (items : Array Value) (n : Nat) (dct : Option Addr) (sl : Array (Option Value)) :
    Meets (Builtin.«enumerate.__new__» ⟨[.type "enumerate", .ref t], []⟩) (fun _ R s => s.heap.get? t = some { cls := .type "tuple", dict := dct, data := .seq items n, slots := sl } ∧
      R (.ok (.ret (.ref (s.heap.push { cls := .type "tuple_iterator", data := .fields #[.ref t, .int 0 0] }).objs.size)))
        { s with heap := (s.heap.push { cls := .type "tuple_iterator", data := .fields #[.ref t, .int 0 0] }).push { cls := .type "enumerate", data := .fields #[.none, .bool false, .ref s.heap.objs.size, rawInt 0, .none, .none] } }) :=
  .of_wp fun prog w A R s h => by
    obtain ⟨hp, g, d, tk, os⟩ := s; obtain ⟨hl, h⟩ := h
    have hsub := sub_enumerate
    have hL : Heap.IsTuple (Shared.heap ⟨hp, g, d, tk, os⟩) t items := ⟨_, hl, rfl, n, rfl⟩
    wp_walk using wpAny_loadPart' hl
    refine wpAny_stack_any fun st => wpAny_pure ?_
    split
    · rename_i c _ _ _ _ _
      cases (c == Value.type "enumerate")
      · wp_walk using wpAny_loadPart' hl, wpAny_pyIter_tuple hL
        exact ⟨_, rfl, h⟩
      · wp_walk using wpAny_loadPart' hl, wpAny_pyIter_tuple hL
        exact ⟨_, rfl, h⟩
    · wp_walk using wpAny_loadPart' hl, wpAny_pyIter_tuple hL
      exact ⟨_, rfl, h⟩
section
variable {prog : Program} {w : World} {A : Around} {E : Value → Shared → Prop} {s : Shared}
theorem call_enumT {t : Addr} {items : Array Value} {Q : Value → Shared → Prop} (hL : s.heap.IsTuple t items)
    (h : ∀ h', IsEnum h' (s.heap.objs.size + 1) s.heap.objs.size 0 .none → h'.IsTupleIter s.heap.objs.size t 0 → h'.objs.size = s.heap.objs.size + 2 →
      (∀ b o, s.heap.get? b = some o → h'.get? b = some o) → Q (.ref (s.heap.objs.size + 1)) { s with heap := h' }) :
    wpAny (model prog w) A (call (.type "enumerate") [.ref t]) Q E s := by
  obtain ⟨⟨c, dct, dt, sl⟩, hl, hc, n, hd⟩ := hL
  replace hc : c = .type "tuple" := hc
  replace hd : dt = .seq items n := hd
  subst hc hd
  refine callType_new F.called_enumerate (by decide) (F.typeCall_enumerate_1 _) (F.newCall_enumerate_1 _) (fun obj => F.args_object_init_2 obj _) F.entry_enumerate_new
    (meets_enumT t items n dct sl) ⟨hl, ?_⟩
  have hz : (s.heap.push { cls := .type "tuple_iterator", data := .fields #[.ref t, .int 0 0] }).objs.size = s.heap.objs.size + 1 := Heap.size_push ..
  show _ ∧ _
  rw [hz]
  have he : IsEnum ((s.heap.push { cls := .type "tuple_iterator", data := .fields #[.ref t, .int 0 0] }).push
      { cls := .type "enumerate", data := .fields #[.none, .bool false, .ref s.heap.objs.size, rawInt 0, .none, .none] }) (s.heap.objs.size + 1) s.heap.objs.size 0 .none := by
    have := Heap.get?_push_size (s.heap.push { cls := .type "tuple_iterator", data := .fields #[.ref t, .int 0 0] })
      (o := { cls := .type "enumerate", data := .fields #[.none, .bool false, .ref s.heap.objs.size, rawInt 0, .none, .none] }) rfl
    rw [hz] at this; exact this
  refine ⟨⟨_, he, rfl⟩, h _ he ⟨_, Heap.get?_push_of_some _ (Heap.get?_push_size _ rfl), rfl, rfl⟩ (by rw [Heap.size_push, hz]) fun b o x => Heap.get?_push_of_some _ (Heap.get?_push_of_some _ x)⟩
end
end Mine
end
section
open PySem PySem.W PyProof.Rows PySem.Calls PyProof.Rows.LCg
set_option maxRecDepth 100000
namespace Mine
/-- a turn: the test, if there is one, and the element -/
noncomputable def TurnW (M : Model) (A : Around) (cenv : Env) (elt : PySem.Expr) (ifs : List PySem.Expr) (post : Option Value → Shared → Prop) (E' : Value → Shared → Prop) (s : Shared) : Prop :=
  match ifs with
  | [] => wpAny M A (eval elt cenv) (fun y s' => post (some y) s') E' s
  | [c] => wpAny M A (isTrue c cenv (eval c cenv)) (fun ok s₃ => if ok = true then wpAny M A (eval elt cenv) (fun y s' => post (some y) s') E' s₃ else post none s₃) E' s
  | _ => False
theorem TurnW.mono {M : Model} {A : Around} {cenv : Env} {elt : PySem.Expr} {ifs : List PySem.Expr} {post post' : Option Value → Shared → Prop} {E' : Value → Shared → Prop} {s : Shared}
    (h : TurnW M A cenv elt ifs post E' s) (hp : ∀ o s', post o s' → post' o s') : TurnW M A cenv elt ifs post' E' s := by
  match ifs with
  | [] => exact wpAny_mono h (fun y s' q => hp _ _ q) fun _ _ e => e
  | [c] =>
    refine wpAny_mono h (fun ok s' q => ?_) fun _ _ e => e
    cases ok with
    | true => exact wpAny_mono (by simpa using q) (fun y s' q => hp _ _ q) fun _ _ e => e
    | false => simp only [Bool.false_eq_true, if_false] at q ⊢; exact hp _ _ q
  | _ :: _ :: _ => exact h
section
variable {prog : Program} {w : World} {A : Around} {E : Value → Shared → Prop} {s : Shared}
theorem pl_loop {elt target iter : PySem.Expr} {ifs : List PySem.Expr} {scope : Scope} {pos : Pos} {it acc : Value} {env : Env} {R : Result → Shared → Prop} (I : Nat → Shared → Prop)
    (turn : ∀ n s, I n s → wpAny (model prog w) A (pyNext it) (fun r s₁ => match r with
      | none => R (.ok .next) s₁
      | some v => wpAny (model prog w) A (letOwnedTupleGo target it v) (fun _ s₀ => wpAny (model prog w) A (assign target env v) (fun _ s₂ =>
          TurnW (model prog w) A env elt ifs (fun o s₄ => match o with
            | some x => wpAny (model prog w) A (call (.builtin "list.append") [acc, x]) (fun _ s₅ => ∃ m, m < n ∧ I m s₅) (notedBy (model prog w) A env fun e s' => R (.error e) s') s₄
            | none => ∃ m, m < n ∧ I m s₄) (notedBy (model prog w) A env fun e s' => R (.error e) s') s₂)
          (notedBy (model prog w) A env fun e s' => R (.error e) s') s₀) (notedBy (model prog w) A env fun e s' => R (.error e) s') s₁) (notedBy (model prog w) A env fun e s' => R (.error e) s') s)
    (hone : ifs.length ≤ 1) (n : Nat) (h : I n s) : codeAny (model prog w) A (.compLoop (.ListComp elt [⟨target, iter, ifs, 0⟩] scope pos) 0 it acc env) R s := by
  match ifs, hone with
  | [], _ =>
    refine kcp_loop I (fun n s hI => wpAny_mono (turn n s hI) (fun r s₁ q => ?_) fun _ _ e => e) n h
    cases r with
    | none => exact q
    | some v => exact q
  | [c], _ =>
    refine kct_loop I (fun n s hI => wpAny_mono (turn n s hI) (fun r s₁ q => ?_) fun _ _ e => e) n h
    cases r with
    | none => exact q
    | some v => exact q
end

/-- what a turn leaves -/
noncomputable def PEnd (h₀ : Heap) (L : Addr) (m : Str → Option Value) (s : Shared) (led : List (Addr × Obj)) (P : Option Value → Prop) (o : Option Value) (s₂ : Shared) : Prop :=
  ∃ h' tk, s₂ = { s with heap := h', toks := tk } ∧ Fr h₀ L h' m ∧ News h₀ L h' led ∧ P o

/-- the state of the block's own frame -/
structure BFrame (prog : Program) (w : World) (A : Around) (target : PySem.Expr) (scope : Scope) (cl : List (Str × Addr)) (env : Env) (K : Addr → Heap → Prop) (FS : Addr → Value → Value → List (Addr × Obj) → Prop) (wk : Addr → List Addr) : Prop where
  start : ∀ h : Heap, K h.objs.size (pushCells (h.push { cls := .type "dict", data := .dict #[] }) scope.names)
  ns : ∀ C h, K C h → ∃ m, h.Ns C m
  here : ∀ C h, K C h → ∀ b ∈ wk C, b < h.objs.size
  own : ∀ C, C ∈ wk C
  above : ∀ C, ∀ b ∈ wk C, C ≤ b
  frame : ∀ C h h', K C h → (∀ b ∈ wk C, ∀ o, h.get? b = some o → h'.get? b = some o) → K C h'
  back : ∀ C x y fr h, FS C x y fr → (∀ p ∈ fr, h.get? p.1 = some p.2) → K C h
  sets : ∀ C T x y (s : Shared) (Q : Unit → Shared → Prop) (E : Value → Shared → Prop), s.heap.IsTuple T #[x, y] → K C s.heap →
    (∀ fr h' tk, FS C x y fr → (∀ p ∈ fr, p.1 ∈ wk C ∧ h'.get? p.1 = some p.2) → (∀ c o, c ∉ wk C → s.heap.get? c = some o → h'.get? c = some o) → Q () { s with heap := h', toks := tk }) →
    wpAny (model prog w) A (assign target (compEnvC scope (cellsFrom (C + 1) scope.names cl) C env) (.ref T)) Q E s

section
variable {prog : Program} {w : World} {A : Around} {E : Value → Shared → Prop} {s : Shared} {h₀ : Heap} {L : Addr} {m : Str → Option Value} {env : Env}
theorem new_env {scope : Scope} {globals : Addr} {cl : List (Str × Addr)} {qual : Str} {builtins : Addr} {Q : Env → Shared → Prop}
    (h : Q (newEnv scope s.heap.objs.size globals (cellsFrom (s.heap.objs.size + 1) scope.names cl) qual none .none (some env) builtins) { s with heap := pushCells (s.heap.push { cls := .type "dict", data := .dict #[] }) scope.names }) :
    wpAny (model prog w) A (newFunctionEnv scope globals cl [] qual none .none (some env) builtins) Q E s := by
  simp only [newFunctionEnv, Option.isSome_some, if_true]
  refine wpAny_bind (wpAny_alloc ?_)
  refine wpAny_bind (wpAny_layCells _ (fun name kind cells => by cases hkc : kind == NameKind.cell <;> simp [hkc]) _ _ _ _ ?_)
  rw [show ({ s with heap := s.heap.push { cls := .type "dict", data := .dict #[] } } : Shared).heap.objs.size = s.heap.objs.size + 1 from Heap.size_push ..]
  refine wpAny_bind ?_
  rw [List.forIn_nil]
  exact wpAny_pure (wpAny_pure h)

/-- where the pairs come from -/
structure PSrc (prog : Program) (w : World) (A : Around) (h₀ : Heap) (L : Addr) (m : Str → Option Value) (e it : Addr) (fp : List Addr) (n : Nat) (Pt : Nat → Array Value → Prop) (St : Nat → Heap → Prop) (Mid : Nat → Addr → Heap → Prop) (news : List (Addr × Obj)) (s : Shared) : Prop where
  W : WalksT prog w A e fp [e, it] n Pt St Mid
  st : St 0 s.heap
  has : ∀ i h, St i h → (∃ o, h.get? e = some o) ∧ ∃ o, h.get? it = some o
  size : n ≤ sizeLine
  low : ∀ b ∈ fp, b < s.heap.objs.size
  F : Fr h₀ L s.heap m
  N : News h₀ L s.heap news
  offe : ∀ p ∈ news, p.1 ≠ e ∧ p.1 ≠ it
  newe : h₀.get? e = none ∧ h₀.get? it = none
  offL : e ≠ L ∧ it ≠ L
  fpk : ∀ b ∈ fp, b = e ∨ b = it ∨ (∃ o, h₀.get? b = some o) ∨ ∃ o, (b, o) ∈ news
  pair : ∀ i vals, Pt i vals → ∃ x y, vals = #[x, y]

/-- the loop's state -/
inductive PairO (n : Nat) (s : Shared) (h₀ : Heap) (L D C : Addr) (m : Str → Option Value) (news : List (Addr × Obj)) (St : Nat → Heap → Prop) (K : Addr → Heap → Prop) (Inv : Nat → List Value → Prop) (k : Nat) (s' : Shared) : Prop
  | mk (h' : Heap) (tk i : Nat) (ys : List Value) (e : s' = { s with heap := h', toks := tk }) (hi : i ≤ n) (hk : k = n + 1 - i) (hl : ys.length ≤ i) (hs : St i h') (hK : K C h')
    (F : Fr h₀ L h' m) (N : News h₀ L h' ((D, lst ys) :: news)) (hI : Inv i ys) : PairO n s h₀ L D C m news St K Inv k s'
theorem pairs_block {elt iter : PySem.Expr} {elts : List PySem.Expr} {kk : Nat} {tp : Pos} {ifs : List PySem.Expr} {scope : Scope} {cl : List (Str × Addr)} {pos : Pos} {K : Addr → Heap → Prop} {FS : Addr → Value → Value → List (Addr × Obj) → Prop} {wk : Addr → List Addr}
    {e it : Addr} {fp : List Addr} {n : Nat} {Pt : Nat → Array Value → Prop} {St : Nat → Heap → Prop} {Mid : Nat → Addr → Heap → Prop} {news : List (Addr × Obj)} {Q : Value → Shared → Prop}
    (B : BFrame prog w A (.Tuple elts kk tp) scope cl env K FS wk) (Inv : Nat → List Value → Prop) (hone : ifs.length ≤ 1) (S : PSrc prog w A h₀ L m e it fp n Pt St Mid news s) (h0 : Inv 0 [])
    (turn : ∀ i x y ys C D oe oi fr h tk (E' : Value → Shared → Prop), Pt i #[x, y] → Inv i ys → FS C x y fr → Fr h₀ L h m → News h₀ L h ((e, oe) :: (it, oi) :: (D, lst ys) :: (fr ++ news)) → (∀ p ∈ fr, p.1 ∈ wk C) → D < C →
      TurnW (model prog w) A (compEnvC scope (cellsFrom (C + 1) scope.names cl) C env) elt ifs (PEnd h₀ L m { s with heap := h, toks := tk } ((e, oe) :: (it, oi) :: (D, lst ys) :: (fr ++ news)) (fun o => match o with | some v => Inv (i + 1) (ys ++ [v]) | none => Inv (i + 1) ys)) E' { s with heap := h, toks := tk })
    (fin : ∀ ys D h tk, Inv n ys → Fr h₀ L h m → News h₀ L h ((D, lst ys) :: news) → (∀ p ∈ news, p.1 < D) → Q (.ref D) { s with heap := h, toks := tk }) :
    wpAny (model prog w) A (pyIter (.ref e)) (fun itv s₂ => wpAny (model prog w) A (newList []) (fun acc s₃ => wpAny (model prog w) A (newFunctionEnv scope env.globals cl [] env.qual none .none (some env)) (fun cenv s₄ =>
      codeAny (model prog w) A (.compStart (.ListComp elt [⟨.Tuple elts kk tp, iter, ifs, 0⟩] scope pos) 0 itv acc { cenv with scope := relabel scope env }) (compPost (model prog w) A E none Q acc cenv.locals) s₄) E s₃) E s₂) E s := by
  obtain ⟨W, hst, hhas, hsz, hlow, F, N, offe, newe, offL, fpk, hpair⟩ := S
  refine W.self 0 _ _ _ hst ?_
  refine wpAny_newObj_type (new_env ?_)
  dsimp only
  generalize hH2 : s.heap.push { cls := .type "list", dict := none, data := .seq ([] : List Value).toArray } = H2
  have hC : H2.objs.size = s.heap.objs.size + 1 := by rw [← hH2, Heap.size_push]
  have hDC : s.heap.objs.size < H2.objs.size := by rw [hC]; exact Nat.lt_succ_self _
  have K0 := B.start H2
  generalize hH3 : pushCells (H2.push { cls := .type "dict", data := .dict #[] }) scope.names = H3 at K0 ⊢
  have up2 : ∀ b o, H2.get? b = some o → H3.get? b = some o := fun b o q => by rw [← hH3]; exact pushCells_keeps _ _ b o (Heap.get?_push_of_some _ q)
  have old : ∀ b o, s.heap.get? b = some o → H3.get? b = some o := fun b o q => up2 b o (by rw [← hH2]; exact Heap.get?_push_of_some _ q)
  have hacc : H3.get? s.heap.objs.size = some (lst []) := up2 _ _ (by rw [← hH2]; exact Heap.get?_push_size _ rfl)
  have fresh₀ : ∀ a, s.heap.objs.size ≤ a → h₀.get? a = none := fun a ha => by
    cases q : h₀.get? a with
    | none => rfl
    | some o' => exact absurd (Heap.lt_size (F.keep a o' q)) (Nat.not_lt.mpr ha)
  have hef : e ∈ fp := W.sub e (by simp)
  have hif : it ∈ fp := W.sub it (by simp)
  have hel : e < s.heap.objs.size := hlow e hef
  have hil : it < s.heap.objs.size := hlow it hif
  have hLl : L < s.heap.objs.size := F.ns.lt
  have wkn : ∀ b, b < H2.objs.size → b ∉ wk H2.objs.size := fun b hb hm => absurd (B.above _ b hm) (Nat.not_le.mpr hb)
  have lowC : ∀ b, b < s.heap.objs.size → b ∉ wk H2.objs.size := fun b hb => wkn b (Nat.lt_trans hb hDC)
  have hD₀ : h₀.get? s.heap.objs.size = none := fresh₀ _ (Nat.le_refl _)
  have hCD : H2.objs.size ≠ s.heap.objs.size := Nat.ne_of_gt hDC
  have hCL : H2.objs.size ≠ L := Nat.ne_of_gt (Nat.lt_trans hLl hDC)
  have hC₀ : h₀.get? H2.objs.size = none := fresh₀ _ (Nat.le_of_lt hDC)
  have newslow : ∀ p ∈ news, p.1 < s.heap.objs.size := fun p hp => Heap.lt_size (N p hp).1
  have loop : ∀ s₃ : Shared, s₃ = { s with heap := H3 } →
      codeAny (model prog w) A (.compLoop (.ListComp elt [⟨.Tuple elts kk tp, iter, ifs, 0⟩] scope pos) 0 (.ref e) (.ref s.heap.objs.size) (compEnvC scope (cellsFrom (H2.objs.size + 1) scope.names cl) H2.objs.size env))
        (compPost (model prog w) A E none Q (.ref s.heap.objs.size) H2.objs.size) s₃ := by
    rintro s₃ rfl
    refine pl_loop (ifs := ifs)
      (PairO n s h₀ L s.heap.objs.size H2.objs.size m news St K Inv) ?_ hone (n + 1)
      ⟨H3, s.toks, 0, [], rfl, Nat.zero_le _, rfl, Nat.le_refl _, W.frame _ _ _ hst fun b _ o q => old b o q, K0, F.keeps old, fun p hp => ?_, h0⟩
    · rintro k s' ⟨h', tk, i, ys, rfl, hi, rfl, hyl, hst', hK', F', N', hI⟩
      by_cases hlt : i < n
      · refine W.item i _ _ _ hlt hst' fun T vals h₂ tk₂ hP hT hTup hMid hk₂ => ?_
        obtain ⟨x, y, rfl⟩ := hpair _ _ hP
        refine W.go elts kk tp i T _ _ _ hMid fun h₃ hst₃ hk₃ => ?_
        have hTw := W.apart _ _ _ hMid
        have up₃ : ∀ c o, c ∉ [e, it] → h'.get? c = some o → h₃.get? c = some o := fun c o hc q => hk₃ c o hc (hk₂ c o hc q)
        have hTup₃ : h₃.IsTuple T #[x, y] := let ⟨o, ho, r⟩ := hTup; ⟨o, hk₃ T o hTw ho, r⟩
        have wkei : ∀ b ∈ wk H2.objs.size, b ∉ [e, it] := fun b hb hm => by
          rcases List.mem_cons.mp hm with rfl | hm
          · exact lowC _ hel hb
          · rw [List.mem_singleton.mp hm] at hb; exact lowC _ hil hb
        have hK₃ : K H2.objs.size h₃ := B.frame _ _ _ hK' fun b hb o q => up₃ b o (wkei b hb) q
        refine B.sets _ T x y _ _ _ hTup₃ hK₃ fun fr h₄ tk₄ hFS hfr hk₄ => ?_
        have hst₄ : St (i + 1) h₄ := W.frame _ _ _ hst₃ fun b hb o q => hk₄ b o (lowC b (hlow b hb)) q
        obtain ⟨⟨oe, hoe⟩, ⟨oi, hoi⟩⟩ := hhas _ _ hst₄
        have up₄ : ∀ c o, c ≠ e → c ≠ it → c ∉ wk H2.objs.size → h'.get? c = some o → h₄.get? c = some o := fun c o h1 h2 h3 q => hk₄ c o h3 (up₃ c o (by simp [h1, h2]) q)
        have F₄ : Fr h₀ L h₄ m := ⟨F'.ns.at' fun o q => up₄ _ o (Ne.symm offL.1) (Ne.symm offL.2) (lowC L hLl) q, fun c o q => up₄ c o (fun z => by rw [z, newe.1] at q; cases q) (fun z => by rw [z, newe.2] at q; cases q) (fun z => by rw [fresh₀ c (Nat.le_trans (Nat.le_of_lt hDC) (B.above _ c z))] at q; cases q) (F'.keep c o q), F'.above⟩
        have N₄ : News h₀ L h₄ ((e, oe) :: (it, oi) :: (s.heap.objs.size, lst ys) :: (fr ++ news)) := fun p hp => by
          rcases List.mem_cons.mp hp with rfl | hp
          · exact ⟨hoe, offL.1, newe.1⟩
          rcases List.mem_cons.mp hp with rfl | hp
          · exact ⟨hoi, offL.2, newe.2⟩
          rcases List.mem_cons.mp hp with rfl | hp
          · exact ⟨up₄ _ _ (Nat.ne_of_gt hel) (Nat.ne_of_gt hil) (wkn _ hDC) (N' _ (.head _)).1, Nat.ne_of_gt hLl, hD₀⟩
          rcases List.mem_append.mp hp with hp | hp
          · have hb := B.above _ _ (hfr p hp).1
            exact ⟨(hfr p hp).2, Nat.ne_of_gt (Nat.lt_of_lt_of_le (Nat.lt_trans hLl hDC) hb), fresh₀ _ (Nat.le_trans (Nat.le_of_lt hDC) hb)⟩
          · have z := N' p (List.mem_cons_of_mem _ hp)
            exact ⟨up₄ _ _ (offe p hp).1 (offe p hp).2 (lowC _ (newslow p hp)) z.1, z.2⟩
        refine (turn i x y ys H2.objs.size s.heap.objs.size oe oi fr h₄ tk₄ _ hP hI hFS F₄ N₄ (fun p hp => (hfr p hp).1) hDC).mono fun o s₅ h₅ => ?_
        obtain ⟨h₅, tk₅, rfl, F₅, N₅, hI₅⟩ := h₅
        have hst₅ : St (i + 1) h₅ := W.frame _ _ _ hst₄ fun b hb o q => by
          rcases fpk b hb with rfl | rfl | ⟨o', q'⟩ | ⟨o', q'⟩
          · rw [hoe] at q; cases q; exact (N₅ _ (.head _)).1
          · rw [hoi] at q; cases q; exact (N₅ _ (.tail _ (.head _))).1
          · have := F₄.keep b o' q'
            rw [this] at q; cases q
            exact F₅.keep b _ q'
          · have := (N₄ (b, o') (.tail _ (.tail _ (.tail _ (List.mem_append.mpr (.inr q')))))).1
            rw [this] at q; cases q
            exact (N₅ (b, _) (.tail _ (.tail _ (.tail _ (List.mem_append.mpr (.inr q')))))).1
        have hK₅ : K H2.objs.size h₅ := B.back _ x y fr h₅ hFS fun p hp => (N₅ p (.tail _ (.tail _ (.tail _ (List.mem_append.mpr (.inl hp)))))).1
        have N₅' : News h₀ L h₅ ((s.heap.objs.size, lst ys) :: news) := fun p hp => N₅ p (by
          rcases List.mem_cons.mp hp with rfl | hp
          · exact .tail _ (.tail _ (.head _))
          · exact .tail _ (.tail _ (.tail _ (List.mem_append.mpr (.inr hp)))))
        cases o with
        | none => exact ⟨n + 1 - (i + 1), by omega, h₅, tk₅, i + 1, ys, rfl, hlt, rfl, Nat.le_succ_of_le hyl, hst₅, hK₅, F₅, N₅', hI₅⟩
        | some v =>
          refine append_at (hsz := by show ys.toArray.size ≤ sizeLine; rw [List.size_toArray]; exact Nat.le_trans hyl (Nat.le_trans hi hsz)) (N₅' _ (.head _)).1 fun h₆ hs₆ hD₆ => ?_
          refine ⟨n + 1 - (i + 1), by omega, h₆, tk₅, i + 1, ys ++ [v], rfl, hlt, rfl, by rw [List.length_append, List.length_singleton]; exact Nat.succ_le_succ hyl, W.frame _ _ _ hst₅ fun b hb o q => hs₆.extBut b o (fun z => absurd (hlow b hb) (by rw [show b = s.heap.objs.size from z]; exact Nat.lt_irrefl _)) q,
            B.frame _ _ _ hK₅ fun b hb o q => hs₆.extBut b o (fun z => wkn _ hDC (by rw [← show b = s.heap.objs.size from z]; exact hb)) q, F₅.change hs₆ (Nat.ne_of_gt hLl) hD₀, fun q hq => ?_, hI₅⟩
          rcases List.mem_cons.mp hq with rfl | hq
          · exact ⟨hD₆.trans (congrArg some (lst_snoc ys v)), Nat.ne_of_gt hLl, hD₀⟩
          · have z := N₅' q (.tail _ hq)
            exact ⟨hs₆.extBut _ _ (Nat.ne_of_lt (newslow q hq)) z.1, z.2⟩
      · have hin : i = n := Nat.le_antisymm hi (Nat.not_lt.mp hlt)
        subst hin
        refine W.done _ _ _ hst' fun h₂ tk₂ hk₂ => ?_
        have ei : ∀ b, b ≠ e → b ≠ it → b ∉ [e, it] := fun b h1 h2 => by simp [h1, h2]
        have hK₂ : K H2.objs.size h₂ := B.frame _ _ _ hK' fun b hb o q => hk₂ b o (ei b (fun z => lowC _ hel (z ▸ hb)) (fun z => lowC _ hil (z ▸ hb))) q
        obtain ⟨m', hn'⟩ := B.ns _ _ hK₂
        have F₂ : Fr h₀ L h₂ m := ⟨F'.ns.at' fun o q => hk₂ _ o (ei _ (Ne.symm offL.1) (Ne.symm offL.2)) q, fun c o q => hk₂ c o (ei _ (fun z => by rw [z, newe.1] at q; cases q) (fun z => by rw [z, newe.2] at q; cases q)) (F'.keep c o q), F'.above⟩
        have N₂ : News h₀ L h₂ ((s.heap.objs.size, lst ys) :: news) := fun p hp => by
          have z := N' p hp
          refine ⟨hk₂ _ _ (ei _ ?_ ?_) z.1, z.2⟩
          · rcases List.mem_cons.mp hp with rfl | hp
            · exact Nat.ne_of_gt hel
            · exact (offe p hp).1
          · rcases List.mem_cons.mp hp with rfl | hp
            · exact Nat.ne_of_gt hil
            · exact (offe p hp).2
        refine ⟨m', hn', fun h'' hs'' => fin ys _ h'' tk₂ hI (F₂.change hs'' hCL hC₀) (fun p hp => ?_) newslow⟩
        refine ⟨hs''.extBut _ _ ?_ (N₂ p hp).1, (N₂ p hp).2⟩
        rcases List.mem_cons.mp hp with rfl | hp
        · exact Nat.ne_of_lt hDC
        · exact Nat.ne_of_lt (Nat.lt_trans (newslow p hp) hDC)
    · rcases List.mem_cons.mp hp with rfl | hp
      · exact ⟨hacc, Nat.ne_of_gt hLl, hD₀⟩
      · exact ⟨old _ _ (N p hp).1, (N p hp).2⟩
  exact codeAny_compStart_list (loop _ rfl) (W.self 0 _ _ _ (W.frame _ _ _ hst fun b _ o q => old b o q) (loop _ rfl))
end
end Mine
end
section
open PySem PySem.W PyProof.Rows PySem.Calls PyProof.Rows.LCg
set_option maxRecDepth 100000
namespace Mine
section
variable {prog : Program} {w : World} {A : Around} {E : Value → Shared → Prop} {s : Shared} {h₀ : Heap} {L : Addr} {m : Str → Option Value} {env : Env}
/-- a block's frame of two locals -/
noncomputable def FSl (a b : Str) (C : Addr) (x y : Value) (fr : List (Addr × Obj)) : Prop := ∃ oC m₂, fr = [(C, oC)] ∧ NsObj oC m₂ ∧ m₂ a = some x ∧ m₂ b = some y
theorem bf_locals {a b : Str} {pa pb tp : Pos} {kk : Nat} {scope : Scope} {cl : List (Str × Addr)} (hh : A.handled = none)
    (hpc : ∀ h, pushCells h scope.names = h) (hcl : ∀ n, cellsFrom n scope.names cl = cl) (hkind : scope.kind = .function) (hxa : scope.names.lookup a = some .local) (hxb : scope.names.lookup b = some .local) (hab : ¬ a = b) :
    BFrame prog w A (.Tuple [.Name a pa, .Name b pb] kk tp) scope cl env (fun C h => ∃ m, h.Ns C m) (FSl a b) (fun C => [C]) where
  start := fun h => by rw [hpc]; exact ⟨_, Heap.Ns.new h (.type "dict")⟩
  ns := fun C h k => k
  here := fun C h ⟨m, k⟩ b hb => by rw [List.mem_singleton.mp hb]; exact k.lt
  own := fun C => .head _
  above := fun C b hb => by rw [List.mem_singleton.mp hb]; exact Nat.le_refl _
  frame := fun C h h' ⟨m, k⟩ hk => ⟨m, k.at' fun o q => hk C (.head _) o q⟩
  back := fun C x y fr h ⟨oC, m₂, e, n, _, _⟩ hp => ⟨m₂, n.ns (hp (C, oC) (by rw [e]; exact .head _))⟩
  sets := fun C T x y s Q E hT hK hQ => by
    obtain ⟨m, hn⟩ := hK
    rw [hcl]
    refine kcp_assign (env := compEnvC scope cl C env) hh hT (lookup_relabel_local hxa) (lookup_relabel_local hxb) (by simp [compEnvC, relabel, hkind]) hn fun h' tk hn' hs' => ?_
    obtain ⟨oC, heC, hoC⟩ := ns_obj hn'
    exact hQ [(C, oC)] h' tk ⟨oC, _, rfl, hoC, by simp [hab], by simp⟩ (fun p hp => by rw [List.mem_singleton.mp hp]; exact ⟨.head _, heC⟩) fun c o hc q => hs' c o (fun z => hc (by rw [show c = C from z]; exact .head _)) q
/-- a block's frame of a cell and a local -/
noncomputable def FSc (b : Str) (C : Addr) (x y : Value) (fr : List (Addr × Obj)) : Prop := ∃ oC m₂ oc, fr = [(C, oC), (C + 1, oc)] ∧ NsObj oC m₂ ∧ m₂ b = some y ∧ oc.data = .cell (some x)
theorem bf_cell {a b : Str} {pa pb tp : Pos} {kk : Nat} {scope : Scope} {cl : List (Str × Addr)} (hh : A.handled = none)
    (hpc : ∀ h, pushCells h scope.names = h.push { cls := .type "cell", data := .cell none }) (hca : ∀ n, (cellsFrom n scope.names cl).lookup a = some n) (hkind : scope.kind = .function)
    (hka : ∀ C cells, (compEnvC scope cells C env).kindOf a = some .cell) (hxb : scope.names.lookup b = some .local) :
    BFrame prog w A (.Tuple [.Name a pa, .Name b pb] kk tp) scope cl env (fun C h => (∃ m, h.Ns C m) ∧ ∃ v, h.IsCell (C + 1) v) (FSc b) (fun C => [C, C + 1]) where
  start := fun h => by
    rw [hpc]
    refine ⟨⟨_, (Heap.Ns.new h (.type "dict")).keeps fun b o q => Heap.get?_push_of_some _ q⟩, none, { cls := .type "cell", data := .cell none }, ?_, rfl⟩
    have := Heap.get?_push_size (h.push { cls := .type "dict", data := .dict #[] }) (o := { cls := .type "cell", data := .cell none }) rfl
    rwa [Heap.size_push] at this
  ns := fun C h k => k.1
  here := fun C h ⟨⟨m, k⟩, v, c⟩ b hb => by
    rcases List.mem_cons.mp hb with rfl | hb
    · exact k.lt
    · rw [List.mem_singleton.mp hb]; exact c.lt
  own := fun C => .head _
  above := fun C b hb => by
    rcases List.mem_cons.mp hb with rfl | hb
    · exact Nat.le_refl _
    · rw [List.mem_singleton.mp hb]; exact Nat.le_succ _
  frame := fun C h h' ⟨⟨m, k⟩, v, o, ho, hd⟩ hk => ⟨⟨m, k.at' fun o q => hk C (.head _) o q⟩, v, o, hk _ (.tail _ (.head _)) o ho, hd⟩
  back := fun C x y fr h ⟨oC, m₂, oc, e, n, _, d⟩ hp => ⟨⟨m₂, n.ns (hp (C, oC) (by rw [e]; exact .head _))⟩, some x, oc, hp (C + 1, oc) (by rw [e]; exact .tail _ (.head _)), d⟩
  sets := fun C T x y s Q E hT hK hQ => by
    obtain ⟨⟨m, hn⟩, v, hc⟩ := hK
    refine wpAny_assign_Tuple hh hT rfl rfl fun h₁ he₁ => ?_
    have hCs : C ≠ s.heap.objs.size := Nat.ne_of_lt hn.lt
    have hcs : C + 1 ≠ s.heap.objs.size := Nat.ne_of_lt hc.lt
    have hCc : C ≠ C + 1 := Nat.ne_of_lt (Nat.lt_succ_self _)
    have hn₁ : h₁.Ns C m := hn.at' fun o q => he₁ _ o hCs q
    have hc₁ : h₁.IsCell (C + 1) v := let ⟨o, ho, hd⟩ := hc; ⟨o, he₁ _ o hcs ho, hd⟩
    have up₁ : ∀ c o, s.heap.get? c = some o → h₁.get? c = some o := fun c o q => he₁ c o (Nat.ne_of_lt (Heap.lt_size q)) q
    show wpAny _ _ (assignInOrder [assign (.Name a pa) _, assign (.Name b pb) _] [x, y]) _ _ _
    refine assignInOrder_cons ?_
    refine wpAny_assign_Name (wpAny_storeName_cell (by simp [compEnvC, relabel, hkind]) (hka _ _) (hca _) hc₁ fun h₂ hc₂ hs₂ => ?_)
    refine assignInOrder_cons ?_
    refine wpAny_assign_Name (wpAny_storeName_local (lookup_relabel_local hxb) (hn₁.sameBut hs₂ hCc) (fun h₃ hn₃ hs₃ => ?_) (by simp [compEnvC, relabel, hkind]))
    refine assignInOrder_nil ?_
    obtain ⟨oC, heC, hoC⟩ := ns_obj hn₃
    obtain ⟨oc, heo, hdo⟩ := hc₂
    refine hQ [(C, oC), (C + 1, oc)] h₃ _ ⟨oC, _, oc, rfl, hoC, by simp, hdo⟩ (fun p hp => ?_) fun c o hc q => ?_
    · rcases List.mem_cons.mp hp with rfl | hp
      · exact ⟨.head _, heC⟩
      · rw [List.mem_singleton.mp hp]
        exact ⟨.tail _ (.head _), hs₃.extBut _ _ (Ne.symm hCc) heo⟩
    · have h1 : c ≠ C := fun z => hc (by rw [z]; exact .head _)
      have h2 : c ≠ C + 1 := fun z => hc (by rw [z]; exact .tail _ (.head _))
      exact hs₃.extBut c o h1 (hs₂.extBut c o h2 (up₁ c o q))

/-- a list comprehension over pairs -/
theorem pairs_comp {elt iter : PySem.Expr} {elts : List PySem.Expr} {kk : Nat} {tp pos : Pos} {ifs : List PySem.Expr} {scope : Scope} {cl : List (Str × Addr)} {K : Addr → Heap → Prop} {FS : Addr → Value → Value → List (Addr × Obj) → Prop} {wk : Addr → List Addr}
    {Q : Value → Shared → Prop} (_F : Fr h₀ L s.heap m)
    (hclos : closureFor scope env = pure cl) (hkind : scope.kind = .function) (hnames : ∀ y ∈ scope.names, y.2 = .local → scope.names.lookup y.1 = some .local) (hs : ∀ x, foldedSetIterable iter env x = pure x) (hone : ifs.length ≤ 1)
    (B : BFrame prog w A (.Tuple elts kk tp) scope cl env K FS wk) (Inv : Nat → List Value → Prop) (h0 : Inv 0 [])
    (src : wpAny (model prog w) A (eval iter env) (fun xv s₁ => ∃ e it fp n Pt St Mid news, xv = .ref e ∧ PSrc prog w A h₀ L m e it fp n Pt St Mid news s₁ ∧
      (∀ i x y ys C D oe oi fr h tk (E' : Value → Shared → Prop), Pt i #[x, y] → Inv i ys → FS C x y fr → Fr h₀ L h m → News h₀ L h ((e, oe) :: (it, oi) :: (D, lst ys) :: (fr ++ news)) → (∀ p ∈ fr, p.1 ∈ wk C) → D < C →
        TurnW (model prog w) A (compEnvC scope (cellsFrom (C + 1) scope.names cl) C env) elt ifs (PEnd h₀ L m { s₁ with heap := h, toks := tk } ((e, oe) :: (it, oi) :: (D, lst ys) :: (fr ++ news)) (fun o => match o with | some v => Inv (i + 1) (ys ++ [v]) | none => Inv (i + 1) ys)) E' { s₁ with heap := h, toks := tk }) ∧
      (∀ ys D h tk, Inv n ys → Fr h₀ L h m → News h₀ L h ((D, lst ys) :: news) → (∀ p ∈ news, p.1 < D) → Q (.ref D) { s₁ with heap := h, toks := tk })) E s) :
    wpAny (model prog w) A (eval (.ListComp elt [⟨.Tuple elts kk tp, iter, ifs, 0⟩] scope pos) env) Q E s := by
  rw [eval_ListComp]
  refine wpAny_comprehension_free (use := none) rfl hs hclos hkind hnames (wpAny_mono src (fun xv s₁ h₁ => ?_) fun _ _ e => e)
  obtain ⟨e, it, fp, n, Pt, St, Mid, news, rfl, S, turn, fin⟩ := h₁
  exact pairs_block B Inv hone S h0 turn fin

/-- enumerate over a list or a tuple that the ledger holds -/
theorem enum_list {l : Addr} {vs : List Value} {c : Nat} {news : List (Addr × Obj)} {Q : Value → Shared → Prop} (hh : A.handled = none) (F : Fr h₀ L s.heap m) (N : News h₀ L s.heap news) (hl : (l, W.listOf vs.toArray c) ∈ news) (hz : vs.length ≤ sizeLine)
    (h : ∀ e it fp St Mid h', PSrc prog w A h₀ L m e it fp vs.length (fun i v => ∃ t x, vs[i]? = some x ∧ v = #[.int i t, x]) St Mid news { s with heap := h' } → Q (.ref e) { s with heap := h' }) :
    wpAny (model prog w) A (call (.type "enumerate") [.ref l]) Q E s := by
  have z := N _ hl
  have hL : s.heap.IsList l vs.toArray := ⟨_, z.1, rfl, c, rfl⟩
  have hlt : l < s.heap.objs.size := Heap.lt_size z.1
  have hLl : L < s.heap.objs.size := F.ns.lt
  have fresh₀ : ∀ a, s.heap.objs.size ≤ a → h₀.get? a = none := fun a ha => by
    cases q : h₀.get? a with
    | none => rfl
    | some o' => exact absurd (Heap.lt_size (F.keep a o' q)) (Nat.not_lt.mpr ha)
  refine call_enumerate_list hL fun h' he hi hsz hk => ?_
  have D := WalksT.enumerateD (Draws.list (prog := prog) (w := w) (A := A.in1) hh s.heap.objs.size l (Nat.ne_of_lt hlt) vs.toArray) (s.heap.objs.size + 1) (Nat.succ_ne_self _) (by
    intro hm
    rcases List.mem_cons.mp hm with e | hm
    · exact Nat.succ_ne_self _ e
    · exact Nat.ne_of_gt (Nat.lt_succ_of_lt hlt) (List.mem_singleton.mp hm)) (by simp)
  simp only [List.size_toArray, List.getElem?_toArray] at D
  refine h _ s.heap.objs.size _ _ _ h' ⟨D, ?_, ?_, hz, ?_, F.keeps hk, N.grown hk, ?_, ?_, ?_, ?_, ?_⟩
  · exact ⟨⟨_, he⟩, hi, hL.at fun o e => hk l o e⟩
  · rintro i h ⟨⟨old, a⟩, ⟨o, b, _⟩, _⟩
    exact ⟨⟨_, a⟩, ⟨o, b⟩⟩
  · intro b hb
    show b < h'.objs.size
    rw [hsz]
    rcases List.mem_cons.mp hb with rfl | hb
    · exact Nat.lt_succ_self _
    rcases List.mem_cons.mp hb with rfl | hb
    · exact Nat.lt_succ_of_lt (Nat.lt_succ_self _)
    · rw [List.mem_singleton.mp hb]; exact Nat.lt_succ_of_lt (Nat.lt_succ_of_lt hlt)
  · intro p hp
    have := Heap.lt_size (N p hp).1
    exact ⟨Nat.ne_of_lt (Nat.lt_succ_of_lt this), Nat.ne_of_lt this⟩
  · exact ⟨fresh₀ _ (Nat.le_succ _), fresh₀ _ (Nat.le_refl _)⟩
  · exact ⟨Nat.ne_of_gt (Nat.lt_succ_of_lt hLl), Nat.ne_of_gt hLl⟩
  · intro b hb
    rcases List.mem_cons.mp hb with rfl | hb
    · exact .inl rfl
    rcases List.mem_cons.mp hb with rfl | hb
    · exact .inr (.inl rfl)
    · rw [List.mem_singleton.mp hb]; exact .inr (.inr (.inr ⟨_, hl⟩))
  · rintro i vals ⟨t, x, _, rfl⟩
    exact ⟨_, _, rfl⟩
theorem enum_tup {l : Addr} {vs : List Value} {c : Nat} {news : List (Addr × Obj)} {Q : Value → Shared → Prop} (hh : A.handled = none) (F : Fr h₀ L s.heap m) (N : News h₀ L s.heap news) (hl : (l, ({ cls := .type "tuple", data := .seq vs.toArray c } : Obj)) ∈ news) (hz : vs.length ≤ sizeLine)
    (h : ∀ e it fp St Mid h', PSrc prog w A h₀ L m e it fp vs.length (fun i v => ∃ t x, vs[i]? = some x ∧ v = #[.int i t, x]) St Mid news { s with heap := h' } → Q (.ref e) { s with heap := h' }) :
    wpAny (model prog w) A (call (.type "enumerate") [.ref l]) Q E s := by
  have z := N _ hl
  have hL : s.heap.IsTuple l vs.toArray := ⟨_, z.1, rfl, c, rfl⟩
  have hlt : l < s.heap.objs.size := Heap.lt_size z.1
  have hLl : L < s.heap.objs.size := F.ns.lt
  have fresh₀ : ∀ a, s.heap.objs.size ≤ a → h₀.get? a = none := fun a ha => by
    cases q : h₀.get? a with
    | none => rfl
    | some o' => exact absurd (Heap.lt_size (F.keep a o' q)) (Nat.not_lt.mpr ha)
  refine call_enumT hL fun h' he hi hsz hk => ?_
  have D := WalksT.enumerateD (draws_tup (prog := prog) (w := w) (A := A.in1) hh s.heap.objs.size l (Nat.ne_of_lt hlt) vs.toArray) (s.heap.objs.size + 1) (Nat.succ_ne_self _) (by
    intro hm
    rcases List.mem_cons.mp hm with e | hm
    · exact Nat.succ_ne_self _ e
    · exact Nat.ne_of_gt (Nat.lt_succ_of_lt hlt) (List.mem_singleton.mp hm)) (by simp)
  simp only [List.size_toArray, List.getElem?_toArray] at D
  refine h _ s.heap.objs.size _ _ _ h' ⟨D, ?_, ?_, hz, ?_, F.keeps hk, N.grown hk, ?_, ?_, ?_, ?_, ?_⟩
  · exact ⟨⟨_, he⟩, hi, let ⟨o, ho, r⟩ := hL; ⟨o, hk l o ho, r⟩⟩
  · rintro i h ⟨⟨old, a⟩, ⟨o, b, _⟩, _⟩
    exact ⟨⟨_, a⟩, ⟨o, b⟩⟩
  · intro b hb
    show b < h'.objs.size
    rw [hsz]
    rcases List.mem_cons.mp hb with rfl | hb
    · exact Nat.lt_succ_self _
    rcases List.mem_cons.mp hb with rfl | hb
    · exact Nat.lt_succ_of_lt (Nat.lt_succ_self _)
    · rw [List.mem_singleton.mp hb]; exact Nat.lt_succ_of_lt (Nat.lt_succ_of_lt hlt)
  · intro p hp
    have := Heap.lt_size (N p hp).1
    exact ⟨Nat.ne_of_lt (Nat.lt_succ_of_lt this), Nat.ne_of_lt this⟩
  · exact ⟨fresh₀ _ (Nat.le_succ _), fresh₀ _ (Nat.le_refl _)⟩
  · exact ⟨Nat.ne_of_gt (Nat.lt_succ_of_lt hLl), Nat.ne_of_gt hLl⟩
  · intro b hb
    rcases List.mem_cons.mp hb with rfl | hb
    · exact .inl rfl
    rcases List.mem_cons.mp hb with rfl | hb
    · exact .inr (.inl rfl)
    · rw [List.mem_singleton.mp hb]; exact .inr (.inr (.inr ⟨_, hl⟩))
  · rintro i vals ⟨t, x, _, rfl⟩
    exact ⟨_, _, rfl⟩
end
end Mine
end
section
open PySem PySem.W PyProof.Rows PySem.Calls PyProof.Rows.LCg
set_option maxRecDepth 100000
namespace Mine
/-- the numbers drawn so far -/
noncomputable def Draw (i : Nat) (ys : List Value) : Prop := ys.length = i ∧ ∀ y ∈ ys, ∃ n t, y = .int n t ∧ 0 ≤ n ∧ n < 1000000
theorem draw_nil : Draw 0 [] := ⟨rfl, fun _ h => nomatch h⟩
theorem draw_snoc {i : Nat} {ys : List Value} {n : Int} {t : Tok} (h : Draw i ys) : Draw (i + 1) (ys ++ [.int (n.fmod 1000000) t]) := by
  refine ⟨by rw [List.length_append, h.1]; rfl, fun y hy => ?_⟩
  rcases List.mem_append.mp hy with hy | hy
  · exact h.2 y hy
  · rw [List.mem_singleton.mp hy]
    refine ⟨_, _, rfl, ?_⟩
    rw [Int.fmod_eq_emod_of_nonneg _ (by omega)]
    omega
theorem cons_of_len {α : Type} {n : Nat} : ∀ {l : List α}, l.length = n + 1 → ∃ x r, l = x :: r ∧ r.length = n
  | _ :: r, h => ⟨_, r, rfl, Nat.succ.inj h⟩
theorem draw_five {ys : List Value} (h : Draw 5 ys) : ∃ a b c d e ta tb tc td te, ys = [.int a ta, .int b tb, .int c tc, .int d td, .int e te] ∧ (0 ≤ a ∧ a < 1000000) ∧ (0 ≤ b ∧ b < 1000000) ∧ (0 ≤ c ∧ c < 1000000) ∧ (0 ≤ d ∧ d < 1000000) ∧ (0 ≤ e ∧ e < 1000000) := by
  obtain ⟨hl, ha⟩ := h
  obtain ⟨v, ys1, rfl, hl1⟩ := cons_of_len hl
  obtain ⟨w, ys2, rfl, hl2⟩ := cons_of_len hl1
  obtain ⟨x, ys3, rfl, hl3⟩ := cons_of_len hl2
  obtain ⟨y, ys4, rfl, hl4⟩ := cons_of_len hl3
  obtain ⟨z, ys5, rfl, hl5⟩ := cons_of_len hl4
  obtain rfl := List.length_eq_zero_iff.mp hl5
  obtain ⟨a, ta, rfl, ha1⟩ := ha _ (.head _)
  obtain ⟨b, tb, rfl, hb1⟩ := ha _ (.tail _ (.head _))
  obtain ⟨c, tc, rfl, hc1⟩ := ha _ (.tail _ (.tail _ (.head _)))
  obtain ⟨d, td, rfl, hd1⟩ := ha _ (.tail _ (.tail _ (.tail _ (.head _))))
  obtain ⟨e, te, rfl, he1⟩ := ha _ (.tail _ (.tail _ (.tail _ (.tail _ (.head _)))))
  exact ⟨a, b, c, d, e, ta, tb, tc, td, te, rfl, ha1, hb1, hc1, hd1, he1⟩
/-- the items taken so far -/
noncomputable def Took (i : Nat) (ys : List Value) : Prop := ys.length ≤ i ∧ ∃ ns, IntsAre ys ns
theorem took_nil : Took 0 [] := ⟨Nat.le_refl _, [], .nil⟩
theorem ints_snoc {n : Int} {t : Tok} : ∀ {vs : List Value} {ns : List Int}, IntsAre vs ns → IntsAre (vs ++ [.int n t]) (ns ++ [n])
  | _, _, .nil => .cons _ _ .nil
  | _, _, .cons a u r => .cons a u (ints_snoc r)
theorem took_snoc {i : Nat} {ys : List Value} {n : Int} {t : Tok} (h : Took i ys) : Took (i + 1) (ys ++ [.int n t]) := by
  obtain ⟨hl, ns, hn⟩ := h
  exact ⟨by rw [List.length_append]; exact Nat.succ_le_succ hl, _, ints_snoc hn⟩
theorem took_skip {i : Nat} {ys : List Value} (h : Took i ys) : Took (i + 1) ys := ⟨Nat.le_succ_of_le h.1, h.2⟩
theorem ints_at {vs : List Value} {ns : List Int} (h : IntsAre vs ns) {i : Nat} {x : Value} (hx : vs[i]? = some x) : ∃ n t, x = .int n t := by
  induction h generalizing i with
  | nil => simp at hx
  | cons a u r ih =>
    cases i with
    | zero => exact ⟨_, _, (Option.some.inj (by simpa using hx)).symm⟩
    | succ i => exact ih (by simpa using hx)
/-- the places of the written five -/
theorem five_at {i : Nat} {a b c d e : Int} {ta tb tc td te : Tok} {x : Value} (hx : [Value.int a ta, .int b tb, .int c tc, .int d td, .int e te][i]? = some x) : ∃ n t, x = .int n t :=
  ints_at (.cons a ta (.cons b tb (.cons c tc (.cons d td (.cons e te .nil))))) hx
theorem pend {h₀ : Heap} {L : Addr} {m : Str → Option Value} {s : Shared} {led led' : List (Addr × Obj)} {P : Option Value → Prop} {o : Option Value} {h' : Heap} {tk : Nat}
    (F : Fr h₀ L h' m) (N : News h₀ L h' led') (hs : ∀ p ∈ led, p ∈ led') (hP : P o) : PEnd h₀ L m s led P o { s with heap := h', toks := tk } := ⟨h', tk, rfl, F, fun p hp => N p (hs p hp), hP⟩
end Mine
end
section
open PySem PySem.W PyProof.Rows PySem.Calls
set_option maxRecDepth 100000
namespace Mine
/-- the two greatest weights and the rest, before the loop's test -/
structure WInv (t : Int) (L : Nat) (a b : Int) (rest : List Value) : Prop where
  ea : a = wt t (L + 1)
  eb : b = wt t L
  are : IntsAre rest (wls t L)
  low : wt t L ≤ 20000
theorem winv_start {t : Int} : WInv t 0 (t + 1) 1 [] := ⟨(wt_one t).symm, rfl, .nil, by rw [wt_zero]; decide⟩
theorem wt_mono {t : Int} (ht : T12 t) {i j : Nat} (h : i ≤ j) : wt t i ≤ wt t j := by
  induction h with
  | refl => exact Int.le_refl _
  | @step k _ ih => exact Int.le_trans ih (Int.le_of_lt (wt_pos ht k).2)
theorem wt_big {t : Int} (ht : T12 t) : 20000 < wt t 21 := by rcases ht with rfl | rfl <;> decide +kernel
theorem winv_small {t : Int} {L : Nat} {a b : Int} {rest : List Value} (ht : T12 t) (h : WInv t L a b rest) : L ≤ 20 := by
  refine Nat.not_lt.mp fun c => ?_
  have := wt_mono ht (show 21 ≤ L from c)
  have := wt_big ht
  have := h.low
  omega
theorem winv_next {t : Int} {L : Nat} {a b : Int} {rest : List Value} {tb : Tok} (h : WInv t L a b rest) (ha : a ≤ 20000) : WInv t (L + 1) (t * a + b) a (.int b tb :: rest) := by
  obtain ⟨rfl, rfl, hr, _⟩ := h
  exact ⟨(wt_rec t L).symm, rfl, .cons _ _ hr, ha⟩
theorem winv_end {t : Int} {L : Nat} {a b : Int} {rest : List Value} {ta tb : Tok} (ht : T12 t) (h : WInv t L a b rest) (ha : ¬ a ≤ 20000) : WtOk t (.int a ta :: .int b tb :: rest) (L + 2) := by
  have hs := winv_small ht h
  obtain ⟨rfl, rfl, hr, hlow⟩ := h
  refine ⟨.cons _ _ (.cons _ _ hr), ?_, by omega, by omega, hlow, Int.not_le.mp ha⟩
  have := (wt_pos ht (L + 1)).2
  show 20000 < wt t (L + 1 + 1)
  omega
theorem winv_less {t : Int} {L : Nat} {a b : Int} {rest : List Value} (ht : T12 t) (h : WInv t L a b rest) (ha : a ≤ 20000) : (60000 - (t * a + b)).toNat < (60000 - a).toNat := by
  have := (wt_pos ht L).1
  have hb := h.eb
  have := (wt_pos ht L).2
  have := h.ea
  rcases ht with rfl | rfl <;> omega
/-- the value the loop's turn stores is a small product -/
theorem winv_pos {t : Int} {L : Nat} {a b : Int} {rest : List Value} (ht : T12 t) (h : WInv t L a b rest) : 0 < b ∧ b < a := by
  have h1 := wt_pos ht L
  rw [← h.ea, ← h.eb] at h1
  exact h1
theorem wints_len {vs : List Value} {ns : List Int} (h : IntsAre vs ns) : vs.length = ns.length := h.length
theorem wls_len (t : Int) : ∀ L, (wls t L).length = L
  | 0 => rfl
  | L + 1 => congrArg (· + 1) (wls_len t L)
noncomputable def WhEnd (h₀ : Heap) (L : Addr) (m₀ : Str → Option Value) (news : List (Addr × Obj)) (t a : Int) (ta : Tok) (b : Int) (tb : Tok) (rest : List Value) (s s₂ : Shared) : Prop :=
  ∃ D h' tk tx n, s₂ = { s with heap := h', toks := tk } ∧ Fr h₀ L h' (fun z => if z = Str.ofString "weights" then some (.ref D) else m₀ z) ∧ News h₀ L h' ((D, W.listOf (.int (t * a + b) tx :: .int a ta :: .int b tb :: rest).toArray n) :: news)
noncomputable def WhPost (h₀ : Heap) (L : Addr) (m₀ : Str → Option Value) (news : List (Addr × Obj)) (t a : Int) (ta : Tok) (b : Int) (tb : Tok) (rest : List Value) (s : Shared) (Q : Flow → Shared → Prop) (f : Flow) (s₂ : Shared) : Prop :=
  match f with
  | .ret v => Q (.ret v) s₂
  | .brk => Q .next s₂
  | _ => WhEnd h₀ L m₀ news t a ta b tb rest s s₂
section
variable {prog : Program} {w : World} {A : Around} {E : Value → Shared → Prop} {Q : Flow → Shared → Prop} {s : Shared} {env : Env} {h₀ : Heap} {L : Addr}
theorem weights_while {test : PySem.Expr} {body : List Stmt} {pos : Pos} {m₀ : Str → Option Value} {news : List (Addr × Obj)} {D₀ : Addr} {t : Int} {t1 t2 : Tok} {n₀ : Nat} (ht : T12 t)
    (F : Fr h₀ L s.heap m₀) (N : News h₀ L s.heap ((D₀, W.listOf #[.int (t + 1) t1, .int 1 t2] n₀) :: news)) (hD : m₀ (Str.ofString "weights") = some (.ref D₀))
    (turn : ∀ D a ta b tb rest n Lw h tk, WInv t Lw a b rest → rest.length ≤ 20 → Fr h₀ L h (fun z => if z = Str.ofString "weights" then some (.ref D) else m₀ z) → News h₀ L h ((D, W.listOf (.int a ta :: .int b tb :: rest).toArray n) :: news) →
      wpAny (model prog w) A (isTrue test env (eval test env)) (fun bb s₂ => if bb = true then a ≤ 20000 ∧ wpAny (model prog w) A (execs body env) (WhPost h₀ L m₀ news t a ta b tb rest { s with heap := h, toks := tk } Q) E s₂ else Q .next s₂) E { s with heap := h, toks := tk })
    (hE : PassesOwn (model prog w) A env E := by passes_own) :
    wpAny (model prog w) A (exec (.While test body [] pos) env) Q E s := by
  refine While_inv2 (fun k m nx => ∃ D a ta b tb rest n Lw, nx = (D, W.listOf (.int a ta :: .int b tb :: rest).toArray n) :: news ∧ k = (60000 - a).toNat ∧ WInv t Lw a b rest ∧ m = fun z => if z = Str.ofString "weights" then some (.ref D) else m₀ z) F N
    ⟨D₀, _, t1, _, t2, [], n₀, 0, rfl, rfl, winv_start, ?_⟩ ?_ hE
  · funext z
    by_cases hz : z = Str.ofString "weights"
    · rw [if_pos hz, hz, hD]
    · rw [if_neg hz]
  · rintro k m₁ nx h tk F₁ N₁ ⟨D, a, ta, b, tb, rest, n, Lw, rfl, rfl, hI, rfl⟩
    have hlen : rest.length ≤ 20 := by rw [wints_len hI.are, wls_len]; exact winv_small ht hI
    refine wpAny_mono (turn D a ta b tb rest n Lw h tk hI hlen F₁ N₁) (fun bb s₂ p => ?_) fun _ _ x => x
    cases bb with
    | false => simpa using p
    | true =>
      simp only [if_true] at p ⊢
      obtain ⟨ha, p⟩ := p
      refine wpAny_mono p (fun f s₃ q => ?_) fun _ _ x => x
      have up : WhEnd h₀ L m₀ news t a ta b tb rest { s with heap := h, toks := tk } s₃ → ∃ h₁ tk₁ m₁ news₁ n₁, s₃ = { s with heap := h₁, toks := tk₁ } ∧ Fr h₀ L h₁ m₁ ∧ News h₀ L h₁ news₁ ∧ n₁ < (60000 - a).toNat ∧
          ∃ D a ta b tb rest n Lw, news₁ = (D, W.listOf (.int a ta :: .int b tb :: rest).toArray n) :: news ∧ n₁ = (60000 - a).toNat ∧ WInv t Lw a b rest ∧ m₁ = fun z => if z = Str.ofString "weights" then some (.ref D) else m₀ z := by
        rintro ⟨D', h', tk', tx, n', rfl, F', N'⟩
        exact ⟨h', tk', _, _, _, rfl, F', N', winv_less ht hI ha, D', _, tx, _, ta, _, n', Lw + 1, rfl, rfl, winv_next hI ha, rfl⟩
      cases f with
      | ret v => exact q
      | brk => exact q
      | next => exact up q
      | cont => exact up q
/-- an item of a list of the call's own that is written so far -/
theorem item_own {value slice : PySem.Expr} {D : Addr} {l : List Value} {k : Int} {v : Value} {n : Nat} {u : Tok} {m : Str → Option Value} {Q : Value → Shared → Prop} {news : List (Addr × Obj)}
    (_F : Fr h₀ L s.heap m) (N : News h₀ L s.heap news) (hm : (D, W.listOf l.toArray n) ∈ news) (h0 : 0 ≤ k) (hk : k < 2 ^ 63) (hv : l[k.toNat]? = some v) (h : Q v s)
    (hs : subscripted slice false (.ref D) (.int k u) = operate [.ref D, .int k u] (getItem (.ref D) (.int k u)) := by with_unfolding_all rfl) :
    wpAny (model prog w) A (subscriptTail value slice (.ref D) (.int k u)) Q E s := by
  have hl : s.heap.IsList D l.toArray := ⟨_, (N _ hm).1, rfl, n, rfl⟩
  exact tail_any hl.typeIs slot_list_getitem.lookup (wpAny_getItem_list hl h0 hk (by simpa using hv) h) hs
end
end Mine
end
section
open PySem PySem.W PyProof.Rows PySem.Calls
set_option maxRecDepth 100000
namespace Mine
theorem fmod_in (n : Int) {d : Int} (hd : 0 < d) : 0 ≤ n.fmod d ∧ n.fmod d < d := by
  rw [Int.fmod_eq_emod_of_nonneg _ (by omega)]
  exact ⟨Int.emod_nonneg _ (by omega), Int.emod_lt_of_pos _ hd⟩
theorem sh_ok (n : Int) : 0 ≤ n.fmod 14 ∧ n.fmod 14 ≤ 13 := by
  have := fmod_in n (show (0 : Int) < 14 by decide)
  omega
theorem pair_list {a b : Int} {ta tb : Tok} {c : Nat} : PairObj (W.listOf #[.int a ta, .int b tb] c) a b := ⟨ta, tb, c, .inl rfl⟩
theorem t12_of (n : Int) : T12 (1 + n.fmod 2) := by
  have := fmod_in n (show (0 : Int) < 2 by decide)
  omega
theorem pre_pos {t b : Int} (h : T12 t) : T12 t ∧ 0 ≤ 1 + b.fmod 4000 ∧ 1 + b.fmod 4000 ≤ 10000 := by
  have := fmod_in b (show (0 : Int) < 4000 by decide)
  exact ⟨h, by omega, by omega⟩
theorem lost_u {t a b : Int} (h : a ≤ b) : LostU t a b ↔ Lost t a b := by
  show Lost t (min a b) (max a b) ↔ _
  rw [Int.min_eq_left h, Int.max_eq_right h]
theorem lost_u' {t a b : Int} (h : b ≤ a) : LostU t a b ↔ Lost t b a := by
  show Lost t (min a b) (max a b) ↔ _
  rw [Int.min_eq_right h, Int.max_eq_left h]
theorem pos_lost {t k l g : Int} (ht : T12 t) (hk : 1 ≤ k ∧ k ≤ 4000) (hP : ∃ r, Root r ((t * t + 4) * k * k) ∧ l = ((2 - t) * k + r).fdiv 2) (hg : g = l + t * k) : Lost t l g ∧ 0 < l ∧ l ≤ g ∧ g < 20000 := by
  obtain ⟨r, hr, hl⟩ := hP
  rw [Int.fdiv_eq_ediv_of_nonneg _ (by omega)] at hl
  obtain ⟨ho, hn⟩ := pos_ok ht hk.1 hr hl
  have h1 := lt_two ht (by omega) hn
  have h2 := ho.kn
  refine ⟨.inr ⟨by omega, k, ho, hn, hg⟩, by omega, ?_, ?_⟩ <;> rcases ht with rfl | rfl <;> omega
theorem drawn_ok {t b l g : Int} (ht : T12 t) (hP : ∃ r, Root r ((t * t + 4) * (1 + b.fmod 4000) * (1 + b.fmod 4000)) ∧ l = ((2 - t) * (1 + b.fmod 4000) + r).fdiv 2) (hg : g = l + t * (1 + b.fmod 4000)) : LostU t l g ∧ 0 < l ∧ l ≤ g ∧ g < 20000 := by
  have := fmod_in b (show (0 : Int) < 4000 by decide)
  obtain ⟨h1, h2, h3, h4⟩ := pos_lost ht (by omega) hP hg
  exact ⟨(lost_u h3).mpr h1, h2, h3, h4⟩
theorem lost_pos_of {t a b : Int} (h : LostU t a b) (hab : a ≤ b) (h0 : 0 ≤ a) (hb : 0 < b) : Lost t a b ∧ 0 < a := by
  have h' := (lost_u hab).mp h
  refine ⟨h', ?_⟩
  rcases h' with ⟨rfl, rfl⟩ | ⟨h, _⟩
  · omega
  · exact h
theorem fr_eq {h₀ h : Heap} {L : Addr} {m m' : Str → Option Value} (F : Fr h₀ L h m) (e : ∀ z, m z = m' z) : Fr h₀ L h m' := by
  have : m = m' := funext e
  rw [← this]; exact F
theorem wh_end {h₀ : Heap} {L : Addr} {m₀ m : Str → Option Value} {news : List (Addr × Obj)} {t a : Int} {ta : Tok} {b : Int} {tb : Tok} {rest : List Value} {s : Shared} {D : Addr} {h' : Heap} {tk : Nat} {tx : Tok} {n : Nat} {led : List (Addr × Obj)}
    (F : Fr h₀ L h' m) (N : News h₀ L h' led) (hD : (D, W.listOf (.int (t * a + b) tx :: .int a ta :: .int b tb :: rest).toArray n) ∈ led) (hs : ∀ p ∈ news, p ∈ led)
    (e : ∀ z, m z = if z = Str.ofString "weights" then some (.ref D) else m₀ z) : WhEnd h₀ L m₀ news t a ta b tb rest s { s with heap := h', toks := tk } :=
  ⟨D, h', tk, tx, n, rfl, fr_eq F e, fun p hp => by
    rcases List.mem_cons.mp hp with rfl | hp
    · exact N _ hD
    · exact N p (hs p hp)⟩
end Mine
end
section
open PySem PySem.W PyProof.Rows PySem.Calls
set_option maxRecDepth 100000
namespace Mine
theorem two_ints {vs : List Value} {ns : List Int} (h : IntsAre vs ns) {a b : Int} (hp : ns.Perm [a, b]) (hs : ns.Pairwise (· ≤ ·)) : ∃ t1 t2, vs = [.int (min a b) t1, .int (max a b) t2] := by
  have hl := hp.length_eq
  obtain ⟨x, y, rfl⟩ : ∃ x y, ns = [x, y] := by
    match ns, hl with
    | [x, y], _ => exact ⟨x, y, rfl⟩
  cases h with
  | cons x t r =>
    cases r with
    | cons y u r =>
      cases r
      have hxy : x ≤ y := by simpa using hs
      have hx : x = a ∨ x = b := by have := hp.mem_iff.mp (.head _); simpa using this
      have hy : y = a ∨ y = b := by have := hp.mem_iff.mp (.tail _ (.head _)); simpa using this
      have ha : a = x ∨ a = y := by have := hp.symm.mem_iff.mp (.head _); simpa using this
      have hb : b = x ∨ b = y := by have := hp.symm.mem_iff.mp (.tail _ (.head _)); simpa using this
      have e : min a b = x ∧ max a b = y := by
        rcases ha with rfl | rfl
        · rcases hb with rfl | rfl
          · have e : y = b := by rcases hy with h | h <;> exact h
            exact ⟨Int.min_self _, by rw [e]; exact Int.max_self _⟩
          · exact ⟨Int.min_eq_left hxy, Int.max_eq_right hxy⟩
        · rcases hb with rfl | rfl
          · exact ⟨Int.min_eq_right hxy, Int.max_eq_left hxy⟩
          · have e : x = b := by rcases hx with h | h <;> exact h
            exact ⟨by rw [e]; exact Int.min_self _, Int.max_self _⟩
      exact ⟨t, u, by rw [e.1, e.2]⟩
section
variable {prog : Program} {w : World} {A : Around} {E : Value → Shared → Prop} {s : Shared} {h₀ : Heap} {L : Addr} {m : Str → Option Value} {news : List (Addr × Obj)}
/-- sorted of a list or a tuple of two ints -/
theorem sort_pair {D : Addr} {o : Obj} {a b : Int} {Q : Value → Shared → Prop} (F : Fr h₀ L s.heap m) (N : News h₀ L s.heap news) (hm : (D, o) ∈ news) (hp : PairObj o a b)
    (h : ∀ D' x y t1 t2 c h', x = min a b → y = max a b → Fr h₀ L h' m → News h₀ L h' ((D', W.listOf #[.int x t1, .int y t2] c) :: news) → AllLt D' news → Q (.ref D') { s with heap := h' }) :
    wpAny (model prog w) A (call (.builtin "sorted") [.ref D]) Q E s := by
  obtain ⟨ta, tb, c, ho⟩ := hp
  have hI : IntsAre [Value.int a ta, .int b tb] [a, b] := .cons _ _ (.cons _ _ .nil)
  have hod : ∃ T, (T = "list" ∨ T = "tuple") ∧ o.cls = .type T ∧ o.data = .seq #[.int a ta, .int b tb] c := by
    rcases ho with rfl | rfl
    · exact ⟨_, .inl rfl, rfl, rfl⟩
    · exact ⟨_, .inr rfl, rfl, rfl⟩
  obtain ⟨T, hT, hc, hd⟩ := hod
  refine Calls.call_function_entry kind_sorted plain_sorted entry_sorted (args_sorted1 _) ?_
  unfold Builtin.«sorted»
  refine wpAny_bind (m := checkCount "sorted" 1 1 _) (wpAny_pure ?_)
  refine wpAny_bind (wpAny_collect_seq D hT (N _ hm).1 hc hd (fun h1 hk1 => ?_) (by show 2 ≤ sizeLine; rw [sizeLine_eq]; omega))
  refine wpAny_bind (wpAny_newList ?_ (by show 2 ≤ sizeLine; rw [sizeLine_eq]; omega))
  have hoL : (h1.push (seqObj "list" [Value.int a ta, .int b tb].toArray 0)).get? h1.objs.size = some (seqObj "list" [Value.int a ta, .int b tb].toArray 0) := Heap.get?_push_size _ rfl
  show wpAny _ _ _ _ _ { s with heap := h1.push (seqObj "list" [Value.int a ta, .int b tb].toArray 0) }
  refine wpAny_bind (wpAny_holding (wpAny_call_entry slot_list_sort ⟨_, hoL, rfl⟩ entry_list_sort (list_sort_tree hoL hI (by show 2 < 64; decide) fun out ns' a1 a2 a3 => ⟨_, rfl, ?_⟩) (args_list_sort _)))
  refine wpAny_pure ⟨_, rfl, ?_⟩
  obtain ⟨t1, t2, e⟩ := two_ints a1 a2 a3
  obtain ⟨e', he'⟩ := sortedHeap_at (out := out) hoL
  have eo : out = #[.int (min a b) t1, .int (max a b) t2] := by rw [← Array.toArray_toList (xs := out), e]
  have F1 : Fr h₀ L h1 m := F.kept hk1
  have N1 : News h₀ L h1 news := N.grown hk1
  have hk : ∀ z o', h1.get? z = some o' → (sortedHeap (h1.push (seqObj "list" [Value.int a ta, .int b tb].toArray 0)) h1.objs.size [Value.int a ta, .int b tb] out).get? z = some o' := fun z o' q => by
    have hlt : z < h1.objs.size := Heap.lt_size q
    rw [sortedHeap_old (Nat.ne_of_lt hlt) (by rw [Heap.size_push]; exact Nat.lt_succ_of_lt hlt), Heap.get?_push_ne _ _ _ (Nat.ne_of_lt hlt)]
    exact q
  exact h _ _ _ t1 t2 e' _ rfl rfl (F1.kept hk) (N1.kept_cons F1 hk (Nat.le_refl _) (by rw [← eo]; exact he')) (allLt_of fun p hp => Heap.lt_size (N1 p hp).1)
end
theorem sorted_ok {x y A B : Int} (hx : x = min (A.fmod 10000) (B.fmod 10000)) (hy : y = max (A.fmod 10000) (B.fmod 10000)) : 0 ≤ x ∧ x ≤ y ∧ y < 10000 := by
  have h1 := fmod_in A (show (0 : Int) < 10000 by decide)
  have h2 := fmod_in B (show (0 : Int) < 10000 by decide)
  omega
theorem same_no {t x y l g : Int} (h : LostU t l g) (e : [x, y] = [l, g]) (hn : ¬ LostU t x y) : False := by
  injection e with e1 e
  injection e with e2 _
  subst e1 e2
  exact hn h
theorem moved_pre1 {t l g d : Int} (hT : T12 t) (hd : 0 ≤ d ∧ d < 1000000) (h : LostU t l g ∧ 0 < l ∧ l ≤ g ∧ g < 20000) : T12 t ∧ 0 ≤ d ∧ d < 1000000 ∧ 0 < l ∧ l ≤ g ∧ g < 20000 ∧ Lost t l g :=
  ⟨hT, hd.1, hd.2, h.2.1, h.2.2.1, h.2.2.2, (lost_u h.2.2.1).mp h.1⟩
theorem moved_pre2 {t l g d : Int} (hT : T12 t) (hd : 0 ≤ d ∧ d < 1000000) (h : LostU t l g) (hs : 0 ≤ l ∧ l ≤ g ∧ g < 10000) (hg : 0 < g) : T12 t ∧ 0 ≤ d ∧ d < 1000000 ∧ 0 < l ∧ l ≤ g ∧ g < 20000 ∧ Lost t l g := by
  obtain ⟨h1, h2⟩ := lost_pos_of h hs.2.1 hs.1 hg
  exact ⟨hT, hd.1, hd.2, h2, hs.2.1, by omega, h1⟩
theorem answer_pre {t l g : Int} (hT : T12 t) (h : ¬ LostU t l g) (hs : 0 ≤ l ∧ l ≤ g ∧ g < 10000) : T12 t ∧ 0 ≤ l ∧ l ≤ g ∧ g < 10000 ∧ ¬ Lost t l g :=
  ⟨hT, hs.1, hs.2.1, hs.2.2, fun c => h ((lost_u hs.2.1).mpr c)⟩
theorem inr_drawn {t l g : Int} (h : LostU t l g ∧ 0 < l ∧ l ≤ g ∧ g < 20000) : InR l g := by
  obtain ⟨_, h1, h2, h3⟩ := h
  exact ⟨⟨by omega, by omega⟩, by omega, by omega⟩
theorem inr_sorted {l g : Int} (h : 0 ≤ l ∧ l ≤ g ∧ g < 10000) : InR l g := by
  obtain ⟨h1, h2, h3⟩ := h
  exact ⟨⟨by omega, by omega⟩, by omega, by omega⟩
end Mine
end
section
namespace Mine
theorem small_ok {t n n' k : Int} (ht : t = 1 ∨ t = 2) (h : Ok t n k) (h' : Ok t n' k) (hn : Nm t n k < 0) (hn' : Nm t n' k < 0) : n = n' := by
  have key : ∀ {n n' : Int}, Ok t n k → Nm t n' k < 0 → ¬ n < n' := by
    intro n n' h hn' c
    have := pos_up ht (x := n + 1) (x' := n') (by have := h.n0; omega) h.k0 (by omega) h.a
    omega
  have a := key h hn'
  have b := key h' hn
  omega
/-- _law_answer's rank -/
theorem ans_rank {t l r k : Int} (ht : t = 1 ∨ t = 2) (hl : 0 ≤ l) (hr : Root r ((t * t + 4) * (l + 1) * (l + 1))) (hk : k = ((t - 2) * (l + 1) + r).fdiv (2 * t)) : Ok t l k := by
  rw [Int.fdiv_eq_ediv_of_nonneg _ (by rcases ht with rfl | rfl <;> omega)] at hk
  exact rank_ok ht hl hr hk
theorem pos_zero {t l r : Int} (hr : Root r ((t * t + 4) * 0 * 0)) (hl : l = ((2 - t) * 0 + r).fdiv 2) : l = 0 := by
  obtain ⟨r0, r1, r2⟩ := hr
  have : r = 0 := by
    refine Int.le_antisymm (Int.not_lt.mp fun c => ?_) r0
    have := Int.mul_pos c c
    omega
  subst this
  rw [hl]
  rw [Int.fdiv_eq_ediv_of_nonneg _ (by omega)]
  omega
theorem pos_at {t k l r : Int} (ht : t = 1 ∨ t = 2) (hk : 1 ≤ k) (hr : Root r ((t * t + 4) * k * k)) (hl : l = ((2 - t) * k + r).fdiv 2) : Ok t l k ∧ Nm t l k < 0 := by
  rw [Int.fdiv_eq_ediv_of_nonneg _ (by omega)] at hl
  exact pos_ok ht hk hr hl
/-- where the position of that rank is another, the heap's noughts are odd -/
theorem ans_odd {t l k l1 r : Int} (ht : t = 1 ∨ t = 2) (ho : Ok t l k) (hr : Root r ((t * t + 4) * k * k)) (hl1 : l1 = ((2 - t) * k + r).fdiv 2) (hne : l1 ≠ l) : Lost t (l - t * (l - k)) l ∧ 0 ≤ l - t * (l - k) ∧ l - t * (l - k) < l := by
  have hk0 := ho.k0
  by_cases hk : k = 0
  · subst hk
    have h1 := pos_zero hr hl1
    have h2 : ¬ 0 < l := fun c => by have := k_pos ht c ho; omega
    have h3 := ho.n0
    omega
  · obtain ⟨o1, n1⟩ := pos_at ht (by omega) hr hl1
    have hl0 : 0 < l := by have := ho.kn; omega
    have hp : 0 < Nm t l k := by
      refine Int.not_le.mp fun c => ?_
      have := nm_ne ht ho.n0 (by omega : 1 ≤ k)
      exact hne (small_ok ht o1 ho n1 (by omega))
    have hm := mate_odd ht hl0 ho hp
    refine ⟨hm, ?_, ?_⟩
    · rcases hm with ⟨e, _⟩ | ⟨e, _⟩ <;> omega
    · generalize l - t * (l - k) = m at hm
      rcases hm with ⟨_, e⟩ | ⟨e, k', o', _, e2⟩
      · omega
      · have := k_pos ht e o'
        rcases ht with rfl | rfl <;> omega
theorem ans_even {t l k r : Int} (ht : t = 1 ∨ t = 2) (ho : Ok t l k) (hr : Root r ((t * t + 4) * k * k)) (hl : l = ((2 - t) * k + r).fdiv 2) : Lost t l (l + t * k) := by
  have hk0 := ho.k0
  by_cases hk : k = 0
  · subst hk
    have h1 := pos_zero hr hl
    exact .inl ⟨h1, by rw [h1]; omega⟩
  · obtain ⟨o1, n1⟩ := pos_at ht (by omega) hr hl
    exact .inr ⟨by have := ho.kn; omega, k, ho, n1, rfl⟩
theorem ans_down {t l g k l2 g2 r : Int} (ht : t = 1 ∨ t = 2) (ho : Ok t l k) (hlg : l ≤ g) (hn : ¬ Lost t l g) (hL : Lost t l (l + t * k)) (hm : ¬ l + t * k < g) (hr : Root r ((t * t + 4) * (g - l).fdiv t * (g - l).fdiv t)) (hl2 : l2 = ((2 - t) * (g - l).fdiv t + r).fdiv 2)
    (hg2 : g2 = l2 + t * (g - l).fdiv t) : Lost t l2 g2 ∧ 0 ≤ l2 ∧ l2 ≤ g2 ∧ g2 ≤ g := by
  have hne : g ≠ l + t * k := fun e => hn (e ▸ hL)
  rw [Int.fdiv_eq_ediv_of_nonneg (g - l) (by rcases ht with rfl | rfl <;> omega)] at hr hl2 hg2
  generalize hq : (g - l) / t = q at hr hl2 hg2
  have hq0 : 0 ≤ q ∧ t * q ≤ g - l ∧ q < k := by
    rcases ht with rfl | rfl <;> omega
  by_cases h0 : q = 0
  · subst h0
    have := pos_zero hr hl2
    subst this
    have h0 := ho.n0
    exact ⟨.inl ⟨rfl, by omega⟩, by omega, by omega, by omega⟩
  · obtain ⟨o2, n2⟩ := pos_at ht (by omega) hr hl2
    have hlt : l2 < l := by
      refine Int.not_le.mp fun c => ?_
      have := ok_mono ht ho o2 c
      omega
    have h0 : 0 < l2 := by have := o2.kn; omega
    refine ⟨.inr ⟨h0, q, o2, n2, hg2⟩, by omega, ?_, by omega⟩
    rcases ht with rfl | rfl <;> omega

/-- the moves of _law_moved -/
theorem mv0 {t l g q : Int} (ht : t = 1 ∨ t = 2) (hl : 0 < l) (_hlg : l ≤ g) (h : Lost t l g) : ¬ Lost t (q.fmod l) g ∧ 0 ≤ q.fmod l ∧ q.fmod l < l := by
  have hb : 0 ≤ q.fmod l ∧ q.fmod l < l := by
    rw [Int.fmod_eq_emod_of_nonneg _ (by omega)]
    exact ⟨Int.emod_nonneg _ (by omega), Int.emod_lt_of_pos _ hl⟩
  exact ⟨move_less ht hl h hb, hb⟩
theorem mv1 {t l g q : Int} (ht : t = 1 ∨ t = 2) (hl : 0 < l) (hlg : l ≤ g) (h : Lost t l g) : (l ≤ q.fmod g → ¬ Lost t l (q.fmod g)) ∧ (q.fmod g < l → ¬ Lost t (q.fmod g) l) ∧ 0 ≤ q.fmod g ∧ q.fmod g < g := by
  have hb : 0 ≤ q.fmod g ∧ q.fmod g < g := by
    rw [Int.fmod_eq_emod_of_nonneg _ (by omega)]
    exact ⟨Int.emod_nonneg _ (by omega), Int.emod_lt_of_pos _ (by omega)⟩
  have := move_more ht hl h hb
  exact ⟨this.1, this.2, hb⟩
theorem mv2 {t l g q p off other d : Int} (ht : t = 1 ∨ t = 2) (hl : 0 < l) (hlg : l ≤ g) (h : Lost t l g) (ho : off = 1 + q.fmod l) (hot : other = off + p.fmod (2 * t - 1) - t + 1) (hd : d = max 1 (min g other)) :
    (l - off ≤ g - d → ¬ Lost t (l - off) (g - d)) ∧ (g - d < l - off → ¬ Lost t (g - d) (l - off)) ∧ 0 ≤ l - off ∧ l - off < l ∧ 0 ≤ g - d ∧ g - d < g := by
  have hb : 0 ≤ q.fmod l ∧ q.fmod l < l := by
    rw [Int.fmod_eq_emod_of_nonneg _ (by omega)]
    exact ⟨Int.emod_nonneg _ (by omega), Int.emod_lt_of_pos _ hl⟩
  have hp : 0 ≤ p.fmod (2 * t - 1) ∧ p.fmod (2 * t - 1) < 2 * t - 1 := by
    rw [Int.fmod_eq_emod_of_nonneg _ (by rcases ht with rfl | rfl <;> omega)]
    exact ⟨Int.emod_nonneg _ (by rcases ht with rfl | rfl <;> omega), Int.emod_lt_of_pos _ (by rcases ht with rfl | rfl <;> omega)⟩
  have h1 : 1 ≤ off ∧ off ≤ l := by omega
  have h2 : 1 ≤ d ∧ d ≤ g := by omega
  have h3 : off - d < t ∧ d - off < t := by omega
  have := move_both ht hl h h1 h2 h3
  exact ⟨this.1, this.2, by omega, by omega, by omega, by omega⟩
end Mine
end
section
open PySem PySem.W PyProof.Rows
set_option maxRecDepth 100000
set_option maxHeartbeats 2000000
namespace Mine
theorem root_ex : ∀ n : Nat, ∃ r : Int, Root r n
  | 0 => ⟨0, by omega, by decide, by decide⟩
  | n + 1 => by
    obtain ⟨r, h0, h1, h2⟩ := root_ex n
    by_cases h : ((n + 1 : Nat) : Int) < (r + 1) * (r + 1)
    · exact ⟨r, h0, by omega, h⟩
    · refine ⟨r + 1, by omega, by omega, ?_⟩
      have e : (r + 1 + 1) * (r + 1 + 1) = (r + 1) * (r + 1) + 2 * (r + 1) + 1 := by grind
      rw [e]
      omega
theorem root_of {n : Int} (h : 0 ≤ n) : ∃ r : Int, Root r n := by
  obtain ⟨r, hr⟩ := root_ex n.toNat
  rw [Int.toNat_of_nonneg h] at hr
  exact ⟨r, hr⟩
theorem pos_sq {t k : Int} (ht : T12 t) (hk : 0 ≤ k ∧ k ≤ 10000) : 0 ≤ (t * t + 4) * k * k ∧ (t * t + 4) * k * k < 2 ^ 30 := by
  have h1 : 0 ≤ k * k := Int.mul_nonneg hk.1 hk.1
  have h2 : k * k ≤ 10000 * 10000 := sq_le hk.1 hk.2
  have e : (t * t + 4) * k * k = t * t * (k * k) + 4 * (k * k) := by grind
  rw [e]
  rcases ht with rfl | rfl <;> omega
section
variable (w : World) (loose : List Str) (mean : ExcName → Option Value) (mg mb : Str → Option Value)
theorem ct_rootG (n : Int) (t : Tok) : CtG w loose mean mg mb 1 88 (fun _ => 0 ≤ n ∧ n < 2 ^ 30) [.int n t] (RootV n) := by
  intro news dp un gd cn cs a ccd cl outer A₀ base h₀ L m s Q E B F X N T hk hpre hd hu hret
  obtain ⟨r, hr⟩ := root_of hpre.1
  exact ct_root w loose mean mg mb n r t news dp un gd cn cs a ccd cl outer A₀ base h₀ L m s Q E B F X N T hk ⟨hpre.2, hr⟩ hd hu (fun t' h' tk' F' N' => hret _ [] h' tk' ⟨rfl, r, t', rfl, hr⟩ (fun _ h => nomatch h) F' N')
local macro_rules | `(tactic| walk_at "call ref") => `(tactic| (k_here; k_dflt (k_extra "call ref")))
theorem ct_position (k t : Int) (t1 t2 : Tok) : CtG w loose mean mg mb 2 95 (fun _ => T12 t ∧ 0 ≤ k ∧ k ≤ 10000) [.int k t1, .int t t2] (PosV t k) := by
  intro news dp un gd cn cs a ccd cl outer A₀ base h₀ L m s Q E B F X N T hk hpre hd hu hret
  obtain ⟨ht, hk0⟩ := hpre
  have hq := pos_sq ht hk0
  obtain ⟨hk1, hk2⟩ := hk0
  rcases ht with rfl | rfl <;> (
    refine wpAny_call ?_
    k_dflt cell_enter
    k_with_none
    k_with "call ref" => first
      | (refine CtG.use (ct_rootG _ _ _ _ _ _ _) (by k_asm) (by k_asm) (by k_asm) (by k_asm) (by k_asm) (by first | exact rfl | assumption) (by k_extra "pre root") (by first | ktr_room | decide) (by first | ktr_units | decide) ?_
         k_whole
         rintro v' own' h' tk' ⟨hw', r', t', hv', hr'⟩ lt' F' N'
         subst hv' hw'
         clear lt'
         simp only [List.nil_append] at N'
         k_extra "after root"
         (try dsimp only))
    k_with "pre root" => exact hq
    k_with "after root" => skip
    k_steps
    have hlt := (by assumption : ∀ p ∈ news, p.1 < _)
    exact hret _ [(_, _)] _ _ ⟨_, _, _, _, _, _, rfl, rfl, ⟨_, by assumption, rfl⟩, rfl⟩ (fun p hp => by rw [List.mem_singleton.mp hp]; exact allLt_of hlt) (by assumption) (by assumption))
end
end Mine
end
section
open PySem PySem.W PyProof.Rows
set_option maxRecDepth 100000
set_option maxHeartbeats 2000000
namespace Mine
theorem pv_tup {R : Int → Int → Prop} {a b : Int} {ta tb : Tok} {c : Nat} {D : Addr} (hin : InR a b) (hR : R a b) : PairV R (.ref D) [(D, ({ cls := .type "tuple", data := .seq #[.int a ta, .int b tb] c } : Obj))] :=
  ⟨D, _, a, b, rfl, rfl, ⟨ta, tb, c, .inr rfl⟩, hin, hR⟩
theorem pv_list {R : Int → Int → Prop} {a b : Int} {ta tb : Tok} {c : Nat} {D : Addr} (hin : InR a b) (hR : R a b) : PairV R (.ref D) [(D, W.listOf #[.int a ta, .int b tb] c)] :=
  ⟨D, _, a, b, rfl, rfl, ⟨ta, tb, c, .inl rfl⟩, hin, hR⟩
theorem not_u {t a b : Int} (h1 : a ≤ b → ¬ Lost t a b) (h2 : b < a → ¬ Lost t b a) : ¬ LostU t a b := by
  by_cases h : a ≤ b
  · rw [lost_u h]; exact h1 h
  · rw [lost_u' (by omega)]; exact h2 (by omega)
theorem mve0 {t l g q : Int} (ht : T12 t) (hl : 0 < l) (hlg : l ≤ g) (hg : g < 20000) (h : Lost t l g) : InR (q.fmod l) g ∧ ¬ LostU t (q.fmod l) g := by
  obtain ⟨h1, h2, h3⟩ := mv0 (q := q) ht hl hlg h
  exact ⟨⟨⟨h2, by omega⟩, by omega, hg⟩, by rw [lost_u (by omega)]; exact h1⟩
theorem mve1 {t l g q : Int} (ht : T12 t) (hl : 0 < l) (hlg : l ≤ g) (hg : g < 20000) (h : Lost t l g) : InR l (q.fmod g) ∧ ¬ LostU t l (q.fmod g) := by
  obtain ⟨h1, h2, h3, h4⟩ := mv1 (q := q) ht hl hlg h
  exact ⟨⟨⟨by omega, by omega⟩, h3, by omega⟩, not_u h1 h2⟩
theorem mve2 {t l g q p : Int} (ht : T12 t) (hl : 0 < l) (hlg : l ≤ g) (hg : g < 20000) (h : Lost t l g) :
    InR (l - (1 + q.fmod l)) (g - if (if 1 + q.fmod l + p.fmod (2 * t - 1) - t + 1 < g then 1 + q.fmod l + p.fmod (2 * t - 1) - t + 1 else g) > 1 then if 1 + q.fmod l + p.fmod (2 * t - 1) - t + 1 < g then 1 + q.fmod l + p.fmod (2 * t - 1) - t + 1 else g else 1) ∧
    ¬ LostU t (l - (1 + q.fmod l)) (g - if (if 1 + q.fmod l + p.fmod (2 * t - 1) - t + 1 < g then 1 + q.fmod l + p.fmod (2 * t - 1) - t + 1 else g) > 1 then if 1 + q.fmod l + p.fmod (2 * t - 1) - t + 1 < g then 1 + q.fmod l + p.fmod (2 * t - 1) - t + 1 else g else 1) := by
  generalize ho : 1 + q.fmod l + p.fmod (2 * t - 1) - t + 1 = o
  generalize hd : (if (if o < g then o else g) > 1 then if o < g then o else g else 1) = d
  have hd' : d = max 1 (min g o) := by rw [← hd]; split <;> split <;> omega
  obtain ⟨h1, h2, h3, h4, h5, h6⟩ := mv2 (q := q) (p := p) ht hl hlg h rfl ho.symm hd'
  exact ⟨⟨⟨h3, by omega⟩, h5, by omega⟩, not_u h1 h2⟩
theorem drop2 {α : Type} {x y : α} {l : List α} : ∀ p ∈ x :: l, p ∈ x :: y :: l := fun p hp => by
  rcases List.mem_cons.mp hp with rfl | hp
  · exact .head _
  · exact .tail _ (.tail _ hp)
theorem an_rank {t l r : Int} (ht : T12 t) (hl : 0 ≤ l) (hr : Root r ((t * t + 4) * (l + 1) ^ Int.toNat 2)) : Ok t l (((t - 2) * (l + 1) + r).fdiv (2 * t)) := by
  have e : (t * t + 4) * (l + 1) ^ Int.toNat 2 = (t * t + 4) * (l + 1) * (l + 1) := by
    show (t * t + 4) * (l + 1) ^ 2 = _
    grind
  rw [e] at hr
  exact ans_rank ht hl hr rfl
theorem an_sq {t l : Int} (ht : T12 t) (hl : 0 ≤ l + 1 ∧ l + 1 ≤ 10000) : 0 ≤ (t * t + 4) * (l + 1) ^ Int.toNat 2 ∧ (t * t + 4) * (l + 1) ^ Int.toNat 2 < 2 ^ 30 := by
  have e : (t * t + 4) * (l + 1) ^ Int.toNat 2 = (t * t + 4) * (l + 1) * (l + 1) := by
    show (t * t + 4) * (l + 1) ^ 2 = _
    grind
  rw [e]
  exact pos_sq ht hl
theorem an_pre1 {t l k g : Int} (ht : T12 t) (ho : Ok t l k) (hlg : l ≤ g) (hg : g < 10000) : T12 t ∧ 0 ≤ k ∧ k ≤ 10000 := ⟨ht, ho.k0, by have := ho.kn; omega⟩
theorem an_pre2 {t l g : Int} (ht : T12 t) (hl : 0 ≤ l) (hlg : l ≤ g) (hg : g < 10000) : T12 t ∧ 0 ≤ (g - l).fdiv t ∧ (g - l).fdiv t ≤ 10000 := by
  refine ⟨ht, ?_⟩
  rw [Int.fdiv_eq_ediv_of_nonneg (g - l) (by rcases ht with rfl | rfl <;> omega)]
  rcases ht with rfl | rfl <;> omega
theorem an_e1 {t l g k l1 : Int} (ht : T12 t) (hl : 0 ≤ l) (hlg : l ≤ g) (hg : g < 10000) (ho : Ok t l k) (hP : ∃ r, Root r ((t * t + 4) * k * k) ∧ l1 = ((2 - t) * k + r).fdiv 2) (hne : l1 ≠ l) : (InR l (l - t * (l - k)) ∧ LostU t l (l - t * (l - k))) ∧ l - t * (l - k) < l := by
  obtain ⟨r, hr, h1⟩ := hP
  obtain ⟨h2, h3, h4⟩ := ans_odd ht ho hr h1 hne
  exact ⟨⟨⟨⟨by omega, by omega⟩, h3, by omega⟩, by rw [lost_u' (by omega)]; exact h2⟩, h4⟩
theorem an_e3 {t l g k l1 : Int} (ht : T12 t) (hl : 0 ≤ l) (hg : g < 10000) (ho : Ok t l k) (hP : ∃ r, Root r ((t * t + 4) * k * k) ∧ l1 = ((2 - t) * k + r).fdiv 2) (he : l1 = l) (hm : l + t * k < g) : InR l (l + t * k) ∧ LostU t l (l + t * k) := by
  obtain ⟨r, hr, h1⟩ := hP
  subst he
  have hk : l1 ≤ l1 + t * k := by have := ho.k0; rcases ht with rfl | rfl <;> omega
  exact ⟨⟨⟨by omega, by omega⟩, by omega, by omega⟩, by rw [lost_u hk]; exact ans_even ht ho hr h1⟩
theorem an_e4 {t l g k l1 l2 g2 : Int} (ht : T12 t) (hlg : l ≤ g) (hg : g < 10000) (hn : ¬ Lost t l g) (ho : Ok t l k) (hP : ∃ r, Root r ((t * t + 4) * k * k) ∧ l1 = ((2 - t) * k + r).fdiv 2) (he : l1 = l) (hm : ¬ l + t * k < g)
    (hP2 : ∃ r, Root r ((t * t + 4) * (g - l).fdiv t * (g - l).fdiv t) ∧ l2 = ((2 - t) * (g - l).fdiv t + r).fdiv 2) (hg2 : g2 = l2 + t * (g - l).fdiv t) : InR l2 g2 ∧ LostU t l2 g2 := by
  obtain ⟨r, hr, h1⟩ := hP
  obtain ⟨r2, hr2, h2⟩ := hP2
  subst he
  obtain ⟨a, b, c, d⟩ := ans_down ht ho hlg hn (ans_even ht ho hr h1) hm hr2 h2 hg2
  exact ⟨⟨⟨by omega, by omega⟩, by omega, by omega⟩, by rw [lost_u c]; exact a⟩
section
variable (w : World) (loose : List Str) (mean : ExcName → Option Value) (mg mb : Str → Option Value)
local macro_rules | `(tactic| walk_at "call ref") => `(tactic| (k_here; k_dflt (k_extra "call ref")))
local macro_rules | `(tactic| walk_at "binaryOp Pow int int") => `(tactic| k_dflt (k_extra "pow"))
local macro_rules | `(tactic| walk_at "binaryOp Mult int int") => `(tactic| k_dflt (k_extra "mult"))
theorem ct_moved (t l g d : Int) (t1 t2 t3 t4 : Tok) : CtG w loose mean mg mb 1 112 (fun _ => T12 t ∧ 0 ≤ d ∧ d < 1000000 ∧ 0 < l ∧ l ≤ g ∧ g < 20000 ∧ Lost t l g) [.int l t1, .int g t2, .int d t3, .int t t4] (PairV (fun a b => ¬ LostU t a b)) := by
  intro news dp un gd cn cs a ccd cl outer A₀ base h₀ L m s Q E B F X N T hk hpre hd hu hret
  obtain ⟨ht, hd0, hd1, hl, hlg, hg, hL⟩ := hpre
  have hg0 : 0 < g := by omega
  have ht2 : 0 < 2 * t - 1 := by omega
  refine wpAny_call ?_
  k_dflt cell_enter
  k_with_none
  k_steps
  all_goals (
    have hlt := (by assumption : ∀ p ∈ news, p.1 < _)
    first
    | exact hret _ [(_, _)] _ _ (pv_tup (mve0 ht hl hlg hg hL).1 (mve0 ht hl hlg hg hL).2) (fun p hp => by rw [List.mem_singleton.mp hp]; exact allLt_of hlt) (by assumption) (by assumption)
    | exact hret _ [(_, _)] _ _ (pv_tup (mve1 ht hl hlg hg hL).1 (mve1 ht hl hlg hg hL).2) (fun p hp => by rw [List.mem_singleton.mp hp]; exact allLt_of hlt) (by assumption) (by assumption)
    | exact hret _ [(_, _)] _ _ (pv_tup (mve2 ht hl hlg hg hL).1 (mve2 ht hl hlg hg hL).2) (fun p hp => by rw [List.mem_singleton.mp hp]; exact allLt_of hlt) (by assumption) (by assumption))
theorem ct_answer (t l g : Int) (t1 t2 t3 : Tok) : CtG w loose mean mg mb 3 119 (fun _ => T12 t ∧ 0 ≤ l ∧ l ≤ g ∧ g < 10000 ∧ ¬ Lost t l g) [.int l t1, .int g t2, .int t t3] (PairV (fun a b => LostU t a b)) := by
  intro news dp un gd cn cs a ccd cl outer A₀ base h₀ L m s Q E B F X N T hk hpre hd hu hret
  obtain ⟨ht, hl, hlg, hg, hL⟩ := hpre
  have hq := pos_sq (k := l + 1) ht (by omega)
  have ht2 : 0 < 2 * t := by omega
  have htp : 0 < t := by omega
  have htt : 0 ≤ t * t + 4 ∧ t * t + 4 ≤ 8 := by rcases ht with rfl | rfl <;> decide
  refine wpAny_call ?_
  k_dflt cell_enter
  k_with_none
  k_with "call ref" => first
    | (refine CtG.use (ct_rootG _ _ _ _ _ _ _) (by k_asm) (by k_asm) (by k_asm) (by k_asm) (by k_asm) (by first | exact rfl | assumption) (by k_extra "pre root") (by first | ktr_room | decide) (by first | ktr_units | decide) ?_
       k_whole
       rintro v' own' h' tk' ⟨hw', r', t', hv', hr'⟩ lt' F' N'
       subst hv' hw'
       clear lt'
       simp only [List.nil_append] at N'
       k_extra "after root"
       (try dsimp only))
    | (refine CtG.use (ct_position _ _ _ _ _ _ _ _ _) (by k_asm) (by k_asm) (by k_asm) (by k_asm) (by k_asm) (by first | exact rfl | assumption) (by k_extra "pre position") (by first | ktr_room | decide) (by first | ktr_units | decide) ?_
       k_whole
       rintro v' own' h' tk' ⟨D1', l', g', ta', tb', c1', hv', hw', hPos', hg'⟩ lt' F' N'
       subst hv' hw'
       (have l1 := lt' _ (.head _); clear lt'; simp only [AllLt, and_true] at l1; simp only [List.cons_append, List.nil_append] at N')
       k_extra "after position"
       (try dsimp only))
  k_with "pow" => (with_reducible refine pow_int_small (by omega) (by omega) (by omega) ?_)
  k_with "pre root" => exact an_sq ht (by omega)
  k_with "after root" => have ho := an_rank ht hl (by assumption)
  k_with "pre position" => first | exact an_pre1 ht ho hlg hg | exact an_pre2 ht hl hlg hg
  k_with "after position" => skip
  k_with "mult" => first | (refine mul_int ?_ (PySem.IntMulOk.of_left (PySem.intBits_le_64 (by omega) (by omega)))) | (refine mul_int ?_ (PySem.IntMulOk.of_right (PySem.intBits_le_64 (by omega) (by omega))))
  k_steps
  all_goals (
    have hlt := (by assumption : _ ∧ AllLt _ news).2
    first
    | (have hE := an_e1 ht hl hlg hg ho (by with_reducible assumption) (by with_reducible assumption)
       exact hret _ [(_, _)] _ _ (pv_tup hE.1.1 hE.1.2) (fun p hp => by rw [List.mem_singleton.mp hp]; exact hlt) (by assumption) (cb_drop (by assumption) drop2))
    | (have hE := an_e1 ht hl hlg hg ho (by with_reducible assumption) (by with_reducible assumption)
       have hE2 := hE.2
       exfalso
       omega)
    | (have hE := an_e3 ht hl hg ho (by with_reducible assumption) (by with_reducible assumption) (by with_reducible assumption)
       exact hret _ [(_, _)] _ _ (pv_tup hE.1 hE.2) (fun p hp => by rw [List.mem_singleton.mp hp]; exact hlt) (by assumption) (cb_drop (by assumption) drop2))
    | (have hE := an_e4 ht hlg hg hL ho (by with_reducible assumption) (by with_reducible assumption) (by with_reducible assumption) (by with_reducible assumption) (by with_reducible assumption)
       exact hret _ [(_, _)] _ _ (pv_list hE.1 hE.2) (fun p hp => by rw [List.mem_singleton.mp hp]; exact hlt) (by assumption) (cb_drop (by assumption) drop2))
)
end
end Mine
end
section
open PySem PySem.W PyProof.Rows
set_option maxRecDepth 100000
set_option maxHeartbeats 2000000
namespace Mine
theorem lower_cap (c : Nat) (h : 65 ≤ c ∧ c ≤ 90) : Txt.lower ⟨#[c]⟩ = ⟨#[c + 32]⟩ := by
  have : ∀ i : Fin 26, Txt.lower ⟨#[65 + i.val]⟩ = ⟨#[65 + i.val + 32]⟩ := by decide +kernel
  have := this ⟨c - 65, by omega⟩
  have e : 65 + (c - 65) = c := by omega
  simpa only [e] using this
theorem call_lower {prog : Program} {w : World} {A : Around} {E : Value → Shared → Prop} {s : Shared} {c : Nat} {t : Tok} {Q : Value → Shared → Prop} (h : 65 ≤ c ∧ c ≤ 90) (hQ : ∀ t' k, Q (.str ⟨#[c + 32]⟩ t') { s with toks := k }) : wpAny (model prog w) A (call (.builtin "str.lower") [.str ⟨#[c]⟩ t]) Q E s := by
  refine PySem.SC.lower ?_ ?_
  · rw [lower_cap c h]
    show decide (1 > sizeLine) = false
    rw [sizeLine_eq]
    decide
  · rw [lower_cap c h]
    exact hQ _ _
section
variable (w : World) (loose : List Str) (mean : ExcName → Option Value) (mg mb : Str → Option Value)
local macro_rules | `(tactic| walk_at "getMethod ref") => `(tactic| (k_here; k_dflt (k_extra "method")))
local macro_rules | `(tactic| walk_at "call builtin:str.lower") => `(tactic| (k_here; k_dflt (refine call_lower (by assumption) ?_; intro t' k')))
local macro_rules | `(tactic| walk_at "call builtin:dict.get") => `(tactic| (k_here; k_dflt (k_extra "get"); (try dsimp only [Option.getD])))
theorem ct_mapS (c : Nat) (x : Str) (t tv : Tok) (hl : findBy Value.isInt ES.toArray (c : Int) = some (.str x tv)) : CtG w loose mean mg mb 1 74 (fun _ => True) [.str ⟨#[c]⟩ t] (StrV x) := by
  intro news dp un gd cn cs a ccd cl outer A₀ base h₀ L m s Q E B F X N T hk hpre hd hu hret
  refine wpAny_call ?_
  k_dflt cell_enter
  k_with_none
  k_with "method" => (refine b3_method (by k_asm) (by k_asm) ?_)
  k_with "get" => (refine b3_get (by k_asm) (by k_asm) (by assumption) ?_)
  k_steps
  exact hret _ [] _ _ ⟨rfl, _, rfl⟩ (fun _ h => nomatch h) (by assumption) (by assumption)
theorem ct_mapN (c : Nat) (t : Tok) (hl : findBy Value.isInt ES.toArray (c : Int) = none) (hc : 65 ≤ c ∧ c ≤ 90) : CtG w loose mean mg mb 1 74 (fun _ => True) [.str ⟨#[c]⟩ t] (StrV ⟨#[c + 32]⟩) := by
  intro news dp un gd cn cs a ccd cl outer A₀ base h₀ L m s Q E B F X N T hk hpre hd hu hret
  refine wpAny_call ?_
  k_dflt cell_enter
  k_with_none
  k_with "method" => (refine b3_method (by k_asm) (by k_asm) ?_)
  k_with "get" => (refine b3_get (by k_asm) (by k_asm) (by assumption) ?_)
  k_steps
  exact hret _ [] _ _ ⟨rfl, _, rfl⟩ (fun _ h => nomatch h) (by assumption) (by assumption)
theorem ct_map (c : Nat) (l : List Nat) (t : Tok) : CtG w loose mean mg mb 1 74 (fun _ => B3 c l) [.str ⟨#[c]⟩ t] (StrV ⟨l.toArray⟩) := by
  intro news dp un gd cn cs a ccd cl outer A₀ base h₀ L m s Q E B F X N T hk hpre hd hu hret
  rcases hpre with ⟨tv, hl⟩ | ⟨hl, h1, h2, rfl⟩
  · exact ct_mapS w loose mean mg mb c _ t tv hl news dp un gd cn cs a ccd cl outer A₀ base h₀ L m s Q E B F X N T hk trivial hd hu hret
  · exact ct_mapN w loose mean mg mb c t hl ⟨h1, h2⟩ news dp un gd cn cs a ccd cl outer A₀ base h₀ L m s Q E B F X N T hk trivial hd hu hret
end
end Mine
end
section
open PySem PySem.W PyProof.Rows PySem.Calls
set_option maxRecDepth 1000000
namespace Mine
/-- the first letters of the signs -/
noncomputable def firsts : List Nat := [97, 98, 100, 102, 103, 104, 107, 109, 110, 111, 112, 114, 115, 116, 119]
noncomputable def caps : List Int := [65, 119808, 119860, 119912, 120016, 120172, 120224, 120276, 120328, 120380, 120432]
/-- the signs' codes and letters, in rising order -/
noncomputable def wS : List (Nat × List Nat) := [(8360, [114, 115]), (8470, [110, 111]), (8480, [115, 109]), (8482, [116, 109]), (13171, [97, 117]), (13173, [111, 118]), (13184, [112, 97]), (13185, [110, 97]), (13187, [109, 97]), (13188, [107, 97]), (13189, [107, 98]), (13190, [109, 98]), (13191, [103, 98]), (13194, [112, 102]), (13195, [110, 102]), (13200, [104, 122]), (13225, [112, 97]), (13236, [112, 118]), (13237, [110, 118]), (13239, [109, 118]), (13240, [107, 118]), (13241, [109, 118]), (13242, [112, 119]), (13243, [110, 119]), (13245, [109, 119]), (13246, [107, 119]), (13247, [109, 119]), (13251, [98, 113]), (13256, [100, 98]), (13257, [103, 121]), (13259, [104, 112]), (13262, [107, 109]), (13271, [112, 104]), (13273, [112, 112, 109]), (13274, [112, 114]), (13276, [115, 118]), (13277, [119, 98]), (64257, [102, 105]), (64258, [102, 108]), (64259, [102, 102, 105]), (64260, [102, 102, 108]), (64261, [115, 116]), (64262, [115, 116])]
noncomputable def wC (cp : Nat) : List (Nat × List Nat) := firsts.map fun a => (cp + a - 97, [a])
noncomputable def wA : List (Nat × List Nat) := wS ++ (caps.drop 1).flatMap fun cp => wC cp.toNat
/-- the pairs, looked for in one pass -/
noncomputable def subE : List (Nat × List Nat) → List En → Bool
  | [], _ => true
  | _ :: _, [] => false
  | w :: ws, e :: es => match Nat.beq e.k w.1 with
    | true => (e.v == ⟨w.2.toArray⟩) && subE ws es
    | false => subE (w :: ws) es
theorem subE_spec : ∀ {es : List En} {ws : List (Nat × List Nat)}, subE ws es = true → ∀ w ∈ ws, ∃ e ∈ es, e.k = w.1 ∧ e.v = ⟨w.2.toArray⟩
  | _, [], _, w, hw => nomatch hw
  | [], _ :: _, h, _, _ => nomatch h
  | e :: es, w :: ws, h, x, hx => by
    unfold subE at h
    split at h
    · rename_i hb
      rw [Bool.and_eq_true] at h
      rcases List.mem_cons.mp hx with rfl | hx
      · exact ⟨e, .head _, Nat.eq_of_beq_eq_true hb, by simpa using h.1⟩
      · obtain ⟨y, hy, r⟩ := subE_spec h.2 x hx
        exact ⟨y, .tail _ hy, r⟩
    · obtain ⟨y, hy, r⟩ := subE_spec h x hx
      exact ⟨y, .tail _ hy, r⟩
theorem all_wanted : subE wA eAll = true := by kernel_rfl
theorem all_above : (eAll.all fun e => Nat.blt 122 e.k) = true := by kernel_rfl
/-- what is found in the laid entries is told by the written ones -/
noncomputable def Tells (l : List En) (c : Int) (r : Option Value) : Prop := match l.find? fun x => ((x.k : Int) == c) with
  | some x => ∃ tv, r = some (.str x.v tv)
  | none => r = none
noncomputable abbrev lk (c : Int) (es : List DictEntry) : Option Value := (es.find? fun e => Value.isInt c e.key).map (·.val)
theorem tells_cons {x : En} {l : List En} {c : Int} {t : Tok} {u : Tok} {hs : Int} {es : List DictEntry} (ih : Tells l c (lk c es)) : Tells (x :: l) c (lk c (⟨hs, .int x.k t, .str x.v u⟩ :: es)) := by
  unfold Tells lk at *
  rw [List.find?_cons, List.find?_cons]
  have e : Value.isInt c (.int x.k t) = ((x.k : Int) == c) := rfl
  rw [e]
  cases h : ((x.k : Int) == c) with
  | true => exact ⟨u, rfl⟩
  | false => exact ih
theorem ents_tell (c : Int) : ∀ (t : Nat) (l : List En), Tells l c (lk c (ents t l))
  | _, [] => rfl
  | t, x :: l => tells_cons (ents_tell c (t + 3) l)
theorem entsS_tell (c : Int) : ∀ (t : Nat) (l : List En), Tells l c (lk c (entsS t l))
  | _, [] => rfl
  | t, x :: l => tells_cons (entsS_tell c (t + 2) l)
theorem tells_app {l l' : List En} {c : Int} {es es' : List DictEntry} (h : Tells l c (lk c es)) (h' : Tells l' c (lk c es')) : Tells (l ++ l') c (lk c (es ++ es')) := by
  unfold Tells lk at *
  rw [List.find?_append, List.find?_append]
  cases h1 : l.find? fun x => ((x.k : Int) == c) with
  | some x =>
    rw [h1] at h
    obtain ⟨tv, h⟩ := h
    refine ⟨tv, ?_⟩
    cases h2 : es.find? fun e => Value.isInt c e.key with
    | none => rw [h2] at h; cases h
    | some e => rw [h2] at h; exact h
  | none =>
    rw [h1] at h
    cases h2 : es.find? fun e => Value.isInt c e.key with
    | some e => rw [h2] at h; cases h
    | none => exact h'
theorem es_tell (c : Int) : Tells eAll c (findBy Value.isInt ES.toArray c) := by
  have h : Tells ((e0 ++ eM.flatten) ++ e38) c (lk c ES) := tells_app (tells_app (ents_tell c _ _) (ents_tell c _ _)) (entsS_tell c _ _)
  have e1 : (e0 ++ eM.flatten) ++ e38 = eAll := List.append_assoc ..
  have e2 : findBy Value.isInt ES.toArray c = lk c ES := by
    unfold findBy lk
    rw [List.find?_toArray]
  rw [e1] at h
  rw [e2]
  exact h
theorem rise_find {c : Nat} : ∀ {l : List En} {x : En}, Rise l → x ∈ l → x.k = c → (l.find? fun y => ((y.k : Int) == (c : Int))) = some x
  | y :: l, x, hr, hx, hc => by
    rw [List.find?_cons]
    have hp := List.pairwise_cons.mp hr
    by_cases h : y.k = c
    · have e : ((y.k : Int) == (c : Int)) = true := by simp [h]
      rw [e]
      rcases List.mem_cons.mp hx with rfl | hx
      · rfl
      · exact absurd (h.trans hc.symm) (hp.1 x hx)
    · have e : ((y.k : Int) == (c : Int)) = false := by simp; omega
      rw [e]
      rcases List.mem_cons.mp hx with rfl | hx
      · exact absurd hc h
      · exact rise_find hp.2 hx hc
theorem wanted_b3 {c : Nat} {l : List Nat} (h : (c, l) ∈ wA) : B3 c l := by
  obtain ⟨e, he, hk, hv⟩ := subE_spec all_wanted _ h
  have hf := rise_find all_rise he hk
  have ht := es_tell (c : Int)
  unfold Tells at ht
  rw [hf] at ht
  obtain ⟨tv, ht⟩ := ht
  exact .inl ⟨tv, by rw [ht, hv]⟩
theorem low_none {c : Nat} (h : c ≤ 122) : findBy Value.isInt ES.toArray (c : Int) = none := by
  have hn : (eAll.find? fun y => ((y.k : Int) == (c : Int))) = none := by
    rw [List.find?_eq_none]
    intro x hx
    have := List.all_eq_true.mp all_above x hx
    have h1 : 122 < x.k := Nat.lt_of_lt_of_le (Nat.lt_succ_self _) (Nat.le_of_ble_eq_true this)
    simp
    omega
  have ht := es_tell (c : Int)
  unfold Tells at ht
  rw [hn] at ht
  exact ht
theorem firsts_in {a : Nat} (h : a ∈ firsts) : 97 ≤ a ∧ a ≤ 122 := by
  have : ∀ a ∈ firsts, 97 ≤ a ∧ a ≤ 122 := by decide
  exact this a h
theorem alone_ok {j a : Nat} (hj : j < 11) (ha : a ∈ firsts) : B3 (caps.getD j 0 + (a : Int) - 97).toNat [a] := by
  have hr := firsts_in ha
  by_cases h0 : j = 0
  · subst h0
    have e : (caps.getD 0 0 + (a : Int) - 97).toNat = a - 32 := by
      show ((65 : Int) + a - 97).toNat = _
      omega
    have e2 : [a] = [a - 32 + 32] := by congr 1; omega
    rw [e]
    exact .inr ⟨low_none (by omega), by omega, by omega, e2⟩
  · have hm : caps.getD j 0 ∈ caps.drop 1 ∧ 65 ≤ caps.getD j 0 := by
      have : ∀ j : Fin 11, j.val ≠ 0 → caps.getD j.val 0 ∈ caps.drop 1 ∧ 65 ≤ caps.getD j.val 0 := by decide
      exact this ⟨j, hj⟩ h0
    refine wanted_b3 (List.mem_append.mpr (.inr (List.mem_flatMap.mpr ⟨_, hm.1, List.mem_map.mpr ⟨a, ha, ?_⟩⟩)))
    have : (caps.getD j 0).toNat + a - 97 = (caps.getD j 0 + (a : Int) - 97).toNat := by omega
    rw [this]
theorem caps_room {j : Nat} (hj : j < 11) : 65 ≤ caps.getD j 0 ∧ caps.getD j 0 ≤ 120432 := by
  have : ∀ j : Fin 11, 65 ≤ caps.getD j.val 0 ∧ caps.getD j.val 0 ≤ 120432 := by decide
  exact this ⟨j, hj⟩
/-- a table of signs, each with its two letters -/
noncomputable def tabOk (x : Str) (n : Nat) (t : Int) : Bool := decide (x.length = 3 * n) && (List.range n).all fun i => match (ls x).drop (3 * i) with
  | sg :: a :: b :: _ => decide (a ≠ b) && firsts.contains a && wS.contains (sg, if t = 1 then [a, b] else [a, a, b])
  | _ => false
theorem tab_len {x : Str} {n : Nat} {t : Int} (h : tabOk x n t = true) : x.length = 3 * n := by
  unfold tabOk at h
  rw [Bool.and_eq_true] at h
  exact of_decide_eq_true h.1
theorem tab_at {x : Str} {n i : Nat} {t : Int} (h : tabOk x n t = true) (hi : i < n) : ∃ sg a b r, (ls x).drop (3 * i) = sg :: a :: b :: r ∧ a ≠ b ∧ a ∈ firsts ∧ B3 sg (if t = 1 then [a, b] else [a, a, b]) := by
  unfold tabOk at h
  rw [Bool.and_eq_true] at h
  have := List.all_eq_true.mp h.2 i (List.mem_range.mpr hi)
  split at this
  · rename_i sg a b r e
    rw [Bool.and_eq_true, Bool.and_eq_true] at this
    exact ⟨sg, a, b, r, e, of_decide_eq_true this.1.1, by simpa using this.1.2, wanted_b3 (List.mem_append.mpr (.inl (by simpa using this.2)))⟩
  · cases this
/-- what is drawn from the table -/
structure Drawn (x : Str) (k : Int) (t : Int) (sg a b : Nat) : Prop where
  k0 : 0 ≤ k
  k1 : k + 3 ≤ x.length
  small : x.length ≤ 1000
  at0 : (ls x)[k.toNat]? = some sg
  at1 : (ls x)[(k + 1).toNat]? = some a
  two : ((ls x).drop (k + 1).toNat).take 2 = [a, b]
  ne : a ≠ b
  mem : a ∈ firsts
  b3 : B3 sg (if t = 1 then [a, b] else [a, a, b])
theorem drawn_at {x : Str} {n : Nat} {t q : Int} (h : tabOk x n t = true) (hn : n ≤ 300) (hq : 0 ≤ q ∧ q < n) : ∃ sg a b, Drawn x (q * 3) t sg a b := by
  obtain ⟨sg, a, b, r, e, h1, h2, h3⟩ := tab_at h (show q.toNat < n by omega)
  have hl := tab_len h
  have e3 : (q * 3).toNat = 3 * q.toNat := by omega
  have e4 : (q * 3 + 1).toNat = 3 * q.toNat + 1 := by omega
  have d1 : (ls x).drop (3 * q.toNat + 1) = a :: b :: r := by
    rw [← List.drop_drop, e]; rfl
  refine ⟨sg, a, b, by omega, by omega, by omega, ?_, ?_, ?_, h1, h2, h3⟩
  · rw [e3, ← List.head?_drop, e]; rfl
  · rw [e4, ← List.head?_drop, d1]; rfl
  · rw [e4, d1]; rfl
theorem slice_two {x : Str} {k t : Int} {sg a b : Nat} (h : Drawn x k t sg a b) : Txt.slice x (some (k + 1)) (some (k + 3)) = ⟨#[a, b]⟩ := by
  have h0 := h.k0
  have h1 := h.k1
  have hl : x.cps.toList.length = x.length := ls_length x
  have e := PySem.StrLaws.sliceText_plain (x := x) (i := k + 1) (j := k + 3) ⟨by omega, by omega, by rw [hl]; omega⟩
  refine ls_inj ?_
  show ls (PySem.StrLaws.sliceText x (some (k + 1)) (some (k + 3))) = _
  rw [e]
  show ((ls x).drop (k + 1).toNat).take (k + 3 - (k + 1)).toNat = [a, b]
  have e2 : (k + 3 - (k + 1)).toNat = 2 := by omega
  rw [e2, h.two]
theorem item_of {x : Str} {k : Int} {c : Nat} (h0 : 0 ≤ k) (hc : (ls x)[k.toNat]? = some c) : Txt.item x k = ⟨#[c]⟩ := by
  have hl : k.toNat < x.length := by
    rw [← ls_length]
    exact (List.getElem?_eq_some_iff.mp hc).1
  have : Txt.charAt x k = some c := by
    unfold Txt.charAt seqIndex?
    have e1 : ¬ k < 0 := by omega
    have e2 : k < (x.length : Int) := by omega
    simp [e1, e2, h0]
    simpa [ls] using hc
  unfold Txt.item
  rw [this, Option.getD_some]
section
variable {prog : Program} {w : World} {A : Around} {E : Value → Shared → Prop} {s : Shared} {value slice : PySem.Expr} {x : Str} {t : Tok} {Q : Value → Shared → Prop}
theorem item_text {k : Int} {c : Nat} {u : Tok} (h0 : 0 ≤ k) (hz : x.length ≤ 1000) (hc : (ls x)[k.toNat]? = some c) (h : ∀ t' k', Q (.str ⟨#[c]⟩ t') { s with toks := k' })
    (hs : subscripted slice false (.str x t) (.int k u) = operate [.str x t, .int k u] (getItem (.str x t) (.int k u)) := by with_unfolding_all rfl)
    (ht : ∀ r, letTemporaryGo value (.str x t) r = pure () := by intro _; with_unfolding_all rfl) :
    wpAny (model prog w) A (subscriptTail value slice (.str x t) (.int k u)) Q E s := by
  have hl : k.toNat < x.length := by
    rw [← ls_length]
    exact (List.getElem?_eq_some_iff.mp hc).1
  have hf : fitsSsize k = true := by
    unfold fitsSsize
    simp
    omega
  exact item_str hf (by omega) (by omega) (fun _ => by rw [item_of h0 hc]; exact h _ _) hs ht
theorem sl_two {k : Int} {u : Int} {sg a b : Nat} {ui uj : Tok} {h₀ : Heap} {L : Addr} {m : Str → Option Value} {news : List (Addr × Obj)} (hD : Drawn x k u sg a b) (hF : Fr h₀ L s.heap m) (hN : News h₀ L s.heap news)
    (h : ∀ h' t' tk, Fr h₀ L h' m → News h₀ L h' news → Q (.str ⟨#[a, b]⟩ t') { s with heap := h', toks := tk })
    (hs : subscripted slice false (.str x t) (.ref s.heap.objs.size) = operate [.ref s.heap.objs.size, .str x t] (getItem (.str x t) (.ref s.heap.objs.size)) := by with_unfolding_all rfl)
    (ht : ∀ r, letTemporaryGo value (.str x t) r = pure () := by intro _; with_unfolding_all rfl) :
    wpAny (model prog w) A (subscriptTail value slice (.str x t) (.ref s.heap.objs.size)) Q E { s with heap := s.heap.push { cls := .type "slice", data := .fields #[.int (k + 1) ui, .int (k + 3) uj, .none] } } :=
  slice_strN_ss hF hN (fun h' t' tk F N => by rw [slice_two hD]; exact h h' t' tk F N) hs ht (by have := hD.small; rw [sizeLine_eq]; omega)
theorem len_text {n : Nat} (hx : x.length = n) (hn : n ≤ 1000) (h : ∀ t' k', Q (.int (n : Int) t') { s with toks := k' }) : wpAny (model prog w) A (call (.builtin "len") [.str x t]) Q E s :=
  PyProof.Rows.len_str (by omega) (by rw [hx]; exact h _ _)
theorem len_tab {n N : Nat} {u : Int} (hx : tabOk x n u = true) (hN : 3 * n = N) (hn : N ≤ 1000) (h : tabOk x n u = true → ∀ t' k', Q (.int (N : Int) t') { s with toks := k' }) : wpAny (model prog w) A (call (.builtin "len") [.str x t]) Q E s :=
  len_text (by rw [tab_len hx]; exact hN) hn (h hx)
/-- an item of a written tuple of ints, at a place in it -/
theorem item_menu {D : Addr} {vs : List Value} {ns : List Int} {c : Nat} {k : Int} {u : Tok} {h₀ : Heap} {L : Addr} {m : Str → Option Value} {news : List (Addr × Obj)} (_F : Fr h₀ L s.heap m) (N : News h₀ L s.heap news) (hm : (D, ({ cls := .type "tuple", data := .seq vs.toArray c } : Obj)) ∈ news) (hi : IntsAre vs ns)
    (h0 : 0 ≤ k) (h1 : k < ns.length) (hz : ns.length ≤ 1000) (h : ∀ t', Q (.int (ns.getD k.toNat 0) t') s)
    (hs : subscripted slice false (.ref D) (.int k u) = operate [.ref D, .int k u] (getItem (.ref D) (.int k u)) := by with_unfolding_all rfl)
    (hg : ∀ r, letTemporaryGo value (.ref D) r = pure () := by intro _; with_unfolding_all rfl) :
    wpAny (model prog w) A (subscriptTail value slice (.ref D) (.int k u)) Q E s := by
  have hT : IsTup s.heap D vs.toArray := ⟨_, (N _ hm).1, rfl, c, rfl⟩
  exact item_tuple_ints hT hi h0 (by omega) (by omega) h hs hg
end
end Mine
end
section
open PySem PySem.W PyProof.Rows
set_option maxRecDepth 100000
set_option maxHeartbeats 2000000
namespace Mine
theorem drop3 {α : Type} {x y z : α} {l : List α} : ∀ p ∈ [x, y] ++ l, p ∈ x :: y :: z :: l := fun p hp => by
  rcases List.mem_cons.mp hp with rfl | hp
  · exact .head _
  rcases List.mem_cons.mp hp with rfl | hp
  · exact .tail _ (.head _)
  · exact .tail _ (.tail _ (.tail _ hp))
theorem sign_ok2 {x : Str} {k u v : Int} {sg a b j : Nat} (hD : Drawn x k u sg a b) (hu : u = v) (hj : j < 11) : SignOk v a b sg (caps.getD j 0 + (a : Int) - 97).toNat :=
  ⟨hD.ne, hu ▸ hD.b3, alone_ok hj hD.mem⟩
section
variable (w : World) (loose : List Str) (mean : ExcName → Option Value) (mg mb : Str → Option Value)
local macro_rules | `(tactic| walk_at "subscriptTail Name BinOp ref int") => `(tactic| k_dflt (k_extra "item"))
local macro_rules | `(tactic| walk_at "subscriptTail Name BinOp str int") => `(tactic| k_dflt (k_extra "sign"))
local macro_rules | `(tactic| walk_at "subscriptTail Name Name str int") => `(tactic| k_dflt (k_extra "sign"))
local macro_rules | `(tactic| walk_at "subscriptTail Name Slice str ref") => `(tactic| k_dflt (k_extra "slice"))
local macro_rules | `(tactic| walk_at "call builtin:len") => `(tactic| k_dflt (k_extra "len"))
local macro_rules | `(tactic| walk_at "call builtin:chr") => `(tactic| k_dflt (k_extra "chr"))
theorem ct_sign (kind : Int) (t : Tok) : CtG w loose mean mg mb 1 81 (fun _ => 0 ≤ kind ∧ kind < 1000000) [.int kind t] (SignV kind) := by
  intro news dp un gd cn cs a ccd cl outer A₀ base h₀ L m s Q E B F X N T hk hpre hd hu hret
  refine wpAny_call ?_
  k_dflt cell_enter
  k_with_none
  have hj := fmod_in (kind.fdiv 80) (show (0 : Int) < 11 by decide)
  k_with "len" => first
    | (refine len_tab (n := 40) (N := 120) (u := 1) (by decide +kernel) (by decide) (by decide) ?_
       intro hTab t9 k9
       obtain ⟨sg, ca, cb, hD⟩ := drawn_at (q := (kind.fdiv 2).fmod (((120 : Nat) : Int).fdiv 3)) hTab (by decide) (fmod_in _ (by decide)))
    | (refine len_tab (n := 3) (N := 9) (u := 2) (by decide +kernel) (by decide) (by decide) ?_
       intro hTab t9 k9
       obtain ⟨sg, ca, cb, hD⟩ := drawn_at (q := (kind.fdiv 2).fmod (((9 : Nat) : Int).fdiv 3)) hTab (by decide) (fmod_in _ (by decide)))

  k_with "item" => first
    | (refine item_menu (ns := caps) (by k_asm) (by k_asm) (by k_mem) (by repeat constructor) hj.1 hj.2 (by decide) ?_; intro t8)

  k_with "sign" => first
    | (refine item_text hD.k0 hD.small hD.at0 ?_; intro t7 k7)
    | (refine item_text (by have := hD.k0; omega) hD.small hD.at1 ?_; intro t7 k7)

  have hcr := caps_room (j := ((kind.fdiv 80).fmod 11).toNat) (by omega)
  k_with "slice" => first
    | ((with_reducible rename Fr _ _ _ _ => F')
       (with_reducible rename News _ _ _ _ => N')
       refine sl_two (s := ⟨_, _, _, _, _⟩) hD F' N' ?_
       clear F' N'
       intro h6 t6 k6 F6 N6)

  k_with "chr" => (
    have hfi := firsts_in hD.mem
    refine chr_of_range (by omega) (by omega) ?_)
  have hjn : ((kind.fdiv 80).fmod 11).toNat < 11 := by omega
  have hk2 := fmod_in kind (show (0 : Int) < 2 by decide)
  k_steps
  all_goals (
    have hlt := (by assumption : _ ∧ _ ∧ AllLt _ news).2.2
    have hlt2 := (by assumption : _ ∧ AllLt _ news).2
    refine hret _ [(_, _), (_, _)] _ _ ⟨_, _, _, _, _, _, _, _, _, _, _, rfl, rfl, sign_ok2 hD (by omega) hjn⟩ (fun p hp => ?_) (by assumption) (cb_drop (by assumption) drop3)
    rcases List.mem_cons.mp hp with rfl | hp
    · exact hlt
    · rw [List.mem_singleton.mp hp]; exact (by assumption : _ ∧ AllLt _ news).2)
end
end Mine
end
section
open PySem PySem.W PyProof.Rows PySem.Calls
set_option maxRecDepth 100000
namespace Mine
/-- one weight of _law_word -/
noncomputable def wstep (s : Int) (p : Int × Int) (w : Int) : Int × Int := if 0 < p.1 ∨ w ≤ p.2 then (p.1 * 16 + p.2.fdiv w + s, p.2.fmod w) else p
noncomputable def pk (s : Int) (p : Int) (ds : List Int) : Int := ds.foldl (fun p d => p * 16 + d + s) p
theorem fold_pos {t s : Int} (ht : T12 t) (hs : 0 ≤ s) : ∀ (l : Nat) (p n : Int), 0 < p → 0 ≤ n → n < wt t l → (wls t l).foldl (wstep s) (p, n) = (pk s p (gd t l n), 0)
  | 0, p, n, hp, h0, h1 => by
    rw [wt_zero] at h1
    have : n = 0 := by omega
    subst this; rfl
  | l + 1, p, n, hp, h0, h1 => by
    have hw := (wt_pos ht l).1
    have e : wstep s (p, n) (wt t l) = (p * 16 + n / wt t l + s, n % wt t l) := by
      unfold wstep
      rw [if_pos (.inl hp), Int.fdiv_eq_ediv_of_nonneg _ (by omega), Int.fmod_eq_emod_of_nonneg _ (by omega)]
    show (wls t l).foldl (wstep s) (wstep s (p, n) (wt t l)) = _
    rw [e]
    have hd : 0 ≤ n / wt t l := Int.ediv_nonneg h0 (by omega)
    rw [fold_pos ht hs l _ _ (by omega) (Int.emod_nonneg _ (by omega)) (Int.emod_lt_of_pos _ hw)]
    rfl
theorem fold_zero {t s : Int} (ht : T12 t) (hs : 0 ≤ s) : ∀ (l : Nat) (n : Int), 0 ≤ n → n < wt t l → (wls t l).foldl (wstep s) (0, n) = (pk s 0 (wd t l n), 0)
  | 0, n, h0, h1 => by
    rw [wt_zero] at h1
    have : n = 0 := by omega
    subst this; rfl
  | l + 1, n, h0, h1 => by
    have hw := (wt_pos ht l).1
    show (wls t l).foldl (wstep s) (wstep s (0, n) (wt t l)) = _
    by_cases hc : wt t l ≤ n
    · have e : wstep s (0, n) (wt t l) = (n / wt t l + s, n % wt t l) := by
        unfold wstep
        rw [if_pos (.inr hc), Int.fdiv_eq_ediv_of_nonneg _ (by omega), Int.fmod_eq_emod_of_nonneg _ (by omega)]
        simp
      have hd : 1 ≤ n / wt t l := by
        have := Int.ediv_le_ediv hw hc
        rwa [Int.ediv_self (by omega)] at this
      rw [e, fold_pos ht hs l _ _ (by omega) (Int.emod_nonneg _ (by omega)) (Int.emod_lt_of_pos _ hw)]
      have : wd t (l + 1) n = n / wt t l :: gd t l (n % wt t l) := by
        show strip (n / wt t l :: gd t l (n % wt t l)) = _
        exact List.dropWhile_cons_of_neg (by simp; omega)
      rw [this]
      show _ = (pk s (0 * 16 + n / wt t l + s) _, 0)
      have e3 : 0 * 16 + n / wt t l + s = n / wt t l + s := by omega
      rw [e3]
    · have e : wstep s (0, n) (wt t l) = (0, n) := by
        unfold wstep
        rw [if_neg (by simp; omega)]
      rw [e, fold_zero ht hs l n h0 (by omega)]
      have : wd t (l + 1) n = wd t l n := by
        show strip (n / wt t l :: gd t l (n % wt t l)) = _
        rw [Int.ediv_eq_zero_of_lt h0 (by omega), Int.emod_eq_of_lt h0 (by omega)]
        rfl
      rw [this]
/-- the letters of the packed number -/
theorem ap_snoc {p e : Nat} (he : e < 16) (hp : 0 < p ∨ 0 < e) : ap (p * 16 + e) = ap p ++ [UInt8.ofNat (65 + e)] := by
  rw [ap, dif_neg (by omega)]
  have e1 : (p * 16 + e) / 16 = p := by omega
  have e2 : (p * 16 + e) % 16 = e := by omega
  rw [e1, e2]
noncomputable def lt8 (s : Int) (ds : List Int) : List UInt8 := ds.map fun d => UInt8.ofNat (65 + (d + s).toNat)
theorem pk_snoc (s p : Int) (ds : List Int) (d : Int) : pk s p (ds ++ [d]) = pk s p ds * 16 + d + s := by simp [pk]
theorem ap_pk {s : Int} (hs : 0 ≤ s ∧ s ≤ 13) {d : Int} (hd1 : 1 ≤ d ∧ d ≤ 2) : ∀ (n : Nat) (ds : List Int), ds.length = n → (∀ x ∈ ds, 0 ≤ x ∧ x ≤ 2) → 0 < pk s (d + s) ds ∧ ap (pk s (d + s) ds).natAbs = lt8 s (d :: ds)
  | 0, [], _, _ => by
    have e : (pk s (d + s) []).natAbs = 0 * 16 + (d + s).toNat := by show (d + s).natAbs = _; omega
    refine ⟨by show 0 < d + s; omega, ?_⟩
    rw [e, ap_snoc (by omega) (by omega)]
    have : ap 0 = [] := by unfold ap; simp
    rw [this]; rfl
  | n + 1, ds, hl, hd => by
    have hne : ds ≠ [] := by intro e; rw [e] at hl; cases hl
    obtain ⟨u, x, rfl⟩ : ∃ u x, ds = u ++ [x] := ⟨ds.dropLast, ds.getLast hne, (List.dropLast_concat_getLast hne).symm⟩
    obtain ⟨h1, h2⟩ := ap_pk hs hd1 n u (by simpa using hl) (fun y hy => hd y (by simp [hy]))
    have hx := hd x (by simp)
    rw [pk_snoc]
    refine ⟨by omega, ?_⟩
    have e : (pk s (d + s) u * 16 + x + s).natAbs = (pk s (d + s) u).natAbs * 16 + (x + s).toNat := by omega
    rw [e, ap_snoc (by omega) (by omega), h2]
    simp [lt8]
/-- the word's letters are the hexadecimal ones of the packed number -/
theorem ap_word {t s n : Int} {l : Nat} (ht : T12 t) (hs : 0 ≤ s ∧ s ≤ 13) (h0 : 0 ≤ n) (h1 : n < wt t l) : 0 ≤ pk s 0 (wd t l n) ∧ ap (pk s 0 (wd t l n)).natAbs = lt8 s (wd t l n) := by
  have hd := wd_dig (L := l) ht h0 h1
  cases hw : wd t l n with
  | nil => exact ⟨Int.le_refl _, by show ap 0 = _; unfold ap; simp [lt8]⟩
  | cons d ds =>
    rw [hw] at hd
    have hdd := hd d (.head _)
    have hne : d ≠ 0 := by
      intro e
      subst e
      have : (strip (gd t l n)).head? = some 0 := by
        show (wd t l n).head? = _
        rw [hw]; rfl
      have := List.head?_dropWhile_not (fun x : Int => x == 0) (gd t l n)
      simp_all
    have h2 : t ≤ 2 := by rcases ht with rfl | rfl <;> decide
    have := ap_pk hs (d := d) (by omega) ds.length ds rfl (fun x hx => by have := hd x (.tail _ hx); omega)
    have e : pk s 0 (d :: ds) = pk s (d + s) ds := by
      show pk s (0 * 16 + d + s) ds = _
      have e3 : 0 * 16 + d + s = d + s := by omega
      rw [e3]
    rw [e]
    exact ⟨Int.le_of_lt this.1, this.2⟩
theorem pk_lt {s : Int} (hs : 0 ≤ s ∧ s ≤ 13) : ∀ {ds : List Int} {p : Int} {k : Nat}, (∀ d ∈ ds, 0 ≤ d ∧ d ≤ 2) → 0 ≤ p → p < 16 ^ k → 0 ≤ pk s p ds ∧ pk s p ds < 16 ^ (k + ds.length)
  | [], _, _, _, h0, h1 => ⟨h0, h1⟩
  | d :: ds, p, k, hd, h0, h1 => by
    have hx := hd d List.mem_cons_self
    have e : (16 : Int) ^ (k + 1) = 16 * 16 ^ k := by rw [Int.pow_succ]; omega
    have := pk_lt hs (ds := ds) (p := p * 16 + d + s) (k := k + 1) (fun x hx => hd x (List.mem_cons_of_mem _ hx)) (by omega) (by rw [e]; omega)
    have e2 : k + 1 + ds.length = k + (d :: ds).length := by simp; omega
    rw [e2] at this
    exact this
theorem gd_len_strip (t : Int) (l : Nat) (n : Int) : (wd t l n).length ≤ l := by
  have := (List.dropWhile_suffix (fun x : Int => x == 0) (l := gd t l n)).length_le
  rwa [gd_length] at this
theorem pk_small {t s n : Int} {l : Nat} (ht : T12 t) (hs : 0 ≤ s ∧ s ≤ 13) (hl : l ≤ 24) (h0 : 0 ≤ n) (h1 : n < wt t l) : 0 ≤ pk s 0 (wd t l n) ∧ pk s 0 (wd t l n) < 2 ^ 100 := by
  have hd := wd_dig (L := l) ht h0 h1
  have h2 : t ≤ 2 := by rcases ht with rfl | rfl <;> decide
  have := pk_lt hs (ds := wd t l n) (p := 0) (k := 0) (fun x hx => by have := hd x hx; omega) (by omega) (by decide)
  refine ⟨this.1, Int.lt_of_lt_of_le this.2 ?_⟩
  have h3 : 0 + (wd t l n).length ≤ 25 := by have := gd_len_strip t l n; omega
  have h4 : (16 : Int) ^ (0 + (wd t l n).length) ≤ 16 ^ 25 := by exact_mod_cast Nat.pow_le_pow_right (n := 16) (by decide) h3
  have h5 : (16 : Int) ^ 25 = 2 ^ 100 := by decide
  omega
/-- the word as a text -/
noncomputable def wtx (t s : Int) (l : Nat) (n : Int) : Str := ⟨((wd t l n).map fun d => 65 + (d + s).toNat).toArray⟩
theorem join_ones : ∀ l : List Nat, Txt.join (Str.ofString "") (l.map fun c => (⟨#[c]⟩ : Str)) = ⟨l.toArray⟩ := by
  intro l
  refine ls_inj ?_
  have e : ls (Txt.join (Str.ofString "") (l.map fun c => (⟨#[c]⟩ : Str))) = ((l.map fun c => (⟨#[c]⟩ : Str)).map ls).flatten := by
    unfold Txt.join
    rw [StrLaws.glued_eq_join, ls_join_empty]
  rw [e, List.map_map]
  clear e
  show (l.map fun c => [c]).flatten = l
  induction l with
  | nil => rfl
  | cons a l ih => simp [ih]
/-- the loop's state -/
noncomputable def WInvP (s N : Int) (pre : List Int) (p n : Int) : Prop := pre.foldl (wstep s) (0, N) = (p, n)
theorem wi_start {s N : Int} : WInvP s N [] 0 N := rfl
theorem wi_yes {s N : Int} {pre : List Int} {p n w : Int} (h : WInvP s N pre p n) (hc : 0 < p ∨ w ≤ n) : WInvP s N (pre ++ [w]) (p * 16 + n.fdiv w + s) (n.fmod w) := by
  unfold WInvP at *
  rw [List.foldl_append, h]
  show wstep s (p, n) w = _
  unfold wstep
  rw [if_pos hc]
theorem wi_no {s N : Int} {pre : List Int} {p n w : Int} (h : WInvP s N pre p n) (hc : ¬ (0 < p ∨ w ≤ n)) : WInvP s N (pre ++ [w]) p n := by
  unfold WInvP at *
  rw [List.foldl_append, h]
  show wstep s (p, n) w = _
  unfold wstep
  rw [if_neg hc]
theorem wls_pos {t : Int} (ht : T12 t) : ∀ {l : Nat} {w : Int}, w ∈ wls t l → 0 < w
  | 0, _, h => nomatch h
  | l + 1, w, h => by
    rcases List.mem_cons.mp h with rfl | h
    · exact (wt_pos ht l).1
    · exact wls_pos ht h
theorem wls_small {t : Int} (ht : T12 t) : ∀ {l : Nat} {w : Int}, w ∈ wls t l → ∃ i, i < l ∧ w = wt t i
  | 0, _, h => nomatch h
  | l + 1, w, h => by
    rcases List.mem_cons.mp h with rfl | h
    · exact ⟨l, Nat.lt_succ_self _, rfl⟩
    · obtain ⟨i, hi, e⟩ := wls_small ht h
      exact ⟨i, Nat.lt_succ_of_lt hi, e⟩
theorem wt_le {t : Int} (ht : T12 t) {i j : Nat} (h : i ≤ j) : wt t i ≤ wt t j := by
  induction h with
  | refl => exact Int.le_refl _
  | @step k _ ih => exact Int.le_trans ih (Int.le_of_lt (wt_pos ht k).2)
theorem wls_room {t w : Int} {l : Nat} (ht : T12 t) (h2 : 2 ≤ l) (hlow : wt t (l - 2) ≤ 20000) (h : w ∈ wls t l) : 0 < w ∧ w ≤ 60000 := by
  refine ⟨wls_pos ht h, ?_⟩
  obtain ⟨i, hi, rfl⟩ := wls_small ht h
  have h1 := wt_le ht (show i ≤ l - 2 + 1 by omega)
  have h3 : wt t (l - 2 + 1) ≤ 60000 := by
    cases hq : l - 2 with
    | zero => rw [wt_one]; rcases ht with rfl | rfl <;> decide
    | succ q =>
      rw [hq] at hlow
      rw [wt_rec]
      have := (wt_pos ht q).2
      rcases ht with rfl | rfl <;> omega
  omega
theorem wi_end {t s N p n : Int} {l : Nat} (ht : T12 t) (hs : 0 ≤ s ∧ s ≤ 13) (h0 : 0 ≤ N) (h1 : N < wt t l) (h : WInvP s N (wls t l) p n) : p = pk s 0 (wd t l N) := by
  unfold WInvP at h
  rw [fold_zero ht hs.1 l N h0 h1] at h
  exact (congrArg Prod.fst h).symm
theorem signed {p : Int} : (p * (1 - p.fmod 2 * 2)).natAbs = p.natAbs := by
  have := fmod_in p (show (0 : Int) < 2 by decide)
  have h : p.fmod 2 = 0 ∨ p.fmod 2 = 1 := by omega
  rcases h with h | h <;> rw [h]
  · simp
  · have : p * (1 - 1 * 2) = -p := by omega
    rw [this, Int.natAbs_neg]
theorem ap_pre {t s N p n : Int} {l : Nat} (ht : T12 t) (hs : 0 ≤ s ∧ s ≤ 13) (hl : l ≤ 24) (h0 : 0 ≤ N) (h1 : N < wt t l) (h : WInvP s N (wls t l) p n) : (p * (1 - p.fmod 2 * 2)).natAbs < 2 ^ 100 := by
  have hps := pk_small ht hs hl h0 h1
  rw [signed, wi_end ht hs h0 h1 h]
  omega
theorem ap_post {t s N p n : Int} {l : Nat} (ht : T12 t) (hs : 0 ≤ s ∧ s ≤ 13) (h0 : 0 ≤ N) (h1 : N < wt t l) (h : WInvP s N (wls t l) p n) : (ap (p * (1 - p.fmod 2 * 2)).natAbs).toArray = (lt8 s (wd t l N)).toArray := by
  rw [signed, wi_end ht hs h0 h1 h, (ap_word ht hs h0 h1).2]
theorem lt8_text {t s n : Int} {l : Nat} (ht : T12 t) (hs : 0 ≤ s ∧ s ≤ 13) (h0 : 0 ≤ n) (h1 : n < wt t l) : (lt8 s (wd t l n)).map (fun c => (⟨#[c.toNat]⟩ : Str)) = ((wd t l n).map fun d => 65 + (d + s).toNat).map fun c => (⟨#[c]⟩ : Str) := by
  have hd := wd_dig (L := l) ht h0 h1
  have h2 : t ≤ 2 := by rcases ht with rfl | rfl <;> decide
  unfold lt8
  rw [List.map_map, List.map_map]
  refine List.map_congr_left fun d hm => ?_
  have := hd d hm
  show (⟨#[(UInt8.ofNat (65 + (d + s).toNat)).toNat]⟩ : Str) = ⟨#[65 + (d + s).toNat]⟩
  have e : (UInt8.ofNat (65 + (d + s).toNat)).toNat = 65 + (d + s).toNat := by
    rw [UInt8.toNat_ofNat']
    omega
  rw [e]
theorem join_word {t s n : Int} {l : Nat} (ht : T12 t) (hs : 0 ≤ s ∧ s ≤ 13) (h0 : 0 ≤ n) (h1 : n < wt t l) : Txt.join (Str.ofString "") ((lt8 s (wd t l n)).map fun c => (⟨#[c.toNat]⟩ : Str)) = wtx t s l n := by
  rw [lt8_text ht hs h0 h1, join_ones]
  rfl
theorem ones_room {t s n : Int} {l : Nat} (hl : l ≤ 24) : (((lt8 s (wd t l n)).map fun c => (⟨#[c.toNat]⟩ : Str)).map (·.length)).sum + ((lt8 s (wd t l n)).map fun c => (⟨#[c.toNat]⟩ : Str)).length * 64 ≤ 16777216 := by
  have e : ∀ l : List UInt8, ((l.map fun c => (⟨#[c.toNat]⟩ : Str)).map (·.length)).sum = l.length := by
    intro l
    induction l with
    | nil => rfl
    | cons a r ih =>
      simp only [List.map_cons, List.sum_cons, ih, List.length_cons]
      show 1 + r.length = r.length + 1
      omega
  rw [e, List.length_map]
  unfold lt8
  rw [List.length_map]
  have := gd_len_strip t l n
  omega
end Mine
end
section
open PySem PySem.W PyProof.Rows PySem.Calls
set_option maxRecDepth 100000
namespace Mine
section
variable {prog : Program} {w : World} {A : Around} {E : Value → Shared → Prop} {h₀ : Heap} {L : Addr} {m : Str → Option Value} {env : Env} {elt : Expr} {x : Str} {scope : Scope} {cl : List (Str × Addr)} {s : Shared} {S : List (Addr × Obj) → Prop} {P : Nat → Value → Prop} {Fin : List Value → List (Addr × Obj) → Prop} {news : List (Addr × Obj)}

/-- a list comprehension over bytes, the element a text -/
theorem listcomp_bytes {iter : Expr} {px : Pos} {pos : Pos} {Q : Value → Shared → Prop} (xt : Array UInt8) (g : UInt8 → Str) (_F : Fr h₀ L s.heap m) (_N : News h₀ L s.heap news)
    (hclos : closureFor scope env = pure cl) (hcell : ∀ y ∈ scope.names, y.2 ≠ .cell) (hkind : scope.kind = .function)
    (hnames : ∀ y ∈ scope.names, y.2 = .local → scope.names.lookup y.1 = some .local) (hx : scope.names.lookup x = some .local)
    (hs : ∀ x, foldedSetIterable iter env x = pure x) (hh : A.handled = none) (hz : xt.size ≤ sizeLine)
    (h : wpAny (model prog w) A (eval iter env) (Src (fun v => ∃ tx, v = .bytes xt tx) s h₀ L m news) E s)
    (turn : ∀ c t I oI C oC D m₂ ys h tk (E' : Value → Shared → Prop), c ∈ xt.toList → LCg.NsObj oC m₂ → m₂ x = some (.int (c.toNat : Int) t) → Fr h₀ L h m → News h₀ L h ((I, oI) :: (C, oC) :: (D, LCg.lst ys) :: news) → LCg.Off3 I C D news → ((@Ne Nat I C) ∧ (@Ne Nat I D) ∧ (@Ne Nat C D)) →
      wpAny (model prog w) A (eval elt (compEnvC scope cl C env)) (LCg.CompEnd h₀ L m { s with heap := h, toks := tk } I oI C oC D (LCg.lst ys) (fun _ => True) (fun y nw => nw = news ∧ ∃ t, y = .str (g c) t)) E' { s with heap := h, toks := tk })
    (fin : ∀ ys D h tk, StrsAre ys (xt.toList.map g) → Fr h₀ L h m → News h₀ L h ((D, LCg.lst ys) :: news) → LCg.Off1 D news → Q (.ref D) { s with heap := h, toks := tk }) :
    wpAny (model prog w) A (eval (.ListComp elt [⟨.Name x px, iter, [], 0⟩] scope pos) env) Q E s := by
  rw [eval_ListComp]
  refine wpAny_comprehension_free (use := none) rfl hs hclos hkind hnames (wpAny_mono h (fun xv s₁ h₁ => ?_) fun _ _ e => e)
  obtain ⟨h1, tk1, ⟨tx, rfl⟩, rfl, F, N⟩ := h₁
  have up : ∀ (o : Obj) b o', h1.get? b = some o' → (h1.push o).get? b = some o' := fun o b o' e => Heap.get?_push_of_some _ e
  refine KBw.pyIter_bytes ?_
  refine LCg.block_U (Fin := LCg.FinE h₀ L m { s with heap := h1.push { cls := .type "bytes_iterator", data := .fields #[.bytes xt tx, .int 0 0] }, toks := tk1 } Q) (RR := fun acc C => compPost (model prog w) A E none Q acc C) (KBw.walks hh h1.objs.size xt tx) hz (fun i h st => by obtain ⟨o, e, _⟩ := st; exact ⟨o, e⟩)
    (fun i h h' o nw st e e' _ _ _ => by obtain ⟨o', q, r⟩ := st; rw [e] at q; cases q; exact ⟨o, e', r⟩) hcell hkind hx ⟨_, Heap.get?_push_size _ rfl, rfl, rfl⟩ (fun b hb => ?_)
    (F.keeps (up _)) (N.grown (up _)) (Nat.ne_of_lt F.ns.lt) (next_is_new F) (fun p hp => Nat.ne_of_lt (Heap.lt_size (N p hp).1)) (S := fun _ => True) trivial ?_ ?_
  · rw [List.mem_singleton.mp hb]
    show h1.objs.size < (h1.push _).objs.size
    rw [Heap.size_push]; exact Nat.lt_succ_self _
  · refine comp_rest (cs := xt.toList) g (fun c v => ∃ t, v = .int (c.toNat : Int) t) (by simp) (fun i v hi hv => ?_) (fun c v I oI C oC D m₂ ys h tk E' hc hv hC hm F' N' off ne _ => ?_) trivial (fun ys hy => ?_)
    · obtain ⟨c, u, e, rfl⟩ := hv
      exact ⟨c, by simpa using e, u, rfl⟩
    · obtain ⟨t, rfl⟩ := hv
      exact turn c t I oI C oC D m₂ ys h tk E' hc hC hm F' N' off ne
    · intro D h tk F' N' o1
      exact fin ys D h tk hy F' N' o1
  · intro D C h tk m' ys news' F' N' o1 hn hC₀ hD₀ hCL hDL hCD offC fin'
    refine ⟨m', hn, fun h'' hs'' => fin' D h'' tk (F'.change hs'' hCL hC₀) (fun p hp => ?_) o1⟩
    refine ⟨hs''.extBut _ _ ?_ (N' p hp).1, (N' p hp).2⟩
    rcases List.mem_cons.mp hp with rfl | hp
    · exact Ne.symm hCD
    · exact offC p hp
end
end Mine
end
section
open PySem PySem.W PyProof.Rows PyProof.Rows.LCg
set_option maxRecDepth 100000
set_option maxHeartbeats 4000000
namespace Mine
section
variable (w : World) (loose : List Str) (mean : ExcName → Option Value) (mg mb : Str → Option Value)
noncomputable def WordPre (t sh n : Int) (Wa : Addr) (L : Nat) (news : List (Addr × Obj)) : Prop :=
  T12 t ∧ (0 ≤ sh ∧ sh ≤ 13) ∧ (0 ≤ n ∧ n < 20000) ∧ ∃ ws c, (Wa, W.listOf ws.toArray c) ∈ news ∧ WtOk t ws L
local macro_rules | `(tactic| walk_at "call ref") => `(tactic| (k_here; k_dflt (k_extra "call ref")))
local macro_rules | `(tactic| walk_at "binaryOp FloorDiv int int") => `(tactic| k_dflt (k_extra "div"))
local macro_rules | `(tactic| walk_at "binaryOp Mod int int") => `(tactic| k_dflt (k_extra "mod"))
local macro_rules | `(tactic| walk_at "call builtin:str.join") => `(tactic| k_dflt (k_extra "call builtin:str.join"))
local macro_rules | `(tactic| walk_at "eval ListComp") => `(tactic| k_dflt (k_extra "eval ListComp"))
local macro_rules | `(tactic| walk_at "Src") => `(tactic| k_dflt (k_extra "Src"))
local macro_rules | `(tactic| walk_at "call builtin:chr") => `(tactic| k_dflt (k_extra "chr"))
local macro_rules | `(tactic| walk_at "CompEnd") => `(tactic| k_dflt (k_extra "CompEnd"))
theorem ct_word (t sh n : Int) (Wa : Addr) (Lw : Nat) (t1 t2 : Tok) : CtG w loose mean mg mb 2 100 (WordPre t sh n Wa Lw) [.int n t1, .ref Wa, .int sh t2] (StrV (wtx t sh Lw n)) := by
  intro news₀ dp un gd cn cs a ccd cl outer A₀ base h₀ L m s Q E B F X N₀ T hk hpre hd hu hret
  obtain ⟨ht, hs, hn, ws, c, hm, hWt⟩ := hpre
  have N : News h₀ L s.heap ((Wa, W.listOf ws.toArray c) :: news₀) := fun p hp => by
    rcases List.mem_cons.mp hp with rfl | hp
    · exact N₀ _ hm
    · exact N₀ p hp
  have hI := hWt.are
  have hlw : (wls t Lw).length ≤ 24 := by
    have : ∀ l, (wls t l).length = l := by intro l; induction l with | zero => rfl | succ l ih => exact congrArg (· + 1) ih
    rw [this]; exact hWt.small
  have hnw : n < wt t Lw := by have := hWt.big; omega
  clear N₀
  refine wpAny_call ?_
  k_dflt cell_enter
  k_with_none
  k_with "call ref" => first
    | (refine Ct.use (ct_ap _ _ _ _ _ _ _) (by k_asm) (by k_asm) (by k_asm) (by k_asm) (by k_asm) (by first | exact rfl | assumption) (by k_extra "pre") (by first | ktr_room | decide) (by first | ktr_units | decide) ?_
       k_whole
       intro t' h' tk' F' N'
       k_extra "after ap"
       (try dsimp only))
  k_with "pyIter ref" => k_state (fun pre p q => WInvP sh n pre p q) "packed" "number"
  k_with "div" => (have hw9 := wls_room ht hWt.two hWt.low kMem; refine floordiv_int (by omega) ?_ (Or.inl (PyProof.noPylong_small (by omega))))
  k_with "mod" => (have hw9 := wls_room ht hWt.two hWt.low kMem; refine mod_int' (by omega) ?_)
  k_with "state" => first
    | exact wi_start
    | exact wi_yes kInv (.inl (by assumption))
    | exact wi_yes kInv (.inr (by assumption))
    | exact wi_no kInv (by rintro (h | h) <;> first | exact absurd h (by assumption) | omega)

  k_with "pre" => exact ap_pre ht hs hWt.small hn.1 hnw (by assumption)
  k_with "after ap" => skip
  k_with "Src" => exact ⟨_, _, ⟨_, congrArg (fun b => Value.bytes b _) (ap_post ht hs hn.1 hnw (by assumption))⟩, rfl, by assumption, by assumption⟩
  k_with "eval ListComp" => (
    refine listcomp_bytes (lt8 sh (wd t Lw n)).toArray (fun c => ⟨#[c.toNat]⟩) (by assumption) (by assumption) (by rfl) (by decide) (by rfl) (by decide) (by rfl) (by intro _; rfl) (by rfl) (by rw [sizeLine_eq, List.size_toArray, lt8, List.length_map]; have := gd_len_strip t Lw n; have := hWt.small; omega) ?_ ?turn ?fin
    case' turn => intro c9 tc I oI C oC D m2 ys h2 tk2 E2 hc hC hm9 F2 N2 off2 ne2
    case' fin => intro ys D h2 tk2 hys F2 N2 o1)
  k_with "chr" => (refine chr_of_range (by omega) (by have := c9.toNat_lt; omega) ?_)
  k_with "CompEnd" => exact ⟨_, _, _, rfl, by assumption, by assumption, off2, trivial, rfl, _, rfl⟩
  k_with "call builtin:str.join" => (
    refine join_listC (items := ys.toArray) ⟨_, (N2 _ (.head _)).1, rfl, _, rfl⟩ (by simpa using hys) (by decide +kernel) (ones_room hWt.small) ?_
    intro t9 k9
    rw [join_word ht hs hn.1 hnw])
  k_steps
  exact hret _ [] _ _ ⟨rfl, _, rfl⟩ (fun _ h => nomatch h) (by assumption) (cb_drop (by assumption) (fun p hp => .tail _ (.tail _ hp)))
end
end Mine
end
section
open PySem PySem.W PyProof.Rows PySem.Calls PyProof.Rows.LCg
set_option maxRecDepth 100000
namespace Mine
noncomputable abbrev two (elt t0 iter0 t1 iter1 c : PySem.Expr) (scope : Scope) (pos : Pos) : PySem.Expr := .ListComp elt [⟨t0, iter0, [], 0⟩, ⟨t1, iter1, [c], 0⟩] scope pos
theorem turn_two0 (elt t0 iter0 t1 iter1 c : PySem.Expr) (scope : Scope) (pos : Pos) (it acc : Value) (env : Env) :
    compTurn (two elt t0 iter0 t1 iter1 c scope pos) 0 it acc env = (do
      standAt iter0.pos
      match ← pyNext it with
      | none => pure (.done .next)
      | some v =>
        letOwnedTupleGo t0 it v
        assign t0 env v
        let x ← eval iter1 env
        standAt iter1.pos
        let x ← foldedSetIterable iter1 env x
        let _ ← runOwn (.compStart (two elt t0 iter0 t1 iter1 c scope pos) 1 (← holding [x] (pyIter x)) acc env) env
        again (.compLoop (two elt t0 iter0 t1 iter1 c scope pos) 0 it acc env)) := by rfl
theorem turn_two1 (elt t0 iter0 t1 iter1 c : PySem.Expr) (scope : Scope) (pos : Pos) (it acc : Value) (env : Env) :
    compTurn (two elt t0 iter0 t1 iter1 c scope pos) 1 it acc env = (do
      standAt iter1.pos
      match ← pyNext it with
      | none => pure (.done .next)
      | some v =>
        letOwnedTupleGo t1 it v
        assign t1 env v
        let mut ok := true
        for c in [c] do
          if ok then ok ← isTrue c env (eval c env)
        if ok then
          (do let _ ← call (.builtin "list.append") [acc, ← eval elt env])
        again (.compLoop (two elt t0 iter0 t1 iter1 c scope pos) 1 it acc env)) := by rfl
section
variable {prog : Program} {w : World} {A : Around} {E : Value → Shared → Prop} {s : Shared} {R : Result → Shared → Prop}
theorem start_two1 {elt t0 iter0 t1 iter1 c : PySem.Expr} {scope : Scope} {pos : Pos} {it acc : Value} {env : Env}
    (h0 : codeAny (model prog w) A (.compLoop (two elt t0 iter0 t1 iter1 c scope pos) 1 it acc env) R s)
    (h : wpAny (model prog w) A (pyIter it) (fun it' s' => codeAny (model prog w) A (.compLoop (two elt t0 iter0 t1 iter1 c scope pos) 1 it' acc env) R s')
      (notedBy (model prog w) A env fun x s' => R (.error x) s') s) :
    codeAny (model prog w) A (.compStart (two elt t0 iter0 t1 iter1 c scope pos) 1 it acc env) R s := by
  refine codeAny_of_tree ?_
  show wpAny _ _ ((compStart (two elt t0 iter0 t1 iter1 c scope pos) 1 it acc env).onRaise (fun x => do noteFrame x env; standAt theWindowsPlace)) _ _ s
  refine wpAny_notedAt ?_
  unfold compStart
  show wpAny _ _ (ask >>= _) _ _ s
  refine wpAny_bind (wpAny_askSetting (wpAny_ite ?_))
  split
  · first
      | exact wpAny_bind (wpAny_pure (wpAny_pure (And.intro rfl h0)))
      | exact wpAny_pure (And.intro rfl h0)
  · first
      | exact wpAny_bind (wpAny_rule (wpAny_bind (wpAny_standAt (wpAny_bind (wpAny_mono h (fun it' s' h' => wpAny_pure (And.intro rfl h')) fun _ _ x => x)))))
      | (refine wpAny_bind (wpAny_rule ?_); show wpAny _ _ (standAt iter1.pos >>= _) _ _ s; exact wpAny_bind (wpAny_standAt (wpAny_bind (wpAny_mono h (fun it' s' h' => wpAny_pure (And.intro rfl h')) fun _ _ x => x))))
/-- the inner loop -/
theorem loop_two1 {elt t0 iter0 t1 iter1 c : PySem.Expr} {scope : Scope} {pos : Pos} {it acc : Value} {env : Env} (I : Nat → Shared → Prop)
    (turn : ∀ n s, I n s → wpAny (model prog w) A (pyNext it) (fun r s₁ => match r with
      | none => R (.ok .next) s₁
      | some v => wpAny (model prog w) A (assign t1 env v) (fun _ s₂ =>
          wpAny (model prog w) A (isTrue c env (eval c env)) (fun ok s₃ => if ok = true then wpAny (model prog w) A (eval elt env) (fun x s₄ =>
            wpAny (model prog w) A (call (.builtin "list.append") [acc, x]) (fun _ s₅ => ∃ m, m < n ∧ I m s₅) (notedBy (model prog w) A env fun e s' => R (.error e) s') s₄) (notedBy (model prog w) A env fun e s' => R (.error e) s') s₃
            else ∃ m, m < n ∧ I m s₃) (notedBy (model prog w) A env fun e s' => R (.error e) s') s₂)
          (notedBy (model prog w) A env fun e s' => R (.error e) s') s₁) (notedBy (model prog w) A env fun e s' => R (.error e) s') s)
    (ht : ∀ v, letOwnedTupleGo t1 it v = pure ()) (n : Nat) (h : I n s) : codeAny (model prog w) A (.compLoop (two elt t0 iter0 t1 iter1 c scope pos) 1 it acc env) R s := by
  refine codeAny_loop rfl I (fun n s hI => ?_) n h
  show wpAny _ A ((compTurn (two elt t0 iter0 t1 iter1 c scope pos) 1 it acc env).onRaise (fun x => do noteFrame x env; theTreesLotGoes x)) _ _ s
  refine wpAny_noted ?_
  rw [turn_two1]
  refine wpAny_bind (wpAny_standAt (wpAny_bind (wpAny_mono (turn n s hI) (fun r s₁ h₁ => ?_) fun _ _ h' => h')))
  cases r with
  | none => exact wpAny_pure h₁
  | some v =>
    refine wpAny_bind (wpAny_of_eq (ht v) ?_)
    refine wpAny_bind (wpAny_mono h₁ (fun _ s₂ h₂ => ?_) fun _ _ h' => h')
    refine wpAny_bind (wpAny_tests_one (wpAny_mono h₂ (fun okb s₃ h₃ => ?_) fun _ _ h' => h'))
    cases okb with
    | false => exact wpAny_pure ⟨rfl, h₃⟩
    | true => exact wpAny_bind (wpAny_bind (wpAny_mono h₃ (fun x s₄ h₄ => wpAny_bind (wpAny_mono h₄ (fun _ s₅ h₅ => wpAny_pure (wpAny_pure ⟨rfl, h₅⟩)) fun _ _ h' => h')) fun _ _ h' => h'))
/-- the outer loop -/
theorem loop_two0 {elt t0 iter0 t1 iter1 c : PySem.Expr} {scope : Scope} {pos : Pos} {it acc : Value} {env : Env} (I : Nat → Shared → Prop)
    (turn : ∀ n s, I n s → wpAny (model prog w) A (pyNext it) (fun r s₁ => match r with
      | none => R (.ok .next) s₁
      | some v => wpAny (model prog w) A (assign t0 env v) (fun _ s₂ =>
          wpAny (model prog w) A (eval iter1 env) (fun x s₃ =>
            wpAny (model prog w) A (pyIter x) (fun it1 s₄ => codeAny (model prog w) A (.compStart (two elt t0 iter0 t1 iter1 c scope pos) 1 it1 acc env) (fun r s₅ => match r with
              | .ok _ => ∃ m, m < n ∧ I m s₅
              | .error e => cameBackBy (model prog w) A env (notedBy (model prog w) A env fun e s' => R (.error e) s') e s₅) s₄) (notedBy (model prog w) A env fun e s' => R (.error e) s') s₃)
            (notedBy (model prog w) A env fun e s' => R (.error e) s') s₂)
          (notedBy (model prog w) A env fun e s' => R (.error e) s') s₁) (notedBy (model prog w) A env fun e s' => R (.error e) s') s)
    (ht : ∀ v, letOwnedTupleGo t0 it v = pure ()) (hs : ∀ x, foldedSetIterable iter1 env x = pure x) (n : Nat) (h : I n s) : codeAny (model prog w) A (.compLoop (two elt t0 iter0 t1 iter1 c scope pos) 0 it acc env) R s := by
  refine codeAny_loop rfl I (fun n s hI => ?_) n h
  show wpAny _ A ((compTurn (two elt t0 iter0 t1 iter1 c scope pos) 0 it acc env).onRaise (fun x => do noteFrame x env; theTreesLotGoes x)) _ _ s
  refine wpAny_noted ?_
  rw [turn_two0]
  refine wpAny_bind (wpAny_standAt (wpAny_bind (wpAny_mono (turn n s hI) (fun r s₁ h₁ => ?_) fun _ _ h' => h')))
  cases r with
  | none => exact wpAny_pure h₁
  | some v =>
    refine wpAny_bind (wpAny_of_eq (ht v) ?_)
    refine wpAny_bind (wpAny_mono h₁ (fun _ s₂ h₂ => ?_) fun _ _ h' => h')
    refine wpAny_bind (wpAny_mono h₂ (fun x s₃ h₃ => ?_) fun _ _ h' => h')
    refine wpAny_bind (wpAny_standAt (wpAny_bind (wpAny_of_eq (hs x) ?_)))
    refine wpAny_bind (wpAny_holding (wpAny_mono h₃ (fun it1 s₄ h₄ => ?_) fun _ _ h' => h'))
    refine wpAny_bind (wpAny_runOwn (codeAny_mono h₄ (fun r s₅ h₅ => ?_)))
    cases r with
    | ok f => exact wpAny_pure ⟨rfl, h₅⟩
    | error e => exact h₅
end
end Mine
end
section
open PySem PySem.W PyProof.Rows PySem.Calls PyProof.Rows.LCg
set_option maxRecDepth 100000
namespace Mine
section
variable {prog : Program} {w : World} {A : Around} {E : Value → Shared → Prop} {s : Shared} {h₀ : Heap} {L : Addr} {m : Str → Option Value} {env : Env}
noncomputable def RngAt (h₀ : Heap) (L : Addr) (m : Str → Option Value) (s : Shared) (led : List (Addr × Obj)) (a b : Int) (xv : Value) (s₁ : Shared) : Prop :=
  ∃ r t u v h' tk', xv = .ref r ∧ s₁ = { s with heap := h', toks := tk' } ∧ IsRange h' r a b 1 t u v ∧ Fr h₀ L h' m ∧ News h₀ L h' led
/-- the outer loop's state -/
inductive TwoO (n : Nat) (s : Shared) (h₀ : Heap) (L I D C : Addr) (m : Str → Option Value) (news : List (Addr × Obj)) (Inv : Nat → Nat → List Value → Prop) (q : Nat) (s' : Shared) : Prop
  | mk (h' : Heap) (tk i : Nat) (ys : List Value) (m' : Str → Option Value) (e : s' = { s with heap := h', toks := tk }) (hi : i ≤ n) (hq : q = n + 1 - i) (hl : ys.length ≤ 2 * i)
    (hr : IsRangeIter h' I (0 + ((i : Nat) : Int) * 1) ((n : Int) - (i : Nat)) 1) (hn : h'.Ns C m') (F : Fr h₀ L h' m) (N : News h₀ L h' ((D, lst ys) :: news)) (hI : Inv i 0 ys) : TwoO n s h₀ L I D C m news Inv q s'
/-- the inner loop's state -/
inductive TwoI (k i : Nat) (x0 : Str) (t0 : Tok) (s : Shared) (h₀ : Heap) (L I J D C : Addr) (oI : Obj) (m : Str → Option Value) (news : List (Addr × Obj)) (Inv : Nat → Nat → List Value → Prop) (q : Nat) (s' : Shared) : Prop
  | mk (h' : Heap) (tk j : Nat) (ys' : List Value) (m' : Str → Option Value) (e : s' = { s with heap := h', toks := tk }) (hj : j ≤ k) (hq : q = k + 1 - j) (hl : ys'.length ≤ 2 * i + j)
    (hr : IsRangeIter h' J (1 + ((j : Nat) : Int) * 1) ((k : Int) - (j : Nat)) 1) (hn : h'.Ns C m') (h0 : m' x0 = some (.int i t0)) (F : Fr h₀ L h' m) (N : News h₀ L h' ((I, oI) :: (D, lst ys') :: news)) (hI : Inv i j ys') : TwoI k i x0 t0 s h₀ L I J D C oI m news Inv q s'
/-- the block of a comprehension of two clauses, both over a range, with a test -/
theorem two_block {elt iter0 iter1 c : PySem.Expr} {x0 x1 : Str} {p0 p1 pos : Pos} {scope : Scope} {cl : List (Str × Addr)} {RR : Value → Addr → Result → Shared → Prop} {news : List (Addr × Obj)} {hp : Heap} {tk1 : Nat} {r : Addr} {t u v : Tok} (n k : Nat) (hh : A.handled = none)
    (hpc : ∀ h, pushCells h scope.names = h) (hcl : ∀ n, cellsFrom n scope.names cl = cl) (hkind : scope.kind = .function)
    (hx0 : scope.names.lookup x0 = some .local) (hx1 : scope.names.lookup x1 = some .local) (hx : ¬ x0 = x1) (hs1 : ∀ C x, foldedSetIterable iter1 (compEnvC scope cl C env) x = pure x)
    (hn : n ≤ 1000) (hk : k ≤ 2) (Inv : Nat → Nat → List Value → Prop) (h0 : Inv 0 0 []) (hnext : ∀ i ys, i < n → Inv i k ys → Inv (i + 1) 0 ys)
    (hr : IsRange hp r 0 n 1 t u v) (F : Fr h₀ L hp m) (N : News h₀ L hp news)
    (iter : ∀ (i : Nat) t ys C D I oC oI m₂ h tk (E' : Value → Shared → Prop), i < n → NsObj oC m₂ → m₂ x0 = some (.int i t) → Fr h₀ L h m → News h₀ L h ((I, oI) :: (C, oC) :: (D, lst ys) :: news) → D < C → (∀ p ∈ news, p.1 < I) →
      wpAny (model prog w) A (eval iter1 (compEnvC scope cl C env)) (RngAt h₀ L m { s with heap := h, toks := tk } ((I, oI) :: (C, oC) :: (D, lst ys) :: news) 1 (k + 1)) E' { s with heap := h, toks := tk })
    (turn : ∀ (i j : Nat) t u ys C D I J oC oI oJ m₂ h tk (E' : Value → Shared → Prop), i < n → j < k → Inv i j ys → NsObj oC m₂ → m₂ x0 = some (.int i t) → m₂ x1 = some (.int (1 + (j : Int)) u) → Fr h₀ L h m → News h₀ L h ((J, oJ) :: (I, oI) :: (C, oC) :: (D, lst ys) :: news) → D < C → (∀ p ∈ news, p.1 < I) →
      TurnW (model prog w) A (compEnvC scope cl C env) elt [c] (PEnd h₀ L m { s with heap := h, toks := tk } ((J, oJ) :: (I, oI) :: (C, oC) :: (D, lst ys) :: news) (fun o => match o with | some v => Inv i (j + 1) (ys ++ [v]) | none => Inv i (j + 1) ys)) E' { s with heap := h, toks := tk })
    (fin : ∀ ys D C h tk m', Inv n 0 ys → Fr h₀ L h m → News h₀ L h ((D, lst ys) :: news) → (∀ p ∈ news, p.1 < D) → h.Ns C m' → h₀.get? C = none → C ≠ L → D < C → RR (.ref D) C (.ok .next) { s with heap := h, toks := tk }) :
    wpAny (model prog w) A (pyIter (.ref r)) (fun itv s₂ => wpAny (model prog w) A (newList []) (fun acc s₃ => wpAny (model prog w) A (newFunctionEnv scope env.globals cl [] env.qual none .none (some env)) (fun cenv s₄ =>
      codeAny (model prog w) A (.compStart (two elt (.Name x0 p0) iter0 (.Name x1 p1) iter1 c scope pos) 0 itv acc { cenv with scope := relabel scope env }) (RR acc cenv.locals) s₄) E s₃) E s₂) E { s with heap := hp, toks := tk1 } := by
  have hsize : ∀ (a b : Int) (q : Nat), b = a + q → Builtin.Range.rangeSize a b 1 = (q : Int) := by
    intro a b q e
    unfold Builtin.Range.rangeSize
    subst e
    simp
    omega
  have hsmall : ∀ (a b : Int) (q : Nat), b = a + q → 0 ≤ a → a ≤ 1 → q ≤ 1000 → Builtin.Range.small a b 1 = true := by
    intro a b q e h1 h2 h3
    exact small_one (by omega) (by omega) (by omega) (by omega)
  refine wpAny_pyIter_range hr (hsmall 0 n n (by omega) (by omega) (by omega) hn) ?_
  rw [hsize 0 n n (by omega)]
  refine wpAny_newObj_type (new_env ?_)
  dsimp only
  rw [hpc, hcl]
  generalize hH1 : hp.push { cls := .type "range_iterator", data := .fields #[rawInt 0, rawInt (n : Int), rawInt 1] } = H1
  have hI1 : H1.objs.size = hp.objs.size + 1 := by rw [← hH1, Heap.size_push]
  generalize hH2 : H1.push { cls := .type "list", dict := none, data := .seq ([] : List Value).toArray } = H2
  have hC : H2.objs.size = H1.objs.size + 1 := by rw [← hH2, Heap.size_push]
  generalize hH3 : H2.push { cls := .type "dict", data := .dict #[] } = H3
  have nI : hp.objs.size < H1.objs.size := by rw [hI1]; exact Nat.lt_succ_self _
  have nD : H1.objs.size < H2.objs.size := by rw [hC]; exact Nat.lt_succ_self _
  have nIC : hp.objs.size < H2.objs.size := Nat.lt_trans nI nD
  have up1 : ∀ b o, hp.get? b = some o → H1.get? b = some o := fun b o q => by rw [← hH1]; exact Heap.get?_push_of_some _ q
  have up2 : ∀ b o, H1.get? b = some o → H2.get? b = some o := fun b o q => by rw [← hH2]; exact Heap.get?_push_of_some _ q
  have up3 : ∀ b o, H2.get? b = some o → H3.get? b = some o := fun b o q => by rw [← hH3]; exact Heap.get?_push_of_some _ q
  have old : ∀ b o, hp.get? b = some o → H3.get? b = some o := fun b o q => up3 b o (up2 b o (up1 b o q))
  have hit : IsRangeIter H3 hp.objs.size (0 + ((0 : Nat) : Int) * 1) ((n : Int) - ((0 : Nat) : Int)) 1 := by
    have : H1.get? hp.objs.size = some { cls := .type "range_iterator", data := .fields #[rawInt 0, rawInt (n : Int), rawInt 1] } := by rw [← hH1]; exact Heap.get?_push_size _ rfl
    have := up3 _ _ (up2 _ _ this)
    simpa using this
  have hacc : H3.get? H1.objs.size = some (lst []) := up3 _ _ (by rw [← hH2]; exact Heap.get?_push_size _ rfl)
  have hns : H3.Ns H2.objs.size (fun _ => none) := by rw [← hH3]; exact Heap.Ns.new H2 (.type "dict")
  have fresh₀ : ∀ a, hp.objs.size ≤ a → h₀.get? a = none := fun a ha => by
    cases q : h₀.get? a with
    | none => rfl
    | some o' => exact absurd (Heap.lt_size (F.keep a o' q)) (Nat.not_lt.mpr ha)
  have hLl : L < hp.objs.size := F.ns.lt
  have newslow : ∀ p ∈ news, p.1 < hp.objs.size := fun p hp => Heap.lt_size (N p hp).1
  have hI₀ := fresh₀ hp.objs.size (Nat.le_refl _)
  have hD₀ := fresh₀ H1.objs.size (Nat.le_of_lt nI)
  have hC₀ := fresh₀ H2.objs.size (Nat.le_of_lt nIC)
  have hIL : hp.objs.size ≠ L := Nat.ne_of_gt hLl
  have hDL : H1.objs.size ≠ L := Nat.ne_of_gt (Nat.lt_trans hLl nI)
  have hCL : H2.objs.size ≠ L := Nat.ne_of_gt (Nat.lt_trans hLl nIC)
  have W0 := range_walks (prog := prog) (w := w) (A := A) (I := hp.objs.size) hh 0 n
  have loop : ∀ s₃ : Shared, s₃ = { s with heap := H3, toks := tk1 } →
      codeAny (model prog w) A (.compLoop (two elt (.Name x0 p0) iter0 (.Name x1 p1) iter1 c scope pos) 0 (.ref hp.objs.size) (.ref H1.objs.size) (compEnvC scope cl H2.objs.size env))
        (RR (.ref H1.objs.size) H2.objs.size) s₃ := by
    rintro s₃ rfl
    refine loop_two0
      (TwoO n s h₀ L hp.objs.size H1.objs.size H2.objs.size m news Inv) ?_ (by intro _; rfl) (hs1 _) (n + 1)
      ⟨H3, tk1, 0, [], _, rfl, Nat.zero_le _, rfl, Nat.le_refl _, hit, hns, F.keeps old, fun p hp => ?_, h0⟩
    · rintro q s' ⟨h', tk, i, ys, m', rfl, hi, rfl, hyl, hst', hn', F', N', hInv⟩
      by_cases hlt : i < n
      · refine W0.item i _ _ _ hlt hst' fun v h₂ tk₂ hPv hst₂ hk₂ => ?_
        obtain ⟨t0, rfl⟩ := hPv
        have e0 : (0 : Int) + (i : Int) = (i : Int) := Int.zero_add _
        rw [e0]
        refine wpAny_assign_Name (wpAny_storeName_local (lookup_relabel_local hx0) (hn'.at' fun o e => hk₂ _ o (by simpa using Nat.ne_of_gt nIC) e) (fun h₃ hn₃ hs₃ => ?_) (by simp [compEnvC, relabel, hkind]))
        obtain ⟨oC, heC, hoC⟩ := ns_obj hn₃
        have hst₃ : IsRangeIter h₃ hp.objs.size (0 + ((i + 1 : Nat) : Int) * 1) ((n : Int) - (i + 1 : Nat)) 1 := hs₃.extBut _ _ (Nat.ne_of_lt nIC) hst₂
        obtain ⟨oI, hoI, heI⟩ : ∃ oI : Obj, (∀ h : Heap, h.get? hp.objs.size = some oI → IsRangeIter h hp.objs.size (0 + ((i + 1 : Nat) : Int) * 1) ((n : Int) - (i + 1 : Nat)) 1) ∧ h₃.get? hp.objs.size = some oI := ⟨_, fun _ e => e, hst₃⟩
        have F₃ : Fr h₀ L h₃ m := (fr_but F' hk₂ (Ne.symm hIL) hI₀).change hs₃ hCL hC₀
        have N₃ : News h₀ L h₃ ((hp.objs.size, oI) :: (H2.objs.size, oC) :: (H1.objs.size, lst ys) :: news) := fun p hpp => by
          rcases List.mem_cons.mp hpp with rfl | hpp
          · exact ⟨heI, hIL, hI₀⟩
          rcases List.mem_cons.mp hpp with rfl | hpp
          · exact ⟨heC, hCL, hC₀⟩
          have z := N' p hpp
          refine ⟨hs₃.extBut _ _ ?_ (hk₂ _ _ ?_ z.1), z.2⟩
          · rcases List.mem_cons.mp hpp with rfl | hpp
            · exact Nat.ne_of_lt nD
            · exact Nat.ne_of_lt (Nat.lt_trans (newslow p hpp) nIC)
          · rcases List.mem_cons.mp hpp with rfl | hpp
            · simpa using Nat.ne_of_gt nI
            · simpa using Nat.ne_of_lt (newslow p hpp)
        refine wpAny_mono (iter i t0 ys _ _ _ oC oI _ h₃ _ _ hlt hoC (by simp) F₃ N₃ nD newslow) (fun xv s₄ h₄ => ?_) fun _ _ e => e
        obtain ⟨r1, a1, a2, a3, h₄, tk₄, rfl, rfl, hr1, F₄, N₄⟩ := h₄
        refine wpAny_pyIter_range hr1 (hsmall 1 (k + 1) k (by omega) (by omega) (by omega) (by omega)) ?_
        rw [hsize 1 (k + 1) k (by omega)]
        generalize hH5 : h₄.push { cls := .type "range_iterator", data := .fields #[rawInt 1, rawInt (k : Int), rawInt 1] } = H5
        have up5 : ∀ b o, h₄.get? b = some o → H5.get? b = some o := fun b o q => by rw [← hH5]; exact Heap.get?_push_of_some _ q
        have hJ : IsRangeIter H5 h₄.objs.size (1 + ((0 : Nat) : Int) * 1) ((k : Int) - ((0 : Nat) : Int)) 1 := by
          have : H5.get? h₄.objs.size = some { cls := .type "range_iterator", data := .fields #[rawInt 1, rawInt (k : Int), rawInt 1] } := by rw [← hH5]; exact Heap.get?_push_size _ rfl
          simpa using this
        have ledlow : ∀ p ∈ ((hp.objs.size, oI) :: (H2.objs.size, oC) :: (H1.objs.size, lst ys) :: news), p.1 < h₄.objs.size := fun p hpp => Heap.lt_size (N₄ p hpp).1
        have lI : hp.objs.size < h₄.objs.size := ledlow _ (.head _)
        have lC : H2.objs.size < h₄.objs.size := ledlow (H2.objs.size, oC) (.tail _ (.head _))
        have lD : H1.objs.size < h₄.objs.size := ledlow (H1.objs.size, lst ys) (.tail _ (.tail _ (.head _)))
        have lL : L < h₄.objs.size := F₄.ns.lt
        have hJ₀ : h₀.get? h₄.objs.size = none := fresh₀ _ (Nat.le_of_lt lI)
        have hJL : h₄.objs.size ≠ L := Nat.ne_of_gt lL
        have W1 := range_walks (prog := prog) (w := w) (A := A) (I := h₄.objs.size) hh 1 k
        have inner : ∀ s₃ : Shared, s₃ = { s with heap := H5, toks := tk₄ } →
            codeAny (model prog w) A (.compLoop (two elt (.Name x0 p0) iter0 (.Name x1 p1) iter1 c scope pos) 1 (.ref h₄.objs.size) (.ref H1.objs.size) (compEnvC scope cl H2.objs.size env))
              (fun r s₅ => match r with
              | .ok _ => ∃ q', q' < n + 1 - i ∧ TwoO n s h₀ L hp.objs.size H1.objs.size H2.objs.size m news Inv q' s₅
              | .error e => cameBackBy (model prog w) A (compEnvC scope cl H2.objs.size env) (notedBy (model prog w) A (compEnvC scope cl H2.objs.size env) fun e s' => RR (.ref H1.objs.size) H2.objs.size (.error e) s') e s₅) s₃ := by
          rintro s₃ rfl
          refine loop_two1
            (TwoI k i x0 t0 s h₀ L hp.objs.size h₄.objs.size H1.objs.size H2.objs.size oI m news Inv) ?_ (by intro _; rfl) (k + 1)
            ⟨H5, tk₄, 0, ys, _, rfl, Nat.zero_le _, rfl, hyl, hJ, (hoC.ns (up5 _ _ (N₄ (H2.objs.size, oC) (.tail _ (.head _))).1)), by simp, F₄.keeps up5, fun p hpp => ?_, hInv⟩
          · rintro q s' ⟨h', tk, j, ys', m', rfl, hj, rfl, hyl', hst', hn', hm0, F', N', hInv'⟩
            by_cases hjk : j < k
            · refine W1.item j _ _ _ hjk hst' fun v h₂ tk₂ hPv hst₂ hk₂ => ?_
              obtain ⟨u1, rfl⟩ := hPv
              refine wpAny_assign_Name (wpAny_storeName_local (lookup_relabel_local hx1) (hn'.at' fun o e => hk₂ _ o (by simpa using Nat.ne_of_lt lC) e) (fun h₃ hn₃ hs₃ => ?_) (by simp [compEnvC, relabel, hkind]))
              obtain ⟨oC', heC', hoC'⟩ := ns_obj hn₃
              have hst₃ : IsRangeIter h₃ h₄.objs.size (1 + ((j + 1 : Nat) : Int) * 1) ((k : Int) - (j + 1 : Nat)) 1 := hs₃.extBut _ _ (Nat.ne_of_gt lC) hst₂
              obtain ⟨oJ, hoJ, heJ⟩ : ∃ oJ : Obj, (∀ h : Heap, h.get? h₄.objs.size = some oJ → IsRangeIter h h₄.objs.size (1 + ((j + 1 : Nat) : Int) * 1) ((k : Int) - (j + 1 : Nat)) 1) ∧ h₃.get? h₄.objs.size = some oJ := ⟨_, fun _ e => e, hst₃⟩
              have F₃ : Fr h₀ L h₃ m := (fr_but F' hk₂ (Ne.symm hJL) hJ₀).change hs₃ hCL hC₀
              have N₃ : News h₀ L h₃ ((h₄.objs.size, oJ) :: (hp.objs.size, oI) :: (H2.objs.size, oC') :: (H1.objs.size, lst ys') :: news) := fun p hpp => by
                rcases List.mem_cons.mp hpp with rfl | hpp
                · exact ⟨heJ, hJL, hJ₀⟩
                rcases List.mem_cons.mp hpp with rfl | hpp
                · have z := N' _ (.head _)
                  exact ⟨hs₃.extBut _ _ (Nat.ne_of_lt nIC) (hk₂ _ _ (by simpa using Nat.ne_of_lt lI) z.1), z.2⟩
                rcases List.mem_cons.mp hpp with rfl | hpp
                · exact ⟨heC', hCL, hC₀⟩
                rcases List.mem_cons.mp hpp with rfl | hpp
                · have z := N' _ (.tail _ (.head _))
                  exact ⟨hs₃.extBut _ _ (Nat.ne_of_lt nD) (hk₂ _ _ (by simpa using Nat.ne_of_lt lD) z.1), z.2⟩
                · have z := N' _ (.tail _ (.tail _ hpp))
                  have hl := newslow p hpp
                  exact ⟨hs₃.extBut _ _ (Nat.ne_of_lt (Nat.lt_trans hl nIC)) (hk₂ _ _ (by simpa using Nat.ne_of_lt (Nat.lt_trans hl lI)) z.1), z.2⟩
              refine wpAny_mono (turn i j t0 u1 ys' _ _ _ _ oC' oI oJ _ h₃ _ _ hlt hjk hInv' hoC' (by simp [hx, hm0]) (by simp) F₃ N₃ nD newslow) (fun ok s₅ h₅ => ?_) fun _ _ e => e
              have sub : ∀ (ys'' : List Value) (o : Option Value) (h₆ : Heap) (tk₆ : Nat), News h₀ L h₆ ((h₄.objs.size, oJ) :: (hp.objs.size, oI) :: (H2.objs.size, oC') :: (H1.objs.size, lst ys'') :: news) → News h₀ L h₆ ((hp.objs.size, oI) :: (H1.objs.size, lst ys'') :: news) := fun ys'' o h₆ tk₆ N₆ p hpp => N₆ p (by
                rcases List.mem_cons.mp hpp with rfl | hpp
                · exact .tail _ (.head _)
                rcases List.mem_cons.mp hpp with rfl | hpp
                · exact .tail _ (.tail _ (.tail _ (.head _)))
                · exact .tail _ (.tail _ (.tail _ (.tail _ hpp))))
              cases ok with
              | false =>
                simp only [Bool.false_eq_true, if_false] at h₅ ⊢
                obtain ⟨h₅, tk₅, rfl, F₅, N₅, hI₅⟩ := h₅
                exact ⟨k + 1 - (j + 1), by omega, h₅, tk₅, j + 1, ys', _, rfl, hjk, rfl, by omega, hoJ h₅ (N₅ _ (.head _)).1, hoC'.ns (N₅ (H2.objs.size, oC') (.tail _ (.tail _ (.head _)))).1, by simp [hx, hm0], F₅, sub ys' none h₅ tk₅ N₅, hI₅⟩
              | true =>
                simp only [if_true] at h₅ ⊢
                refine wpAny_mono h₅ (fun y s₆ h₆ => ?_) fun _ _ e => e
                obtain ⟨h₅, tk₅, rfl, F₅, N₅, hI₅⟩ := h₆
                refine append_at (hsz := by show ys'.toArray.size ≤ sizeLine; rw [List.size_toArray, sizeLine_eq]; omega) (N₅ (H1.objs.size, lst ys') (.tail _ (.tail _ (.tail _ (.head _))))).1 fun h₆ hs₆ hD₆ => ?_
                refine ⟨k + 1 - (j + 1), by omega, h₆, _, j + 1, ys' ++ [y], _, rfl, hjk, rfl, by rw [List.length_append, List.length_singleton]; omega, hs₆.extBut _ _ (Nat.ne_of_gt lD) (hoJ h₅ (N₅ _ (.head _)).1), (hoC'.ns (N₅ (H2.objs.size, oC') (.tail _ (.tail _ (.head _)))).1).sameBut hs₆ (Nat.ne_of_gt nD), by simp [hx, hm0], F₅.change hs₆ hDL hD₀, fun p hpp => ?_, hI₅⟩
                rcases List.mem_cons.mp hpp with rfl | hpp
                · have z := N₅ _ (.tail _ (.head _))
                  exact ⟨hs₆.extBut _ _ (Nat.ne_of_lt nI) z.1, z.2⟩
                rcases List.mem_cons.mp hpp with rfl | hpp
                · exact ⟨hD₆.trans (congrArg some (lst_snoc ys' y)), hDL, hD₀⟩
                · have z := N₅ p (.tail _ (.tail _ (.tail _ (.tail _ hpp))))
                  exact ⟨hs₆.extBut _ _ (Nat.ne_of_lt (Nat.lt_trans (newslow p hpp) nI)) z.1, z.2⟩
            · have hjk' : j = k := Nat.le_antisymm hj (Nat.not_lt.mp hjk)
              subst hjk'
              refine W1.done _ _ _ hst' fun h₂ tk₂ hk₂ => ?_
              have N₂ : News h₀ L h₂ ((hp.objs.size, oI) :: (H1.objs.size, lst ys') :: news) := news_but N' hk₂ fun p hpp => by
                rcases List.mem_cons.mp hpp with rfl | hpp
                · exact Nat.ne_of_lt lI
                rcases List.mem_cons.mp hpp with rfl | hpp
                · exact Nat.ne_of_lt lD
                · exact Nat.ne_of_lt (Nat.lt_trans (newslow p hpp) lI)
              exact ⟨n + 1 - (i + 1), by omega, h₂, tk₂, i + 1, ys', _, rfl, hlt, rfl, by omega, hoI h₂ (N₂ _ (.head _)).1, hn'.at' fun o e => hk₂ _ o (by simpa using Nat.ne_of_lt lC) e, fr_but F' hk₂ (Ne.symm hJL) hJ₀, fun p hpp => N₂ p (.tail _ hpp), hnext i ys' hlt hInv'⟩
          · have z := N₄ p (by
              rcases List.mem_cons.mp hpp with rfl | hpp
              · exact .head _
              · exact .tail _ (.tail _ hpp))
            exact ⟨up5 _ _ z.1, z.2⟩
        exact start_two1 (inner _ rfl) (wpAny_pyIter_rangeiter hJ (inner _ rfl))
      · have hin : i = n := Nat.le_antisymm hi (Nat.not_lt.mp hlt)
        subst hin
        refine W0.done _ _ _ hst' fun h₂ tk₂ hk₂ => ?_
        have N₂ : News h₀ L h₂ ((H1.objs.size, lst ys) :: news) := news_but N' hk₂ fun p hpp => by
          rcases List.mem_cons.mp hpp with rfl | hpp
          · exact Nat.ne_of_gt nI
          · exact Nat.ne_of_lt (newslow p hpp)
        exact fin ys _ _ h₂ tk₂ m' hInv (fr_but F' hk₂ (Ne.symm hIL) hI₀) N₂ (fun p hpp => Nat.lt_trans (newslow p hpp) nI) (hn'.at' fun o e => hk₂ _ o (by simpa using Nat.ne_of_gt nIC) e) hC₀ hCL nD
    · rcases List.mem_cons.mp hp with rfl | hp
      · exact ⟨hacc, hDL, hD₀⟩
      · exact ⟨old _ _ (N p hp).1, (N p hp).2⟩
  exact codeAny_compStart_list (loop _ rfl) (wpAny_pyIter_rangeiter hit (loop _ rfl))
/-- the same, stored under a name of the frame -/
theorem two_assign {elt iter0 iter1 c : PySem.Expr} {x0 x1 y : Str} {p0 p1 py pos spos : Pos} {scope : Scope} {cl : List (Str × Addr)} {Q : Flow → Shared → Prop} {news : List (Addr × Obj)} (n k : Nat) (hh : A.handled = none) (_F : Fr h₀ env.locals s.heap m) (_N : News h₀ env.locals s.heap news)
    (hsw : swapsWith (two elt (.Name x0 p0) iter0 (.Name x1 p1) iter1 c scope pos) (some (.Name y py)) spos.line env = pure true)
    (hclos : closureFor scope env = pure cl) (hpc : ∀ h, pushCells h scope.names = h) (hcl : ∀ n, cellsFrom n scope.names cl = cl) (hkind : scope.kind = .function) (hnames : ∀ y ∈ scope.names, y.2 = .local → scope.names.lookup y.1 = some .local)
    (hx0 : scope.names.lookup x0 = some .local) (hx1 : scope.names.lookup x1 = some .local) (hx : ¬ x0 = x1) (hs0 : ∀ x, foldedSetIterable iter0 env x = pure x) (hs1 : ∀ C x, foldedSetIterable iter1 (compEnvC scope cl C env) x = pure x)
    (hy : env.kindOf y = some .local) (hpn : (env.scope.kind == .class || (env.scope.kind == .module && env.locals != env.globals)) = false)
    (hn : n ≤ 1000) (hk : k ≤ 2) (Inv : Nat → Nat → List Value → Prop) (h0 : Inv 0 0 []) (hnext : ∀ i ys, i < n → Inv i k ys → Inv (i + 1) 0 ys)
    (src : wpAny (model prog w) A (eval iter0 env) (RngAt h₀ env.locals m s news 0 n) E s)
    (iter : ∀ (i : Nat) t ys C D I oC oI m₂ h tk (E' : Value → Shared → Prop), i < n → NsObj oC m₂ → m₂ x0 = some (.int i t) → Fr h₀ env.locals h m → News h₀ env.locals h ((I, oI) :: (C, oC) :: (D, lst ys) :: news) → D < C → (∀ p ∈ news, p.1 < I) →
      wpAny (model prog w) A (eval iter1 (compEnvC scope cl C env)) (RngAt h₀ env.locals m { s with heap := h, toks := tk } ((I, oI) :: (C, oC) :: (D, lst ys) :: news) 1 (k + 1)) E' { s with heap := h, toks := tk })
    (turn : ∀ (i j : Nat) t u ys C D I J oC oI oJ m₂ h tk (E' : Value → Shared → Prop), i < n → j < k → Inv i j ys → NsObj oC m₂ → m₂ x0 = some (.int i t) → m₂ x1 = some (.int (1 + (j : Int)) u) → Fr h₀ env.locals h m → News h₀ env.locals h ((J, oJ) :: (I, oI) :: (C, oC) :: (D, lst ys) :: news) → D < C → (∀ p ∈ news, p.1 < I) →
      TurnW (model prog w) A (compEnvC scope cl C env) elt [c] (PEnd h₀ env.locals m { s with heap := h, toks := tk } ((J, oJ) :: (I, oI) :: (C, oC) :: (D, lst ys) :: news) (fun o => match o with | some v => Inv i (j + 1) (ys ++ [v]) | none => Inv i (j + 1) ys)) E' { s with heap := h, toks := tk })
    (fin : ∀ ys D h tk, Inv n 0 ys → Fr h₀ env.locals h (fun z => if z = y then some (.ref D) else m z) → News h₀ env.locals h ((D, lst ys) :: news) → (∀ p ∈ news, p.1 < D) → Q .next { s with heap := h, toks := tk }) :
    wpAny (model prog w) A (exec (.Assign [.Name y py] (two elt (.Name x0 p0) iter0 (.Name x1 p1) iter1 c scope pos) spos) env) Q E s := by
  rw [exec_Assign_Name_used _ _ _ _ hsw]
  refine wpAny_bind (wpAny_standAt (wpAny_bind ?_))
  show wpAny _ A (do let _ ← comprehension (two elt (.Name x0 p0) iter0 (.Name x1 p1) iter1 c scope pos) scope env _ (newList []) false (eval iter0 env) (some (assign (.Name y py) env))) _ _ s
  refine wpAny_bind (wpAny_mono (wpAny_comprehension_free (use := some (assign (.Name y py) env)) (Q := fun _ s' => Q .next s') (gs := [⟨.Name x1 p1, iter1, [c], 0⟩]) rfl hs0 hclos hkind hnames
    (wpAny_mono src (fun xv s₁ h₁ => ?_) fun _ _ e => e)) (fun _ s' hq => wpAny_pure (wpAny_pure hq)) fun _ _ e => e)
  obtain ⟨r, t, u, v, hp, tk1, rfl, rfl, hr, F, N⟩ := h₁
  refine two_block (RR := fun acc C => compPost (model prog w) A E (some (assign (.Name y py) env)) (fun _ s' => Q .next s') acc C) n k hh hpc hcl hkind hx0 hx1 hx hs1 hn hk Inv h0 hnext hr F N iter turn ?_
  intro ys D C h tk m' hI F' N' hlt hn' hC₀ hCL hDC
  show wpAny _ A (assign (.Name y py) env (.ref D)) _ _ _
  refine wpAny_assign_Name (wpAny_storeName_local hy F'.ns (fun h₂ hn₂ hs₂ => ?_) hpn)
  have hL₀ : h₀.get? env.locals = none := Heap.get?_none_of_le F'.above
  have F₂ : Fr h₀ env.locals h₂ (fun z => if z = y then some (.ref D) else m z) := ⟨hn₂, fun b o e => hs₂.extBut b o (fun q => by rw [q, hL₀] at e; cases e) (F'.keep b o e), F'.above⟩
  refine ⟨m', hn'.sameBut hs₂ hCL, fun h'' hs'' => fin ys D h'' _ hI (F₂.change hs'' hCL hC₀) (fun p hpp => ?_) hlt⟩
  have z : h₂.get? p.1 = some p.2 := hs₂.extBut _ _ (N' p hpp).2.1 (N' p hpp).1
  refine ⟨hs''.extBut _ _ ?_ z, (N' p hpp).2⟩
  rcases List.mem_cons.mp hpp with rfl | hpp
  · exact Nat.ne_of_lt hDC
  · exact Nat.ne_of_lt (Nat.lt_trans (hlt p hpp) hDC)
end
end Mine
end
section
open PySem PySem.W PyProof.Rows PySem.Calls
set_option maxRecDepth 100000
namespace Mine
noncomputable abbrev wch (s d : Int) : Nat := 65 + (d + s).toNat
theorem wtx_ls (t s : Int) (l : Nat) (n : Int) : ls (wtx t s l n) = (wd t l n).map (wch s) := rfl
theorem wch_inj {s a b : Int} (hs : 0 ≤ s) (ha : 0 ≤ a) (hb : 0 ≤ b) (h : wch s a = wch s b) : a = b := by
  unfold wch at h; omega
theorem map_wch_inj {s : Int} (hs : 0 ≤ s) : ∀ {l l' : List Int}, (∀ d ∈ l, 0 ≤ d) → (∀ d ∈ l', 0 ≤ d) → l.map (wch s) = l'.map (wch s) → l = l'
  | [], [], _, _, _ => rfl
  | [], _ :: _, _, _, h => by simp at h
  | _ :: _, [], _, _, h => by simp at h
  | a :: l, b :: l', h1, h2, h => by
    simp only [List.map_cons, List.cons.injEq] at h
    rw [wch_inj hs (h1 a (by simp)) (h2 b (by simp)) h.1, map_wch_inj hs (fun d hd => h1 d (by simp [hd])) (fun d hd => h2 d (by simp [hd])) h.2]
/-- the end of a word: its last digit that is no nought, and the noughts behind -/
structure EndOf (t : Int) (L : Nat) (n : Int) (u : List Int) (d : Int) (z : Nat) : Prop where
  eq : wd t L n = u ++ [d] ++ List.replicate z 0
  d1 : 1 ≤ d
  dt : d ≤ t
  dig : Dig t u
theorem end_of {t n : Int} {L : Nat} (ht : T12 t) (h0 : 0 < n) (h1 : n < wt t L) : ∃ u d z, EndOf t L n u d z := by
  have hd := wd_dig (L := L) ht (by omega : 0 ≤ n) h1
  have hv := wd_val (L := L) ht (by omega : 0 ≤ n) h1
  rcases split_end (wd t L n) with h | ⟨u, d, z, hne, e⟩
  · rw [rd_noughts t h] at hv
    have : (0 : Int) = n := hv
    omega
  · have hdd := hd d (by rw [e]; simp)
    exact ⟨u, d, z, e, by omega, hdd.2, fun x hx => hd x (by rw [e]; simp [hx])⟩
theorem end_only {d d' : Int} (hd : d ≠ 0) (hd' : d' ≠ 0) : ∀ {z z' : Nat} {u u' : List Int}, List.replicate z 0 ++ d :: u = List.replicate z' 0 ++ d' :: u' → z = z' ∧ d = d'
  | 0, 0, u, u', h => by
    simp at h
    exact ⟨rfl, h.1⟩
  | 0, z' + 1, u, u', h => by
    simp [List.replicate_succ] at h
    exact absurd h.1 hd
  | z + 1, 0, u, u', h => by
    simp [List.replicate_succ] at h
    exact absurd h.1.symm hd'
  | z + 1, z' + 1, u, u', h => by
    simp [List.replicate_succ] at h
    have := end_only hd hd' h
    exact ⟨by omega, this.2⟩
/-- the want that the comprehension asks -/
theorem em_end_iff {t s n : Int} {L : Nat} {u : List Int} {d top : Int} {z size : Nat} {x : Str} (hs : 0 ≤ s ∧ s ≤ 13) (h : EndOf t L n u d z) (hdn : Dig t (wd t L n)) (ht1 : 1 ≤ top) (hx : ls x = [46, 46, 46] ++ (wch s top :: List.replicate size (wch s 0))) :
    em x (wtx t s L n) = true ↔ size = z ∧ top = d := by
  have hb : Plain (⟨(wch s top :: List.replicate size (wch s 0)).toArray⟩ : Str) := by
    unfold Plain
    show 46 ∉ (wch s top :: List.replicate size (wch s 0))
    intro hm
    rcases List.mem_cons.mp hm with e | hm
    · unfold wch at e; omega
    · have := List.eq_of_mem_replicate hm
      unfold wch at this; omega
  have hlb : (⟨(wch s top :: List.replicate size (wch s 0)).toArray⟩ : Str).length = size + 1 := by
    show (wch s top :: List.replicate size (wch s 0)).toArray.size = _
    simp
  have hly : (wtx t s L n).length = (wd t L n).length := by
    show ((wd t L n).map (wch s)).toArray.size = _
    simp
  rw [em2 (a := Str.empty) empty_plain hb (by rw [hx, empty_ls]; rfl)]
  rw [endswith_iff, hlb, hly, empty_len]
  show _ ∧ (size + 1 ≤ (wd t L n).length ∧ ((((wd t L n).map (wch s)).drop ((wd t L n).length - (size + 1))).take (size + 1) = (wch s top :: List.replicate size (wch s 0)))) ∧ _ ↔ _
  have key : size + 1 ≤ (wd t L n).length → ((((wd t L n).map (wch s)).drop ((wd t L n).length - (size + 1))).take (size + 1) = (wch s top :: List.replicate size (wch s 0)) ↔ (wd t L n).drop ((wd t L n).length - (size + 1)) = top :: List.replicate size 0) := by
    intro hl
    have e1 : (wch s top :: List.replicate size (wch s 0)) = (top :: List.replicate size 0).map (wch s) := by simp
    rw [List.take_of_length_le (by simp; omega), ← List.map_drop, e1]
    constructor
    · intro e
      refine map_wch_inj hs.1 (fun x hx => (hdn x (List.mem_of_mem_drop hx)).1) (fun x hx => ?_) e
      rcases List.mem_cons.mp hx with rfl | hx
      · omega
      · rw [List.eq_of_mem_replicate hx]; omega
    · intro e; rw [e]
  constructor
  · rintro ⟨_, ⟨hl, he⟩, _⟩
    have he' := (key hl).mp he
    have e2 : wd t L n = (wd t L n).take ((wd t L n).length - (size + 1)) ++ (top :: List.replicate size 0) := by
      conv => lhs; rw [← List.take_append_drop ((wd t L n).length - (size + 1)) (wd t L n), he']
    rw [h.eq] at e2
    have e3 := congrArg List.reverse e2
    simp only [List.reverse_append, List.reverse_replicate, List.reverse_cons, List.reverse_nil, List.nil_append, List.append_assoc, List.singleton_append] at e3
    have := end_only (by have := h.d1; omega) (by omega) e3
    exact ⟨this.1.symm, this.2.symm⟩
  · rintro ⟨rfl, rfl⟩
    have hl : size + 1 ≤ (wd t L n).length := by rw [h.eq]; simp
    refine ⟨starts_empty, ⟨hl, (key hl).mpr ?_⟩, by omega⟩
    have hl2 : (wd t L n).length - (size + 1) = u.length := by rw [h.eq]; simp
    rw [hl2, h.eq, List.append_assoc, List.drop_left]
    rfl
theorem end_len {t n d : Int} {L z : Nat} {u : List Int} (h : EndOf t L n u d z) : z < (wd t L n).length := by
  rw [h.eq, List.length_append, List.length_append, List.length_replicate, List.length_singleton]
  omega
/-- the sizes found so far -/
noncomputable def EInv (d : Int) (z : Nat) (i j : Nat) (ys : List Value) : Prop := if z < i ∨ (z = i ∧ d ≤ j) then ∃ t, ys = [.int (z : Int) t] else ys = []
theorem ei_start {d : Int} {z : Nat} (hd : 1 ≤ d) : EInv d z 0 0 [] := by
  unfold EInv
  rw [if_neg (by omega)]
theorem ei_next {d : Int} {z i k : Nat} {ys : List Value} (hd : 1 ≤ d ∧ d ≤ k) (h : EInv d z i k ys) : EInv d z (i + 1) 0 ys := by
  unfold EInv at *
  by_cases hc : z < i + 1
  · rw [if_pos (by omega)]
    rwa [if_pos (by omega)] at h
  · rw [if_neg (by omega)]
    rwa [if_neg (by omega)] at h
theorem ei_yes {d : Int} {z i j : Nat} {ys : List Value} {t : Tok} (h : EInv d z i j ys) (he : i = z ∧ 1 + (j : Int) = d) : EInv d z i (j + 1) (ys ++ [.int (i : Int) t]) := by
  obtain ⟨rfl, e⟩ := he
  unfold EInv at *
  rw [if_neg (by omega)] at h
  rw [if_pos (by omega), h]
  exact ⟨t, rfl⟩
theorem ei_no {d : Int} {z i j : Nat} {ys : List Value} (h : EInv d z i j ys) (he : ¬ (i = z ∧ 1 + (j : Int) = d)) : EInv d z i (j + 1) ys := by
  unfold EInv at *
  by_cases hc : z < i ∨ (z = i ∧ d ≤ j)
  · rw [if_pos hc] at h
    rw [if_pos (by omega)]
    exact h
  · rw [if_neg hc] at h
    rw [if_neg (by omega)]
    exact h
theorem ei_fin {d : Int} {z n : Nat} {ys : List Value} (h : EInv d z n 0 ys) (hz : z < n) : ∃ t, ys = [.int (z : Int) t] := by
  unfold EInv at h
  rwa [if_pos (.inl hz)] at h
/-- behind the greatest digit a nought follows -/
theorem vd_next {t d : Int} (ht : T12 t) : ∀ {u r : List Int}, Dig t (u ++ t :: d :: r) → Vd t (u ++ t :: d :: r) → d = 0
  | _ :: u, r, hd, hv => vd_next ht (u := u) (r := r) (fun x hx => hd x (List.mem_cons_of_mem _ hx)) hv.2
  | [], r, hd, hv => by
    have h1 : (rd t (t :: d :: r)).1 < wt t (r.length + 2) := hv.1
    have hdd := hd d (by simp)
    have hr : Dig t r := fun x hx => hd x (by simp [hx])
    have h0 := (rd_ok ht hr).n0
    rw [rd_cons, rd_cons, wt_rec] at h1
    have h2 : t * wt t (d :: r).length = t * wt t (r.length + 1) := rfl
    have hw := (wt_pos ht r.length).1
    refine Int.le_antisymm (Int.not_lt.mp fun c => ?_) hdd.1
    have h3 : wt t r.length ≤ d * wt t r.length := by
      have := Int.mul_le_mul_of_nonneg_right (show (1 : Int) ≤ d by omega) (Int.le_of_lt hw)
      omega
    omega
theorem wd_vd {t n : Int} {L : Nat} (ht : T12 t) (h0 : 0 ≤ n) (h1 : n < wt t L) : Vd t (wd t L n) := by
  have := gd_vd ht L n h0 h1
  obtain ⟨u, hu⟩ := List.dropWhile_suffix (fun x : Int => x == 0) (l := gd t L n)
  rw [← hu] at this
  exact vd_tail this
/-- the letter behind the digits read so far -/
noncomputable def lastT (t : Int) (ds : List Int) : Bool := ds.getLast? == some t
/-- what the sign's letters give for the next figure -/
theorem step_x {t d : Int} {x y : Nat} (ht : T12 t) (hd : 0 ≤ d ∧ d ≤ t) : (if t = 1 then [x, y] else [x, x, y])[d.toNat]? = some (if d = t then y else x) := by
  rcases ht with rfl | rfl
  · have : d = 0 ∨ d = 1 := by omega
    rcases this with rfl | rfl <;> simp
  · have : d = 0 ∨ d = 1 ∨ d = 2 := by omega
    rcases this with rfl | rfl | rfl <;> simp
theorem lastT_snoc {t d : Int} {ds : List Int} : lastT t (ds ++ [d]) = (d == t) := by
  unfold lastT
  simp
/-- the letter at the loop's end, against the noughts -/
theorem last_even {t n k : Int} {L : Nat} (ht : T12 t) (h0 : 0 < n) (h1 : n < wt t L) (ho : Ok t n k) : lastT t (wd t L (n - 1)) = true ↔ 0 < Nm t n k := by
  have hd := wd_dig (L := L) ht (by omega : 0 ≤ n - 1) (by omega)
  have hv := wd_vd (L := L) ht (by omega : 0 ≤ n - 1) (by omega)
  have hr := wd_val (L := L) ht (by omega : 0 ≤ n - 1) (by omega)
  generalize wd t L (n - 1) = ds at *
  rcases List.eq_nil_or_concat ds with rfl | ⟨u, d, rfl⟩
  · have hn : n = 1 := by
      have : (0 : Int) = n - 1 := hr
      omega
    subst hn
    have hk : k = 1 := by
      have := ho.kn
      have := k_pos ht (by omega) ho
      omega
    subst hk
    constructor
    · intro h; simp [lastT] at h
    · intro h
      have : ¬ 0 < Nm t 1 1 := by unfold Nm; rcases ht with rfl | rfl <;> decide
      exact absurd h this
  · rw [List.concat_eq_append] at *
    rw [lastT_snoc, ← letter_law ht hd hv hr ho]
    simp
theorem end_sign {t n k d : Int} {L z : Nat} {u : List Int} (ht : T12 t) (h0 : 0 < n) (h1 : n < wt t L) (ho : Ok t n k) (h : EndOf t L n u d z) : (Nm t n k < 0 ↔ z % 2 = 0) ∧ Nm t n k ≠ 0 := by
  have hs := sign_end ht h.dig h.d1 z
  have hv := wd_val (L := L) ht (by omega : 0 ≤ n) h1
  have hd := wd_dig (L := L) ht (by omega : 0 ≤ n) h1
  have o := rd_ok ht hd
  rw [hv] at o
  have hk := ok_only ht ho o
  rw [← h.eq, hv, ← hk] at hs
  exact hs
/-- the letter is that of the noughts -/
theorem letter_ok {t n k d : Int} {L z : Nat} {u : List Int} (ht : T12 t) (h0 : 0 < n) (h1 : n < wt t L) (ho : Ok t n k) (h : EndOf t L n u d z) : lastT t (wd t L (n - 1)) = decide (z % 2 = 1) := by
  have a := last_even ht h0 h1 ho
  obtain ⟨b, c⟩ := end_sign ht h0 h1 ho h
  rw [Bool.eq_iff_iff, a, decide_eq_true_iff]
  omega
/-- the answer -/
theorem lost_iff {t s l g k d : Int} {L z : Nat} {u : List Int} {x : Str} (ht : T12 t) (hs : 0 ≤ s ∧ s ≤ 13) (hl : 0 < l) (hL : 1 ≤ L) (h1 : l < wt t (L - 1)) (hg : 0 ≤ g) (hg1 : g < wt t (L - 1)) (ho : Ok t l k) (h : EndOf t L l u d z) (hx : ls x = (wd t L l).map (wch s) ++ [wch s 0]) :
    (z % 2 = 0 ∧ (x == wtx t s L g) = true) ↔ Lost t l g := by
  obtain ⟨L, rfl⟩ : ∃ q, L = q + 1 := ⟨L - 1, by omega⟩
  have e1 : L + 1 - 1 = L := by omega
  rw [e1] at h1 hg1
  have hw := (wt_pos ht L).2
  have hm := word_mate (g := g) ht hl h1 hg (by omega) ho
  obtain ⟨b, c⟩ := end_sign ht hl (by omega) ho h
  have hdl := wd_dig (L := L + 1) ht (by omega : 0 ≤ l) (by omega)
  have hdg := wd_dig (L := L + 1) ht hg (by omega)
  have heq : (x == wtx t s (L + 1) g) = true ↔ wd t (L + 1) l ++ [0] = wd t (L + 1) g := by
    rw [beq_iff_eq]
    constructor
    · intro e
      have := congrArg ls e
      rw [hx, wtx_ls] at this
      refine map_wch_inj hs.1 (fun d hd => ?_) (fun d hd => (hdg d hd).1) (by simpa using this)
      rcases List.mem_append.mp hd with hd | hd
      · exact (hdl d hd).1
      · rw [List.mem_singleton.mp hd]; omega
    · intro e
      refine ls_inj ?_
      rw [hx, wtx_ls, ← e]
      simp
  rw [heq, hm, ← b]
  constructor
  · rintro ⟨h2, h3⟩
    exact .inr ⟨hl, k, ho, h2, h3⟩
  · rintro (⟨h2, _⟩ | ⟨_, k', ho', h2, h3⟩)
    · omega
    · have := ok_only ht ho ho'
      subst this
      exact ⟨h2, h3⟩
theorem sorted_in {x y a b : Int} (hx : x = min a b) (hy : y = max a b) (ha : 0 ≤ a ∧ a < 20000) (hb : 0 ≤ b ∧ b < 20000) : 0 ≤ x ∧ x ≤ y ∧ y < 20000 := by omega
theorem lost_zero {t g : Int} : Lost t 0 g ↔ g = 0 := by
  constructor
  · rintro (⟨_, h⟩ | ⟨h, _⟩)
    · exact h
    · omega
  · intro h; exact .inl ⟨rfl, h⟩
theorem zero_end {t lo hi a b : Int} (hx : lo = min a b) (hy : hi = max a b) (h0 : lo = 0) : (hi == 0) = true ↔ LostU t a b := by
  show _ ↔ Lost t (min a b) (max a b)
  rw [← hx, ← hy, h0, lost_zero]
  simp
/-! texts of the loop -/
theorem find_of {x y : Str} {i : Nat} (h : PySem.StrLaws.At x y x.length i) (hn : ∀ k, k < i → ¬ PySem.StrLaws.At x y x.length k) : Txt.find x y = i := by
  unfold Txt.find
  rcases occ_first_from x y 0 x.length with ⟨e, h2⟩ | ⟨j, r, e, h1, h2, h3⟩
  · exact absurd h (h2 i (Nat.zero_le _))
  · rw [e]
    have : j = i := by
      rcases Nat.lt_trichotomy j i with c | c | c
      · exact absurd h2 (hn j c)
      · exact c
      · exact absurd h (h3 i (Nat.zero_le _) c)
    show (j : Int) = i
    rw [this]
theorem find0 (x y : Nat) : Txt.find ⟨#[x, y]⟩ ⟨#[x]⟩ = 0 := find_of (x := ⟨#[x, y]⟩) (y := ⟨#[x]⟩) (i := 0) (at_iff.mpr ⟨by show 0 + 1 ≤ 2; decide, rfl⟩) (fun k hk => absurd hk (Nat.not_lt_zero _))
theorem find1 {x y : Nat} (h : x ≠ y) : Txt.find ⟨#[x, y]⟩ ⟨#[y]⟩ = 1 := find_of (x := ⟨#[x, y]⟩) (y := ⟨#[y]⟩) (i := 1) (at_iff.mpr ⟨by show 1 + 1 ≤ 2; decide, rfl⟩) (fun k hk => by
  have : k = 0 := by omega
  subst this
  intro hc
  have := (at_iff.mp hc).2
  have e : [x] = [y] := this
  exact h (by injection e))
theorem wtx_size (t s : Int) (l : Nat) (n : Int) : (wtx t s l n).length = (wd t l n).length := by
  show ((wd t l n).map (wch s)).toArray.size = _
  simp
noncomputable def LInv (t s : Int) (x y : Nat) (pre : List Int) (letter : Str) : Prop := ∃ ds : List Int, pre = ds.map (fun d => ((wch s d : Nat) : Int)) ∧ (∀ d ∈ ds, 0 ≤ d) ∧ letter = ⟨#[if lastT t ds then y else x]⟩
theorem l_start {t s : Int} {x y : Nat} : LInv t s x y [] ⟨#[x]⟩ := ⟨[], rfl, fun _ h => (nomatch h), rfl⟩
theorem map_code_inj {s : Int} (hs : 0 ≤ s) : ∀ {l l' : List Int}, (∀ d ∈ l, 0 ≤ d) → (∀ d ∈ l', 0 ≤ d) → l.map (fun d => ((wch s d : Nat) : Int)) = l'.map (fun d => ((wch s d : Nat) : Int)) → l = l'
  | [], [], _, _, _ => rfl
  | [], _ :: _, _, _, h => by simp at h
  | _ :: _, [], _, _, h => by simp at h
  | a :: l, b :: l', h1, h2, h => by
    rw [List.map_cons, List.map_cons, List.cons.injEq] at h
    rw [wch_inj hs (h1 a (by simp)) (h2 b (by simp)) (Int.ofNat.inj h.1), map_code_inj hs (fun d hd => h1 d (by simp [hd])) (fun d hd => h2 d (by simp [hd])) h.2]
theorem wtx_codes (t s : Int) (l : Nat) (n : Int) : KStt.codes (wtx t s l n) = (wd t l n).map (fun d => ((wch s d : Nat) : Int)) := by
  unfold KStt.codes
  show ((wd t l n).map (wch s)).map _ = _
  rw [List.map_map]
  rfl
/-- a turn of the loop over the word -/
theorem l_turn {t s n q : Int} {L : Nat} {x y : Nat} {pre post : List Int} {letter : Str} (ht : T12 t) (hs : 0 ≤ s) (h0 : 0 ≤ n) (h1 : n < wt t L) (he : KStt.codes (wtx t s L n) = pre ++ q :: post) (h : LInv t s x y pre letter) :
    ∃ c' : Nat, LInv t s x y (pre ++ [q]) ⟨#[c']⟩ ∧ 0 ≤ q - 65 - s ∧ (∃ qn : Nat, q = qn) ∧
      ((letter = ⟨#[x]⟩ ∧ (if t = 1 then [x, y] else [x, x, y])[(q - 65 - s).toNat]? = some c') ∨ (letter = ⟨#[y]⟩ ∧ [x][(q - 65 - s).toNat]? = some c')) := by
  obtain ⟨ds, hp, hd0, hl⟩ := h
  rw [wtx_codes] at he
  have hdig := wd_dig (L := L) ht h0 h1
  have hvd := wd_vd (L := L) ht h0 h1
  obtain ⟨u, v, e, e1, e2⟩ := List.map_eq_append_iff.mp he
  obtain ⟨d, r, rfl, ed, er⟩ := List.map_eq_cons_iff.mp e2
  have hu : u = ds := map_code_inj hs (fun d hd => (hdig d (by rw [e]; simp [hd])).1) hd0 (by rw [e1, hp])
  subst hu
  have hdd := hdig d (by rw [e]; simp)
  have hq : q = 65 + d + s := by rw [← ed]; unfold wch; omega
  have hq2 : (q - 65 - s).toNat = d.toNat := by omega
  rw [hq2]
  have hsn : ∀ b : Bool, lastT t (u ++ [d]) = b → LInv t s x y (pre ++ [q]) ⟨#[if b then y else x]⟩ := fun b hb => ⟨u ++ [d], by rw [List.map_append, ← hp, ← ed]; rfl, fun z hz => by
    rcases List.mem_append.mp hz with hz | hz
    · exact hd0 z hz
    · rw [List.mem_singleton.mp hz]; exact hdd.1, by rw [hb]⟩
  cases hc : lastT t u with
  | false =>
    rw [hc] at hl
    refine ⟨if d = t then y else x, ?_, by omega, ⟨q.toNat, by omega⟩, .inl ⟨by simpa using hl, step_x ht hdd⟩⟩
    have := hsn (d == t) lastT_snoc
    by_cases hdt : d = t
    · simpa [hdt] using this
    · simpa [hdt] using this
  | true =>
    rw [hc] at hl
    have hz : d = 0 := by
      unfold lastT at hc
      have hg : u.getLast? = some t := by simpa using hc
      obtain ⟨u', rfl⟩ : ∃ u', u = u' ++ [t] := by
        rcases List.eq_nil_or_concat u with rfl | ⟨u', z, rfl⟩
        · simp at hg
        · rw [List.concat_eq_append] at hg ⊢
          simp at hg
          exact ⟨u', by rw [hg]⟩
      rw [e] at hdig hvd
      rw [List.append_assoc, List.singleton_append] at hdig hvd
      exact vd_next ht hdig hvd
    subst hz
    refine ⟨x, ?_, by omega, ⟨q.toNat, by omega⟩, .inr ⟨by simpa using hl, rfl⟩⟩
    have := hsn (0 == t) lastT_snoc
    have h0t : ((0 : Int) == t) = false := by rcases ht with rfl | rfl <;> rfl
    rw [h0t] at this
    simpa using this
theorem l_end {t s n d : Int} {L z : Nat} {u : List Int} {x y : Nat} {letter : Str} (ht : T12 t) (hs : 0 ≤ s) (h0 : 0 < n) (h1 : n < wt t L) (hE : EndOf t L n u d z) (h : LInv t s x y (KStt.codes (wtx t s L (n - 1))) letter) : letter = ⟨#[if z % 2 = 1 then y else x]⟩ := by
  obtain ⟨ds, hp, hd0, hl⟩ := h
  rw [wtx_codes] at hp
  have hdig := wd_dig (L := L) ht (by omega : 0 ≤ n - 1) (by omega)
  have := map_code_inj hs (fun d hd => (hdig d hd).1) hd0 hp
  subst this
  obtain ⟨k, ho, _⟩ := ok_all ht (by omega : 0 ≤ n)
  rw [hl, letter_ok ht h0 h1 ho hE]
  by_cases hz : z % 2 = 1 <;> simp [hz]
theorem letter_at {x y z : Nat} : (ls ⟨#[x, y]⟩)[((z : Int).fmod 2).toNat]? = some (if z % 2 = 1 then y else x) := by
  rw [Int.fmod_eq_emod_of_nonneg _ (by omega)]
  have h : z % 2 = 0 ∨ z % 2 = 1 := by omega
  rcases h with h | h
  · have e : ((z : Int) % 2).toNat = 0 := by omega
    rw [e, h]; rfl
  · have e : ((z : Int) % 2).toNat = 1 := by omega
    rw [e, h]; rfl
/-- the want's signs -/
theorem want_ls {s : Int} {j i : Nat} {z : Str} (hs : 0 ≤ s) (hz : ls z = List.replicate i (65 + s).toNat) : ls (Str.ofString "..." ++ (⟨#[(65 + s + (1 + (j : Int))).toNat]⟩ : Str) ++ z) = [46, 46, 46] ++ (wch s (1 + (j : Int)) :: List.replicate i (wch s 0)) := by
  rw [ls_append, ls_append, hz, show ls (Str.ofString "...") = [46, 46, 46] from dots_ls]
  have e1 : (65 + s + (1 + (j : Int))).toNat = wch s (1 + (j : Int)) := by unfold wch; omega
  have e2 : (65 + s).toNat = wch s 0 := by unfold wch; omega
  rw [e1, e2]
  show [46, 46, 46] ++ [wch s (1 + (j : Int))] ++ _ = _
  simp
theorem want_len {s : Int} {j i : Nat} {z : Str} (hz : ls z = List.replicate i (65 + s).toNat) : (Str.ofString "..." ++ (⟨#[(65 + s + (1 + (j : Int))).toNat]⟩ : Str) ++ z).length = 4 + i := by
  rw [len_app, len_app, len_dots, ← ls_length z, hz, List.length_replicate]
  show 3 + 1 + i = 4 + i
  omega
theorem mate_ls {t s n : Int} {L : Nat} (hs : 0 ≤ s) : ls (wtx t s L n ++ (⟨#[(65 + s).toNat]⟩ : Str)) = (wd t L n).map (wch s) ++ [wch s 0] := by
  rw [ls_append, wtx_ls]
  have e2 : (65 + s).toNat = wch s 0 := by unfold wch; omega
  rw [← e2]
theorem mate_plain {t s n : Int} {L : Nat} (ht : T12 t) (hs : 0 ≤ s) (h0 : 0 ≤ n) (h1 : n < wt t L) : Plain (wtx t s L n ++ (⟨#[(65 + s).toNat]⟩ : Str)) := by
  unfold Plain
  rw [mate_ls hs]
  intro hm
  rcases List.mem_append.mp hm with hm | hm
  · obtain ⟨d, hd, e⟩ := List.mem_map.mp hm
    unfold wch at e; omega
  · have := List.mem_singleton.mp hm
    unfold wch at this; omega
theorem lost_yes {t s l g a b d : Int} {L z : Nat} {u : List Int} (ht : T12 t) (hs : 0 ≤ s ∧ s ≤ 13) (hx : l = min a b) (hy : g = max a b) (hl : 0 < l) (hL : 1 ≤ L) (hl1 : l < wt t (L - 1)) (hg : 0 ≤ g) (hg1 : g < wt t (L - 1)) (h : EndOf t L l u d z) (hz : (z : Int).fmod 2 = 0) :
    em (wtx t s L l ++ (⟨#[(65 + s).toNat]⟩ : Str)) (wtx t s L g) = true ↔ LostU t a b := by
  obtain ⟨k, ho, _⟩ := ok_all ht (by omega : 0 ≤ l)
  have hlw : l < wt t L := by
    obtain ⟨L, rfl⟩ : ∃ q, L = q + 1 := ⟨L - 1, by omega⟩
    have := (wt_pos ht L).2
    simp only [Nat.add_sub_cancel] at hl1
    omega
  rw [em_plain (mate_plain ht hs.1 (by omega) hlw)]
  have hz2 : z % 2 = 0 := by
    rw [Int.fmod_eq_emod_of_nonneg _ (by omega)] at hz
    omega
  have := lost_iff ht hs hl hL hl1 hg hg1 ho h (mate_ls hs.1)
  show _ ↔ Lost t (min a b) (max a b)
  rw [← hx, ← hy, ← this]
  exact ⟨fun h => ⟨hz2, h⟩, fun h => h.2⟩
theorem lost_no {t s l g a b d : Int} {L z : Nat} {u : List Int} (ht : T12 t) (hs : 0 ≤ s ∧ s ≤ 13) (hx : l = min a b) (hy : g = max a b) (hl : 0 < l) (hL : 1 ≤ L) (hl1 : l < wt t (L - 1)) (hg : 0 ≤ g) (hg1 : g < wt t (L - 1)) (h : EndOf t L l u d z) (hz : ¬ (z : Int).fmod 2 = 0) :
    ¬ LostU t a b := by
  obtain ⟨k, ho, _⟩ := ok_all ht (by omega : 0 ≤ l)
  have := lost_iff ht hs hl hL hl1 hg hg1 ho h (mate_ls hs.1)
  show ¬ Lost t (min a b) (max a b)
  rw [← hx, ← hy, ← this]
  refine fun h => absurd ?_ hz
  rw [Int.fmod_eq_emod_of_nonneg _ (by omega)]
  omega
theorem iff_no {X : Int} {P : Prop} (h : X ≠ 0) (hp : ¬ P) : (X == 0) = true ↔ P := ⟨fun e => absurd (by simpa using e) h, fun p => absurd p hp⟩
theorem bne_no {z : Str} (h : (z != z) = true) : False := by simp at h
theorem add_size {prog : Program} {w : World} {A : Around} {E : Value → Shared → Prop} {s : Shared} {t u : Tok} {Q : Value → Shared → Prop} {x y : Str} (hab : x.length + y.length ≤ 1000) (h : ∀ t' k, Q (.str (x ++ y) t') { s with toks := k }) : wpAny (model prog w) A (binaryOp .Add (.str x t) (.str y u)) Q E s :=
  SBL.add (fun t' k _ => h t' k) (by rw [sizeLine_eq]; omega)
theorem want_size {s : Int} {j i : Nat} {z : Str} (hz : ls z = List.replicate i (65 + s).toNat) (hi : i ≤ 900) : (Str.ofString "..." ++ (⟨#[(65 + s + (1 + (j : Int))).toNat]⟩ : Str)).length + z.length ≤ 1000 := by
  have := want_len (j := j) hz
  rw [len_app] at this
  omega
section
variable {prog : Program} {w : World} {A : Around} {E : Value → Shared → Prop} {s : Shared} {t u : Tok} {Q : Value → Shared → Prop}
theorem mul_one {c : Nat} {i : Nat} (hi : i ≤ 1000) (h : ∀ z t' k, ls z = List.replicate i c → Q (.str z t') { s with toks := k }) : wpAny (model prog w) A (binaryOp .Mult (.str ⟨#[c]⟩ t) (.int (i : Int) u)) Q E s :=
  SB.mul (mulOk_of 16 1048576 (by show 1 ≤ 16; decide) (by omega) (by omega) (by decide) (by decide)) fun t' k => h _ t' k (by
    have := mul_one_list c (i : Int)
    show (Txt.mul ⟨#[c]⟩ (i : Int)).cps.toList = _
    rw [this]
    congr 1)
/-- an item of a written tuple at a written place -/
theorem item_tupK {value slice : PySem.Expr} {D : Addr} {l : List Value} {k : Int} {v : Value} {n : Nat} {h₀ : Heap} {L : Addr} {m : Str → Option Value} {news : List (Addr × Obj)}
    (_F : Fr h₀ L s.heap m) (N : News h₀ L s.heap news) (hm : (D, ({ cls := .type "tuple", data := .seq l.toArray n } : Obj)) ∈ news) (h0 : 0 ≤ k) (hk : k < 2 ^ 63) (hlt : k < l.length) (hv : l[k.toNat]? = some v) (h : Q v s)
    (hs : subscripted slice false (.ref D) (.int k u) = operate [.ref D, .int k u] (getItem (.ref D) (.int k u)) := by with_unfolding_all rfl)
    (hg : ∀ r, letTemporaryGo value (.ref D) r = pure () := by intro _; with_unfolding_all rfl) :
    wpAny (model prog w) A (subscriptTail value slice (.ref D) (.int k u)) Q E s := by
  have hT : IsTup s.heap D l.toArray := ⟨_, (N _ hm).1, rfl, n, rfl⟩
  exact item_tupleL hT (by omega) hk (StrLaws.seqIndex_nonneg h0 hlt) hv h hs hg
theorem pick_list {value slice : PySem.Expr} {x : Str} {l : List Nat} {k : Int} {c : Nat} {t u : Tok} (hx : ls x = l) (hn : l.length ≤ 1000) (h0 : 0 ≤ k) (hc : l[k.toNat]? = some c) (h : ∀ t' k', Q (.str ⟨#[c]⟩ t') { s with toks := k' })
    (hs : subscripted slice false (.str x t) (.int k u) = operate [.str x t, .int k u] (getItem (.str x t) (.int k u))) (ht : ∀ r, letTemporaryGo value (.str x t) r = pure ()) :
    wpAny (model prog w) A (subscriptTail value slice (.str x t) (.int k u)) Q E s :=
  item_text h0 (by rw [← ls_length, hx]; exact hn) (by rw [hx]; exact hc) h hs ht
theorem ls_mk (l : List Nat) : ls ⟨l.toArray⟩ = l := rfl
theorem one_l2 {x : Nat} : [x].length ≤ 1000 := by show 1 ≤ 1000; decide
theorem map_l2 {t : Int} {x y : Nat} : (if t = 1 then [x, y] else [x, x, y]).length ≤ 1000 := by
  split <;> simp
end
end Mine
end
section
open PySem PySem.W PyProof.Rows PyProof.Rows.LCg
set_option maxRecDepth 100000
set_option maxHeartbeats 4000000
namespace Mine
theorem all_ne {d d' : Nat} : ∀ {l : List (Addr × Obj)}, AllLt d' l → d' ≤ d → ∀ p ∈ l, p.1 ≠ d
  | [], _, _, _, h => nomatch h
  | q :: l, h, hd, p, hp => by
    rcases List.mem_cons.mp hp with rfl | hp
    · exact Nat.ne_of_lt (Nat.lt_of_lt_of_le h.1 hd)
    · exact all_ne h.2 hd p hp
local macro_rules | `(tactic| k_all) => `(tactic| exact all_ne (by assumption) (by omega))
section
variable (w : World) (loose : List Str) (mean : ExcName → Option Value) (mg mb : Str → Option Value)
local macro_rules | `(tactic| walk_at "call ref") => `(tactic| (k_here; k_dflt (k_extra "call ref")))
local macro_rules | `(tactic| walk_at "call builtin:sorted") => `(tactic| (k_here; k_dflt (k_extra "sorted")))
local macro_rules | `(tactic| walk_at "subscriptTail Name Constant str int") => `(tactic| k_dflt (k_extra "item0"))
local macro_rules | `(tactic| walk_at "call builtin:chr") => `(tactic| k_dflt (k_extra "chr"))
local macro_rules | `(tactic| walk_at "call builtin:len") => `(tactic| k_dflt (k_extra "len"))
local macro_rules | `(tactic| walk_at "RngAt") => `(tactic| k_dflt (k_extra "RngAt"))
local macro_rules | `(tactic| walk_at "PEnd") => `(tactic| k_dflt (k_extra "PEnd"))
local macro_rules | `(tactic| walk_at "binaryOp Mult str int") => `(tactic| k_dflt (k_extra "mul"))
local macro_rules | `(tactic| walk_at "subscriptTail Name Call ref int") => `(tactic| (k_here; k_dflt (k_extra "sign")))
local macro_rules | `(tactic| walk_at "subscriptTail Call BinOp str int") => `(tactic| (k_here; k_dflt (k_extra "pick")))
local macro_rules | `(tactic| walk_at "subscriptTail Call Name cons nil BinOp str int") => `(tactic| (k_here; k_dflt (k_extra "pick")))
local macro_rules | `(tactic| walk_at "subscriptTail Name BinOp str int") => `(tactic| (k_here; k_dflt (k_extra "letter at")))
local macro_rules | `(tactic| walk_at "binaryOp Add str str") => `(tactic| (k_here; k_dflt (k_extra "add")))
local macro_rules | `(tactic| walk_at "exec Assign cons ListComp") => `(tactic| k_dflt (k_extra "comp"))
local macro_rules | `(tactic| walk_at "InvEndN") => `(tactic| (k_extra "InvEndN"))
theorem ct_lost (t a b sh : Int) (x y : Nat) (D Wa S : Addr) (t1 t2 t3 : Tok) : CtG w loose mean mg mb 4 105 (LostPre t a b sh x y D Wa S) [.ref D, .int t t1, .ref Wa, .int sh t2, .str ⟨#[x, y]⟩ t3, .ref S] (BoolV (LostU t a b)) := by
  intro news₀ dp un gd cn cs ad ccd cl outer A₀ base h₀ L m s Q E B F X N₀ T hk hpre hd hu hret
  obtain ⟨ht, ⟨ha, hb⟩, hs, ⟨o, hmD, hPO⟩, ⟨ws, Lw, c, hmW, hWt⟩, ⟨sg, al, t4, t5, c2, hmS, hSg⟩⟩ := hpre
  obtain ⟨k, rfl⟩ : ∃ k : Nat, t = k := ⟨t.toNat, by omega⟩
  have N : News h₀ L s.heap ((D, o) :: (Wa, W.listOf ws.toArray c) :: (S, tupO [.str ⟨#[sg]⟩ t4, .str ⟨#[al]⟩ t5] c2) :: news₀) := fun p hp => by
    rcases List.mem_cons.mp hp with rfl | hp
    · exact N₀ _ hmD
    rcases List.mem_cons.mp hp with rfl | hp
    · exact N₀ _ hmW
    rcases List.mem_cons.mp hp with rfl | hp
    · exact N₀ _ hmS
    · exact N₀ p hp
  clear N₀
  refine wpAny_call ?_
  k_dflt (refine' code_defC ?k1 ?k2 ?k3 ?k4 ?k5 ?kA ?kF ?kK ?k6 ?k7 ?k8 ?k9 ?kB ?kD ?_ ?c2 ?c3 ?c4; (case kA => exact rfl); (case kF => exact rfl); (case kK => assumption); (case k1 => k_asm); (case k2 => k_asm); (case k3 => k_asm); (case k4 => k_asm); (case k5 => k_asm); (case k6 => k_is); (case k7 => k_is); (case k8 => ktr_room); (case k9 => exact BindsTo.of_eq rfl); (case kB => exact rfl); (case kD => decide +kernel); (case c2 => exact rfl); (case c3 => exact rfl); (case c4 => exact rfl); k_whole; intro g' L' h' tk' cells' FG' F' N' Y' B' X' T' l1; (try k_lt l1); k_cells Y'; (try simp only [List.cons_append, List.nil_append] at N'); (try dsimp only); (try k_lift B'); (try k_fold))
  have hAl : AllLt L' news₀ := l1.2.2.2
  k_with_none
  k_with "InvEndN" => ((rename News _ _ _ _ => nE'); (rename Fr _ _ _ _ => fE'); (show InvEndN _ _ (KstS _ _ _ _ _ _ _ _) _ _ _ _); (show InvEndN _ _ _ _ _ _ (Shared.mk _ _ _ _ _)); (show InvEndN _ _ _ _ _ (Shared.mk _ _ _ _ _) _); (apply kst_end (_, _)); (next => with_unfolding_all apply fE'); (next => with_unfolding_all apply nE'); (next => first | kst_in | kst_inAny); (next => (intro p hp; with_reducible (repeat (first | exact hp | exact List.mem_append_right _ hp | exact List.mem_append_left _ hp | apply List.mem_cons_of_mem)))); (next => rfl); (next => kst_facts); (next => (refine List.forall_mem_cons.mpr ⟨?_, List.forall_mem_nil _⟩; with_reducible exact if_pos rfl)); (next => (intro z h1 h2 h3; (simp only [List.forall_mem_cons, List.not_mem_nil, false_implies, implies_true, and_true, ne_eq] at h2); (simp only [if_neg h1, if_neg h2]); (try simp only [kstB]); (try simp only [List.contains_nil, Bool.false_eq_true, if_false, if_neg h1, if_neg h2]); first | (done) | (with_reducible rfl))); (next => kst_p))
  k_with "sorted" => (
    refine sort_pair (by k_asm) (by k_asm) (by k_mem) hPO ?_
    intro D7 lo hi t6 t7 c7 h7 hlo hhi F7 N7 l7
    simp only [AllLt, and_true] at l7
    have hxy := sorted_in hlo hhi ha hb)
  k_with "call ref" => first
    | (refine CtG.use (ct_word _ _ _ _ _ (k : Int) sh _ Wa Lw _ _) (by k_asm) (by k_asm) (by k_asm) (by k_asm) (by k_asm) (by first | exact rfl | assumption) (by k_extra "pre word") (by first | ktr_room | decide) (by first | ktr_units | decide) ?_
       k_whole
       rintro _ _ hX9 tkX9 ⟨rfl, tX9, rfl⟩ _ FX9 NX9
       simp only [List.nil_append] at NX9
       try dsimp only)
    | (refine Ct.use (ct_em _ _ _ _ _ _ _ _ _) (by k_asm) (by k_asm) (by k_asm) (by k_asm) (by k_asm) (by first | exact rfl | assumption) (by k_extra "pre em") (by first | ktr_room | decide) (by first | ktr_units | decide) ?_
       k_whole
       intro tX9 hX9 tkX9 FX9 NX9
       try dsimp only)
    | (refine CtG.use (ct_map w loose mean mg mb sg (if (k : Int) = 1 then [x, y] else [x, x, y]) t4) (by k_asm) (by k_asm) (by k_asm) (by k_asm) (by k_asm) (by first | exact rfl | assumption) hSg.sign (by first | ktr_room | decide) (by first | ktr_units | decide) ?_
       k_whole
       rintro _ _ hX9 tkX9 ⟨rfl, tX9, rfl⟩ _ FX9 NX9
       simp only [List.nil_append] at NX9
       try dsimp only)
    | (refine CtG.use (ct_map w loose mean mg mb al [x] t5) (by k_asm) (by k_asm) (by k_asm) (by k_asm) (by k_asm) (by first | exact rfl | assumption) hSg.alone (by first | ktr_room | decide) (by first | ktr_units | decide) ?_
       k_whole
       rintro _ _ hX9 tkX9 ⟨rfl, tX9, rfl⟩ _ FX9 NX9
       simp only [List.nil_append] at NX9
       try dsimp only)

  k_with "pre em" => first
    | exact ⟨by rw [want_len kZ]; omega, by rw [wtx_size]; omega⟩
    | exact ⟨by rw [len_app, wtx_size]; show _ + 1 ≤ 1000; omega, by rw [wtx_size]; have := gd_len_strip k Lw hi; omega⟩

  k_with "sign" => (
    obtain ⟨c9, hLI9, hq9, _, hcs9⟩ := l_turn ht hs.1 (by omega) (by omega) kEq kInv
    refine Or.elim hcs9 ?gA ?gB
    case' gA =>
      rintro ⟨hLet, hItA⟩
      subst hLet
      rw [find0]
      refine item_tupK (k := 0) (v := .str ⟨#[sg]⟩ t4) (by k_asm) (by k_asm) (by k_mem) (by decide) (by decide) (by show (_ : Int) < 2; decide) (by rfl) ?_
    case' gB =>
      rintro ⟨hLet, hItB⟩
      subst hLet
      rw [find1 hSg.ne]
      refine item_tupK (k := 1) (v := .str ⟨#[al]⟩ t5) (by k_asm) (by k_asm) (by k_mem) (by decide) (by decide) (by show (_ : Int) < 2; decide) (by rfl) ?_)
  k_with "pick" => first
    | (with_reducible refine pick_list (ls_mk (if (k : Int) = 1 then [x, y] else [x, x, y])) map_l2 hq9 hItA ?_ (by with_unfolding_all rfl) (by intro _; with_unfolding_all rfl)
       intro t8 k8)
    | (with_reducible refine pick_list (ls_mk [x]) one_l2 hq9 hItB ?_ (by with_unfolding_all rfl) (by intro _; with_unfolding_all rfl)
       intro t8 k8)

  k_with "letter at" => (
    have hLet := l_end ht hs.1 (by omega) (by omega) hE kInv
    subst hLet
    refine item_text (by rw [Int.fmod_eq_emod_of_nonneg _ (by decide)]; omega) (by show 2 ≤ 1000; decide) letter_at ?_
    intro t8 k8)
  k_with "add" => first
    | (refine add_size (by show 3 + 1 ≤ 1000; decide) ?_; intro tA kA)
    | (refine add_size (want_size kZ (by omega)) ?_; intro tA kA)
    | (refine add_size (by rw [wtx_size]; show _ + 1 ≤ 1000; omega) ?_; intro tA kA)

  k_with "pre word" => exact ⟨ht, hs, by omega, ⟨ws, c, by k_mem, hWt⟩⟩
  k_with "item0" => (refine item_text (k := 0) (c := x) (by decide) (by show 2 ≤ 1000; decide) (by rfl) ?_; intro t8 k8)
  k_with "chr" => (refine chr_of_range (by omega) (by omega) ?_)
  k_with "comp" => (
    have hlo0 : 0 < lo := by omega
    have hbg := hWt.big
    obtain ⟨ou, od, oz, hE⟩ := end_of ht hlo0 (show lo < wt k Lw by omega)
    have hlen := gd_len_strip k Lw lo
    have hsm := hWt.small
    have hdgW := wd_dig (L := Lw) ht (by omega : 0 ≤ lo) (show lo < wt k Lw by omega)
    refine two_assign (wd k Lw lo).length k (by rfl) (by assumption) (by assumption) (by rfl) (by rfl) (by intro _; rfl) (by intro _; rfl) (by rfl) (by decide) (by rfl) (by rfl) (by decide) (by intro _; rfl) (by intro _ _; rfl) (by rfl) (by rfl) (by omega) (by omega) (EInv od oz) (ei_start hE.d1) (fun i ys _ h => ei_next ⟨hE.d1, hE.dt⟩ h) ?tsrc ?titer ?tturn ?tfin
    case' titer => intro i9 tI ysI CI DI II oCI oII mI hI9 tkI EI hiI hNsI hmI FI NI hDCI hltI
    case' tturn => (
      intro i9 j9 ti uj ys9 C9 D9 I9 J9 oC9 oI9 oJ9 m9 h9 tk9 E9 hi9 hj9 hInv9 hNs9 hm0 hm1 F9 N9 hDC9 hlt9
      show wpAny _ _ _ _ _ _)
    case' tfin => (
      intro ys8 D8 h8 tk8 hI8 F8 N8 hlt8
      obtain ⟨tz, rfl⟩ := ei_fin hI8 (end_len hE)
      dsimp only))
  k_with "len" => first
    | (refine len_text (n := (wd k Lw lo).length) (wtx_size _ _ _ _) (by omega) ?_; intro t9 k9)
  k_with "RngAt" => first
    | exact ⟨_, _, _, _, _, _, rfl, rfl, by assumption, by assumption, by assumption⟩

  k_with "PEnd" => first
    | exact pend (by assumption) (by assumption) (fun _ h => h) (ei_yes hInv9 ((em_end_iff hs hE hdgW (by omega) (want_ls hs.1 kZ)).mp (by assumption)))
    | exact pend (by assumption) (by assumption) (fun _ h => h) (ei_no hInv9 fun hc => absurd ((em_end_iff hs hE hdgW (by omega) (want_ls hs.1 kZ)).mpr hc) (by rw [Bool.not_eq_true]; assumption))

  k_with "mul" => first
    | (refine mul_one (i := i9) (by omega) ?_; intro zZ tZ kkZ kZ)

  k_with "pyIter str" => k_state (fun pre letter => LInv (k : Int) sh x y pre letter) "letter"
  k_with "state" => first
    | (with_reducible exact hLI9)
    | with_reducible exact l_start

  k_steps
  all_goals first
    | exact hret _ [] _ _ ⟨rfl, _, rfl, zero_end hlo hhi (by assumption)⟩ (fun _ h => nomatch h) (by assumption) (cb_drop (by assumption) (by intro p hp; repeat (first | exact hp | apply List.mem_cons_of_mem)))
    | exact (bne_no (by with_reducible assumption)).elim
    | exact hret _ [] _ _ ⟨rfl, _, rfl, lost_yes ht hs hlo hhi (by assumption) (by have := hWt.two; omega) (by have := hWt.big1; omega) (by omega) (by have := hWt.big1; omega) (by assumption) (by assumption)⟩ (fun _ h => nomatch h) (by assumption) (cb_drop (by assumption) (by intro p hp; repeat (first | exact hp | apply List.mem_cons_of_mem)))
    | exact hret _ [] _ _ ⟨rfl, _, rfl, iff_no (by assumption) (lost_no ht hs hlo hhi (by assumption) (by have := hWt.two; omega) (by have := hWt.big1; omega) (by omega) (by have := hWt.big1; omega) (by assumption) (by assumption))⟩ (fun _ h => nomatch h) (by assumption) (cb_drop (by assumption) (by intro p hp; repeat (first | exact hp | apply List.mem_cons_of_mem)))
    | (have hnn : (oz : Int).fmod 2 ≠ 0 := by assumption
       have hno := lost_no ht hs hlo hhi hlo0 (by have := hWt.two; omega) (by have := hWt.big1; omega) (by omega) (by have := hWt.big1; omega) hE hnn
       have hif : ((oz : Int).fmod 2 == 0) = true ↔ LostU (k : Int) a b := iff_no hnn hno
       exact hret _ [] _ _ ⟨rfl, _, rfl, hif⟩ (fun _ h => nomatch h) (by assumption) (cb_drop (by assumption) (by intro p hp; repeat (first | exact hp | apply List.mem_cons_of_mem))))

end
end Mine
end
section
open PySem PySem.W PyProof.Rows PyProof.Rows.LCg
set_option maxRecDepth 100000
set_option maxHeartbeats 2000000
open Mine
local macro_rules | `(tactic| walk_at "no such key") => `(tactic| fail)
section
variable (w : World) (loose : List Str) (mean : ExcName → Option Value) (mg mb : Str → Option Value)
end
local macro_rules | `(tactic| walk_at "call ref") => `(tactic| (k_here; k_dflt (k_extra "call ref")))
local macro_rules | `(tactic| walk_at "exec Assign") => `(tactic| (k_dflt (k_extra "exec Assign")))
local macro_rules | `(tactic| walk_at "eval ListComp") => `(tactic| k_dflt (k_extra "eval ListComp"))
local macro_rules | `(tactic| walk_at "call type:enumerate") => `(tactic| k_dflt (k_extra "call type:enumerate"))
local macro_rules | `(tactic| walk_at "exec While Compare cons nil") => `(tactic| k_dflt (k_extra "exec While Compare cons nil"))
local macro_rules | `(tactic| walk_at "WhPost") => `(tactic| (dsimp only [WhPost]))
local macro_rules | `(tactic| walk_at "WhEnd") => `(tactic| k_dflt (k_extra "WhEnd"))
local macro_rules | `(tactic| walk_at "subscriptTail Name Constant ref int") => `(tactic| (k_here; k_dflt (k_extra "item own")))
local macro_rules | `(tactic| walk_at "call builtin:sorted") => `(tactic| (k_here; k_dflt (k_extra "sorted")))
local macro_rules | `(tactic| k_qdec) => `(tactic| decide +kernel)
local macro_rules | `(tactic| walk_at "exec Return some") => `(tactic| (k_dflt (k_extra "exec Return some")))
local macro_rules | `(tactic| walk_at "PEnd") => `(tactic| k_dflt (k_extra "PEnd"))
theorem PySem.Challenge.cw_uy0009_02_holds : PySem.Challenge.rw_uy0009_02.Holds :=
  Mine.hd (by rfl) (by rfl) (by rfl) (by
  k_with_none
  k_with "item own" => (refine item_own (by k_asm) (by k_asm) (by k_mem) (by decide) (by decide) (by rfl) ?_)
  k_with "sorted" => (
    refine sort_pair (by k_asm) (by k_asm) (by k_mem) pair_list ?_
    intro D' x' y' t1' t2' c' h' hx' hy' F' N' l1
    simp only [AllLt, and_true] at l1
    k_extra "after sorted")
  k_with "call ref" => first
    | (refine CtG.use (ct_sign _ _ _ _ _ _ _) (by k_asm) (by k_asm) (by k_asm) (by k_asm) (by k_asm) (by first | exact rfl | assumption) (by k_extra "pre sign") (by first | ktr_room | decide) (by first | ktr_units | decide) ?_
       k_whole
       rintro v' own' h' tk' ⟨D1', D2', x', y', sg', al', t1', t2', t3', c1', c2', hv', hw', hSg'⟩ lt' F' N'
       subst hv' hw'
       (have l1 := lt' _ (.head _); have l2 := lt' _ (.tail _ (.head _)); clear lt'; simp only [AllLt, and_true] at l1 l2; simp only [List.cons_append, List.nil_append] at N')
       (try dsimp only))
    | (refine CtG.use (ct_position _ _ _ _ _ _ _ _ _) (by k_asm) (by k_asm) (by k_asm) (by k_asm) (by k_asm) (by first | exact rfl | assumption) (by k_extra "pre position") (by first | ktr_room | decide) (by first | ktr_units | decide) ?_
       k_whole
       rintro v' own' h' tk' ⟨D1', l', g', ta', tb', c1', hv', hw', hPos', hg'⟩ lt' F' N'
       subst hv' hw'
       (have l1 := lt' _ (.head _); clear lt'; simp only [AllLt, and_true] at l1; simp only [List.cons_append, List.nil_append] at N')
       k_extra "after position"
       (try dsimp only))
    | (refine CtG.use (ct_lost _ _ _ _ _ _ _ _ _ _ _ _ _ _ _ _ _) (by k_asm) (by k_asm) (by k_asm) (by k_asm) (by k_asm) (by first | exact rfl | assumption) (by k_extra "pre lost") (by first | ktr_room | decide) (by first | ktr_units | decide) ?_
       k_whole
       rintro v' own' h' tk' ⟨hw', R', hv', hR'⟩ lt' F' N'
       subst hv' hw'
       clear lt'
       simp only [List.nil_append] at N'
       cases R' <;> (simp only [Bool.false_eq_true, false_iff, true_iff] at hR'; k_extra "after lost"; (try dsimp only)))
    | (refine CtG.use (ct_moved _ _ _ _ _ _ _ _ _ _ _ _ _) (by k_asm) (by k_asm) (by k_asm) (by k_asm) (by k_asm) (by first | exact rfl | assumption) (by k_extra "pre moved") (by first | ktr_room | decide) (by first | ktr_units | decide) ?_
       k_whole
       rintro v' own' h' tk' ⟨D1', o', a', b', hv', hw', hPO', hIn', hR'⟩ lt' F' N'
       subst hv' hw'
       (have l1 := lt' _ (.head _); clear lt'; simp only [AllLt, and_true] at l1; simp only [List.cons_append, List.nil_append] at N')
       (try dsimp only))
    | (refine CtG.use (ct_answer _ _ _ _ _ _ _ _ _ _ _) (by k_asm) (by k_asm) (by k_asm) (by k_asm) (by k_asm) (by first | exact rfl | assumption) (by k_extra "pre answer") (by first | ktr_room | decide) (by first | ktr_units | decide) ?_
       k_whole
       rintro v' own' h' tk' ⟨D1', o', a', b', hv', hw', hPO', hIn', hR'⟩ lt' F' N'
       subst hv' hw'
       (have l1 := lt' _ (.head _); clear lt'; simp only [AllLt, and_true] at l1; simp only [List.cons_append, List.nil_append] at N')
       (try dsimp only))
  k_with "exec Assign" => ((with_reducible show wpAny _ _ (exec (Stmt.Assign [Expr.Tuple _ _ _] (Expr.ListComp _ _ _ _) _) _) _ _ _); refine Assign_Tuple ?_)
  k_with "eval ListComp" => (
    first
    | (refine pairs_comp (by assumption) (by rfl) (by rfl) (by decide) (by intro _; rfl) (by decide) (bf_cell (by rfl) (by intro _; rfl) (by intro _; rfl) (by rfl) (by intro _ _; rfl) (by rfl)) Draw draw_nil ?_)
    | ((refine pairs_comp (by k_asm) (by rfl) (by rfl) (by decide) (by intro _; rfl) (by decide) (bf_locals (by rfl) (by intro _; rfl) (by intro _; rfl) (by rfl) (by rfl) (by rfl) (by decide)) Took took_nil ?_))
)
  k_with "call type:enumerate" => (
    (with_reducible rename Fr _ _ _ _ => F')
    (with_reducible rename News _ _ _ _ => N')
    first
    | (refine enum_tup (by rfl) F' N' (by first | exact List.Mem.head _ | k_mem) (by size_fits) ?_
       intro e9 it9 fp9 St9 Mid9 h9 S9
       refine ⟨_, _, _, _, _, _, _, _, rfl, S9, ?turn9, ?fin9⟩
       case' turn9 => (
         rintro i9 x9 y9 ys9 C9 D9 oe9 oi9 fr9 h8 tk8 E8 ⟨t9, v9, hv9, e9⟩ hI9 ⟨oC9, m9, oc9, rfl, hNs9, hb9, hd9⟩ F8 N8 hfr9 hDC9
         obtain ⟨z9, u9, rfl⟩ := five_at hv9
         cases e9
         simp only [List.cons_append, List.nil_append] at N8
         show wpAny _ _ _ _ _ _)
       case' fin9 => (
         intro ys9 D9 h8 tk8 hI9 F8 N8 hlt9
         obtain ⟨a9, b9, c9, d9, e9, ta9, tb9, tc9, td9, te9, rfl, ha9, hb9, hc9, hd9, he9⟩ := draw_five hI9))
    | (have hI8 := (by assumption : IntsAre _ _)
       refine enum_list (by rfl) F' N' (by first | exact List.Mem.head _ | k_mem) (by have := IntsAre.length hI8; simp only [List.length_take] at this; size_fits) ?_
       intro e7 it7 fp7 St7 Mid7 h7 S7
       refine ⟨_, _, _, _, _, _, _, _, rfl, S7, ?turn7, ?fin7⟩
       case' turn7 => (
         rintro i7 x7 y7 ys7 C7 D7 oe7 oi7 fr7 h6 tk6 E6 ⟨t7, v7, hv7, e7⟩ hI7 ⟨oC7, m7, rfl, hNs7, ha7, hb7⟩ F6 N6 hfr7 hDC7
         obtain ⟨z7, u7, rfl⟩ := ints_at hI8 hv7
         cases e7
         simp only [List.cons_append, List.nil_append] at N6
         show wpAny _ _ _ _ _ _)
       case' fin7 => (
         intro ys7 D7 h6 tk6 hI7 F6 N6 hlt7
         obtain ⟨hl7, ns7, hn7⟩ := hI7))
)
  k_with "PEnd" => first
    | exact pend (by assumption) (by assumption) (fun p hp => .tail _ (.tail _ hp)) (draw_snoc hI9)
    | exact pend (by assumption) (by assumption) (fun p hp => hp) (took_snoc hI7)
    | exact pend (by assumption) (by assumption) (fun p hp => hp) (took_skip hI7)

  k_with "pre sign" => exact ha9
  k_with "pre position" => exact pre_pos hT
  k_with "after position" => (have hdr := drawn_ok hT (by assumption) (by assumption); have hdr1 := hdr.1; have hir := inr_drawn hdr)
  k_with "after sorted" => (have hso := sorted_ok (A := d9) (B := e9) (by assumption) (by assumption); have his := inr_sorted hso)
  k_with "pre lost" => first
    | ((first
        | refine ⟨hT, ?_, sh_ok _, ⟨_, by k_mem, pair_list⟩, ⟨_, _, _, by k_mem, hWe (by assumption)⟩, ⟨_, _, _, _, _, by k_mem, by assumption⟩⟩
        | refine ⟨hT, ?_, sh_ok _, ⟨_, by k_mem, by assumption⟩, ⟨_, _, _, by k_mem, hWe (by assumption)⟩, ⟨_, _, _, _, _, by k_mem, by assumption⟩⟩); assumption)

  k_with "after lost" => first | (exfalso; exact (by assumption : ¬ LostU _ _ _) (by with_reducible assumption)) | skip
  k_with "pre moved" => first | exact moved_pre1 hT hc9 hdr | exact moved_pre2 hT hc9 (by with_reducible assumption) hso (by assumption)
  k_with "pre answer" => first | exact answer_pre hT (by with_reducible assumption) hso
  k_with "exec Return some" => (exfalso; exact same_no hdr1 (by with_reducible assumption) (by with_reducible assumption))
  k_with "exec While Compare cons nil" => (
    (with_reducible rename Fr _ _ _ _ => F')
    (with_reducible rename News _ _ _ _ => N')
    have hT := t12_of a9
    have hsz : (1 + a9.fmod 2).natAbs ≤ 2 := by omega
    refine weights_while hT F' N' (by rfl) ?_
    intro Dw aw taw bw tbw rw' nw Lw hw tkw hIw hlw Fw Nw
    have hpw := winv_pos hT hIw
    have hWe := fun h => winv_end (ta := taw) (tb := tbw) hT hIw h)
  k_with "WhEnd" => first | exact wh_end (by assumption) (by assumption) (by exact List.Mem.head _) (by first | exact fun p hp => .tail _ (.tail _ (.tail _ hp)) | exact fun p hp => .tail _ (.tail _ hp)) (fun z => by by_cases hz : z = Str.ofString "weights" <;> simp only [hz, if_true, if_false])
  w_strict (
    k_go0
    (all_goals try k_fold)
    k_steps))
end
