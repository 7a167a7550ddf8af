import PyProof.Rows.All
import Wide.All
import OpenK.AllK
import Wide.FinOn
import Lean
import PySem.Challenge.RW_uy0009_01
set_option Elab.async false
section
open PySem PySem.W PyProof.Rows Builtin Builtin.Str PySem.StrLaws

namespace Mine

/-- the place of y in x between lo and hi, or -1: str.find with two bounds -/
def find4 (x y : Str) (lo hi : Int) : Int :=
  match occurrences x y (PySem.fromIndex x.length lo) (min (PySem.fromIndex x.length hi) x.length) 1 with
  | k :: _ => (k : Int)
  | [] => -1

theorem gives_find4 (x y : Str) (i j : Int) (t u v v' : Tok) : Gives («str.find» ⟨[.str x t, .str y u, .int i v, .int j v'], []⟩) (.int (find4 x y i j)) := by
  show Gives (match occurrences x y (fromIndex x.length i) (min (fromIndex x.length j) x.length) 1 with | k :: _ => retInt k | [] => (do rule "str.find.not-found"; retInt (-1))) _
  unfold find4
  cases occurrences x y (fromIndex x.length i) (min (fromIndex x.length j) x.length) 1 with
  | nil => exact .rule (.of_eq rfl)
  | cons k _ => exact .of_eq rfl

theorem call_find4 {prog : Program} {w : World} {A : Around} {E : Value → Shared → Prop} {s : Shared} {x y : Str} {t u v v' : Tok} {i j : Int} {Q : Value → Shared → Prop}
    (hq : Q (.int (find4 x y i j) s.toks) { s with toks := s.toks + 1 }) : wpAny (model prog w) A (call (.builtin "str.find") [.str x t, .str y u, .int i v, .int j v']) Q E s :=
  call_gives F.slot_str_find (typeIs_str _ _ _) F.entry_str_find (F.args_str_find_4 _ _ _ _) (gives_find4 x y i j t u v v') hq

theorem occ_first_from (x y : Str) (lo hi : Nat) :
    (occurrences x y lo hi 1 = [] ∧ ∀ i, lo ≤ i → ¬ At x y hi i) ∨
    ∃ i r, occurrences x y lo hi 1 = i :: r ∧ lo ≤ i ∧ At x y hi i ∧ ∀ k, lo ≤ k → k < i → ¬ At x y hi k := by
  rw [occ_eq]
  rcases occ_first x y hi 1 (Nat.le_refl _) (List.range' lo (hi + 1 - lo)) lo (fun i hi => by have := List.mem_range'_1.mp hi; omega) with ⟨h0, hn⟩ | ⟨pre, a, post, e, h0, ha, hn⟩
  · refine .inl ⟨by rw [h0], fun i hlo hi => ?_⟩
    exact hn i (by have := hi.1; rw [List.mem_range'_1]; omega) hi
  · have hs := range'_split_from e
    generalize (forIn (List.range' lo (hi + 1 - lo)) ((#[] : Array Nat), lo) (occBody x y hi 1)).run.fst = arr at h0
    have h1 : arr.toList[0]? = some a := by simpa using h0
    refine .inr ⟨a, arr.toList.tail, ?_, hs.1, ha, fun k hk0 hk => hn k (hs.2 k hk0 hk)⟩
    cases hL : arr.toList with
    | nil => rw [hL] at h1; cases h1
    | cons b t => rw [hL] at h1; simp at h1; rw [h1]; rfl

theorem fromIndex_nat (n k : Nat) : PySem.fromIndex n (k : Int) = k := by
  unfold PySem.fromIndex
  rw [if_neg (by omega)]
  omega

theorem find4_spec (x y : Str) (lo hi : Nat) (hh : hi ≤ x.length) :
    (find4 x y lo hi = -1 ∧ ∀ i, lo ≤ i → ¬ At x y hi i) ∨ ∃ i : Nat, find4 x y lo hi = (i : Int) ∧ lo ≤ i ∧ At x y hi i ∧ ∀ k, lo ≤ k → k < i → ¬ At x y hi k := by
  unfold find4
  rw [fromIndex_nat, fromIndex_nat, Nat.min_eq_left hh]
  rcases occ_first_from x y lo hi with ⟨e, h⟩ | ⟨i, r, e, h1, h2, h3⟩
  · rw [e]; exact .inl ⟨rfl, h⟩
  · rw [e]; exact .inr ⟨i, rfl, h1, h2, h3⟩

/-! ### the function -/
abbrev dots : Str := Str.ofString "..."

/-- the last loop of _ellipsis_match -/
def emLoop (got : Str) : List Str → Int → Int → Bool
  | [], _, _ => true
  | w :: r, sp, ep => if find4 got w sp ep < 0 then false else emLoop got r (find4 got w sp ep + (w.length : Int)) ep

/-- what goes on behind the head and the last part -/
def emTail (got : Str) (ws : List Str) (sp ep : Int) : Bool := if sp > ep then false else emLoop got ws sp ep

/-- the last part -/
def emLast (got : Str) (ws : List Str) (sp : Int) : Bool :=
  if (ws.getLastD Str.empty).length = 0 then emTail got ws sp got.length
  else if Txt.endswith got (ws.getLastD Str.empty) then emTail got ws.dropLast sp (got.length - (ws.getLastD Str.empty).length)
  else false

/-- the first part -/
def emHead (got : Str) (ws : List Str) : Bool :=
  if (ws.headD Str.empty).length = 0 then emLast got ws 0
  else if Txt.startswith got (ws.headD Str.empty) then emLast got ws.tail (ws.headD Str.empty).length
  else false

/-- _ellipsis_match -/
def em (want got : Str) : Bool :=
  if Txt.contains want dots then emHead got (Txt.split want dots) else want == got

/-! ### what it means -/
abbrev ls (x : Str) : List Nat := x.cps.toList
theorem ls_length (x : Str) : (ls x).length = x.length := by simp [ls, Str.length]
theorem ls_append (x y : Str) : ls (x ++ y) = ls x ++ ls y := by simp [ls, Str.cps_append]
theorem ls_inj {x y : Str} (h : ls x = ls y) : x = y := Str.ext' (Array.toList_inj.mp h)
theorem dots_ls : ls dots = [46, 46, 46] := by decide +kernel
theorem dots_len : dots.length = 3 := by decide +kernel

theorem at_iff {x y : Str} {hi i : Nat} : At x y hi i ↔ i + y.length ≤ hi ∧ ((ls x).drop i).take y.length = ls y := by
  unfold At
  rw [subAt_eq]
  simp

/-- the middle parts find their places one behind the other -/
def Placed (got : Str) (ep : Nat) : List Str → Nat → Prop
  | [], lo => lo ≤ ep
  | w :: r, lo => ∃ k, lo ≤ k ∧ At got w ep k ∧ Placed got ep r (k + w.length)

theorem Placed.anti {got : Str} {ep : Nat} : ∀ {ws : List Str} {lo lo' : Nat}, lo' ≤ lo → Placed got ep ws lo → Placed got ep ws lo'
  | [], _, _, h, p => Nat.le_trans h p
  | _ :: _, _, _, h, ⟨k, hk, p⟩ => ⟨k, Nat.le_trans h hk, p⟩

theorem emLoop_iff (got : Str) (ep : Nat) (he : ep ≤ got.length) : ∀ (ws : List Str) (lo : Nat), lo ≤ ep → (emLoop got ws lo ep = true ↔ Placed got ep ws lo)
  | [], lo, h => by simp [emLoop, Placed, h]
  | w :: r, lo, h => by
    unfold emLoop Placed
    rcases find4_spec got w lo ep he with ⟨e, hn⟩ | ⟨i, e, h1, h2, h3⟩
    · rw [e]
      simp only [show ((-1 : Int) < 0) = True by simp, if_true, Bool.false_eq_true, false_iff]
      rintro ⟨k, hk, ha, _⟩
      exact hn k hk ha
    · rw [e, if_neg (by omega)]
      have hz := h2.1
      have ih := emLoop_iff got ep he r (i + w.length) hz
      have e2 : ((i : Int) + (w.length : Int)) = ((i + w.length : Nat) : Int) := by omega
      rw [e2, ih]
      constructor
      · intro p; exact ⟨i, h1, h2, p⟩
      · rintro ⟨k, hk, ha, p⟩
        refine p.anti ?_
        have : i ≤ k := Nat.le_of_not_lt fun c => h3 k hk c ha
        omega

/-- no dot in it -/
def Plain (x : Str) : Prop := 46 ∉ ls x

theorem plain_append {x y : Str} (hx : Plain x) (hy : Plain y) : Plain (x ++ y) := by
  unfold Plain at *
  rw [ls_append, List.mem_append]
  exact fun h => h.elim hx hy

theorem at_dots {x : Str} {i : Nat} (h : At x dots x.length i) : (ls x)[i]? = some 46 ∧ (ls x)[i + 1]? = some 46 ∧ (ls x)[i + 2]? = some 46 := by
  have h2 := (at_iff.mp h).2
  rw [dots_len, dots_ls] at h2
  have e : ∀ j, j < 3 → (ls x)[i + j]? = ([46, 46, 46] : List Nat)[j]? := by
    intro j hj
    rw [← h2, List.getElem?_take_of_lt hj, List.getElem?_drop]
  exact ⟨e 0 (by omega), e 1 (by omega), e 2 (by omega)⟩

theorem plain_contains {x : Str} (h : Plain x) : Txt.contains x dots = false := by
  unfold Txt.contains
  rw [Bool.eq_false_iff]
  intro hc
  obtain ⟨i, h1, h2⟩ := (found_iff x dots).mp hc
  exact h (List.mem_of_getElem? (at_dots (x := x) (i := i) ⟨h1, h2⟩).1)

theorem em_plain {x y : Str} (h : Plain x) : em x y = (x == y) := by
  unfold em
  rw [plain_contains h]
  rfl

theorem ls_join_cons (p q : Str) (r : List Str) : ls (Str.join dots (p :: q :: r)) = ls p ++ ([46, 46, 46] ++ ls (Str.join dots (q :: r))) := by
  show ls (p ++ dots ++ Str.join dots (q :: r)) = _
  rw [ls_append, ls_append, dots_ls, List.append_assoc]

/-- the greedy cuts of a text that was glued are the glue's places -/
theorem parts_of (x : Str) (f : Nat) (hf : ∀ k, f ≤ k → ¬ At x dots x.length k) : ∀ (ps : List Str) (p : Str) (pre : List Nat) (cuts : List Nat),
    (∀ q ∈ p :: ps, Plain q) → ls x = pre ++ ls (Str.join dots (p :: ps)) → ChainG x dots x.length pre.length cuts f → partsFrom x 3 pre.length cuts = p :: ps
  | [], p, pre, cuts, hp, hx, hc => by
    have hx' : ls x = pre ++ ls p := hx
    have hno : ∀ k, pre.length ≤ k → ¬ At x dots x.length k := by
      intro k hk ha
      have h1 := (at_dots ha).1
      rw [hx', List.getElem?_append_right hk] at h1
      exact hp p (.head _) (List.mem_of_getElem? h1)
    cases cuts with
    | nil =>
      show [strSub x pre.length x.length] = [p]
      congr 1
      apply ls_inj
      show ls (strSub x pre.length x.length) = ls p
      unfold ls
      rw [strSub_toList]
      show ((ls x).drop pre.length).take (x.length - pre.length) = ls p
      rw [hx', List.drop_left, List.take_of_length_le]
      rw [← ls_length x, hx', List.length_append]; omega
    | cons c r =>
      exact absurd hc.2.1 (hno c hc.1)
  | q :: r, p, pre, cuts, hp, hx, hc => by
    rw [ls_join_cons] at hx
    have hlen : x.length = pre.length + ((ls p).length + (3 + (ls (Str.join dots (q :: r))).length)) := by
      rw [← ls_length x, hx]; simp only [List.length_append, List.length_cons, List.length_nil]
    have hat : At x dots x.length (pre.length + (ls p).length) := by
      rw [at_iff, dots_len, dots_ls]
      refine ⟨by omega, ?_⟩
      rw [hx, ← List.append_assoc, List.drop_append_of_le_length (by simp), List.drop_of_length_le (by simp)]
      rfl
    have hno : ∀ k, pre.length ≤ k → k < pre.length + (ls p).length → ¬ At x dots x.length k := by
      intro k hk hk2 ha
      have h1 := (at_dots ha).1
      rw [hx, List.getElem?_append_right hk, List.getElem?_append_left (by omega)] at h1
      exact hp p (.head _) (List.mem_of_getElem? h1)
    cases cuts with
    | nil =>
      have e : f = pre.length := hc
      exact absurd hat (hf _ (by omega))
    | cons c r' =>
      obtain ⟨h1, h2, h3, h4⟩ := hc
      have ec : c = pre.length + (ls p).length := by
        rcases Nat.lt_trichotomy c (pre.length + (ls p).length) with h | h | h
        · exact absurd h2 (hno c h1 h)
        · exact h
        · exact absurd hat (h3 _ (by omega) h)
      subst ec
      show strSub x pre.length (pre.length + (ls p).length) :: partsFrom x 3 (pre.length + (ls p).length + 3) r' = p :: q :: r
      have e1 : strSub x pre.length (pre.length + (ls p).length) = p := by
        apply ls_inj
        unfold ls
        rw [strSub_toList]
        show ((ls x).drop pre.length).take (pre.length + (ls p).length - pre.length) = ls p
        rw [hx, List.drop_left, Nat.add_sub_cancel_left, List.take_left]
      have e2 := parts_of x f hf r q (pre ++ ls p ++ [46, 46, 46]) r' (fun z hz => hp z (.tail _ hz)) (by rw [hx]; simp) (by
        rw [dots_len] at h4
        have e3 : (pre ++ ls p ++ [46, 46, 46]).length = pre.length + (ls p).length + 3 := by simp only [List.length_append, List.length_cons, List.length_nil]
        rw [e3]; exact h4)
      rw [e1]
      have e3 : (pre ++ ls p ++ [46, 46, 46]).length = pre.length + (ls p).length + 3 := by simp only [List.length_append, List.length_cons, List.length_nil]
      rw [e3] at e2
      rw [e2]

theorem join_contains (p q : Str) (r : List Str) : Txt.contains (Str.join dots (p :: q :: r)) dots = true := by
  unfold Txt.contains
  rw [found_iff]
  refine ⟨p.length, ?_⟩
  have : At (Str.join dots (p :: q :: r)) dots (Str.join dots (p :: q :: r)).length p.length := by
    rw [at_iff, dots_len, dots_ls, ls_join_cons, ← ls_length p, ← ls_length (Str.join dots (p :: q :: r)), ls_join_cons]
    refine ⟨by simp, ?_⟩
    rw [List.drop_left]; rfl
  exact this

theorem kind_dots : Builtin.Str.strKind dots = 1 := by decide +kernel
theorem kind_ge (x : Str) : 1 ≤ Builtin.Str.strKind x := by
  unfold Builtin.Str.strKind
  split
  · omega
  · split <;> omega

theorem split_join (p q : Str) (r : List Str) (h : ∀ z ∈ p :: q :: r, Plain z) : Txt.split (Str.join dots (p :: q :: r)) dots = p :: q :: r := by
  have hc := join_contains p q r
  obtain ⟨i, hi, _⟩ := (found_iff _ _).mp hc
  unfold Txt.split
  rw [if_neg (by
    rw [kind_dots]
    have := kind_ge (Str.join dots (p :: q :: r))
    simp only [Bool.or_eq_true, decide_eq_true_eq]
    omega)]
  obtain ⟨f, h1, h2⟩ := occ_tight (Str.join dots (p :: q :: r)) dots (by rw [dots_len]; omega)
  have key := parts_of _ f h2 (q :: r) p [] _ h (by simp) h1
  split
  · rename_i he
    rw [List.isEmpty_iff.mp he] at key
    have hk : ([strSub (Str.join dots (p :: q :: r)) 0 (Str.join dots (p :: q :: r)).length] : List Str) = p :: q :: r := key
    have := congrArg List.length hk
    simp at this
  · rw [partsBetween_eq, dots_len]
    exact key

theorem startswith_iff (x y : Str) : Txt.startswith x y = true ↔ y.length ≤ x.length ∧ (ls x).take y.length = ls y := by
  unfold Txt.startswith
  rw [subAt_eq]
  simp
theorem endswith_iff (x y : Str) : Txt.endswith x y = true ↔ y.length ≤ x.length ∧ ((ls x).drop (x.length - y.length)).take y.length = ls y := by
  unfold Txt.endswith
  rw [subAt_eq]
  simp

theorem empty_of_len {x : Str} (h : x.length = 0) : x = Str.empty := by
  apply ls_inj
  have : (ls x).length = 0 := by rw [ls_length, h]
  rw [List.length_eq_zero_iff.mp this]
  rfl

/-- the meaning of _ellipsis_match on parts glued by dots -/
theorem em_iff (a b : Str) (mid : List Str) (h : ∀ z ∈ a :: (mid ++ [b]), Plain z) (y : Str) :
    em (Str.join dots (a :: (mid ++ [b]))) y = true ↔
      Txt.startswith y a = true ∧ Txt.endswith y b = true ∧ a.length + b.length ≤ y.length ∧ Placed y (y.length - b.length) mid a.length := by
  obtain ⟨q, r, e⟩ : ∃ q r, mid ++ [b] = q :: r := by
    cases mid with
    | nil => exact ⟨b, [], rfl⟩
    | cons m ms => exact ⟨m, ms ++ [b], rfl⟩
  unfold em
  rw [e] at h ⊢
  rw [join_contains, if_pos rfl, split_join a q r h]
  -- the tail, for any list that ends with b
  have last : ∀ (ws : List Str) (sp : Nat), emLast y (ws ++ [b]) sp = true ↔ Txt.endswith y b = true ∧ sp + b.length ≤ y.length ∧ Placed y (y.length - b.length) ws sp := by
    intro ws sp
    unfold emLast
    have e1 : (ws ++ [b]).getLastD Str.empty = b := by simp
    have e2 : (ws ++ [b]).dropLast = ws := by simp
    rw [e1, e2]
    by_cases hb : b.length = 0
    · rw [if_pos hb]
      have hE : Txt.endswith y b = true := by
        rw [endswith_iff, hb]
        have : ls b = [] := by rw [← List.length_eq_zero_iff, ls_length, hb]
        rw [this]; simp
      unfold emTail
      have addE : ∀ (vs : List Str) (lo : Nat), Placed y y.length (vs ++ [b]) lo ↔ Placed y y.length vs lo := by
        intro vs
        induction vs with
        | nil =>
          intro lo
          show (∃ k, lo ≤ k ∧ At y b y.length k ∧ k + b.length ≤ y.length) ↔ lo ≤ y.length
          have hlb : ls b = [] := by rw [← List.length_eq_zero_iff, ls_length, hb]
          constructor
          · rintro ⟨k, h1, _, h3⟩; omega
          · intro hl
            refine ⟨lo, Nat.le_refl _, ?_, by omega⟩
            rw [at_iff, hb, hlb]
            simp [hl]
        | cons v vs ih =>
          intro lo
          show (∃ k, lo ≤ k ∧ At y v y.length k ∧ Placed y y.length (vs ++ [b]) (k + v.length)) ↔ (∃ k, lo ≤ k ∧ At y v y.length k ∧ Placed y y.length vs (k + v.length))
          simp only [ih]
      rw [hb, Nat.sub_zero]
      simp only [hE, true_and, Nat.add_zero]
      by_cases hs : sp ≤ y.length
      · rw [if_neg (by omega), emLoop_iff y y.length (Nat.le_refl _) _ _ hs, addE]
        simp [hs]
      · rw [if_pos (by omega)]
        simp [hs]
    · rw [if_neg hb]
      by_cases hE : Txt.endswith y b = true
      · rw [if_pos hE]
        have hl := ((endswith_iff _ _).mp hE).1
        have e3 : ((y.length : Int) - (b.length : Int)) = ((y.length - b.length : Nat) : Int) := by omega
        rw [e3]
        unfold emTail
        by_cases hs : sp ≤ y.length - b.length
        · rw [if_neg (by omega), emLoop_iff y (y.length - b.length) (by omega) _ _ hs]
          constructor
          · intro p; exact ⟨hE, by omega, p⟩
          · exact fun p => p.2.2
        · rw [if_pos (by omega)]
          simp only [Bool.false_eq_true, false_iff]
          rintro ⟨_, h2, _⟩
          omega
      · rw [if_neg hE]
        simp [hE]
  unfold emHead
  have e4 : (a :: q :: r).headD Str.empty = a := rfl
  have e5 : (a :: q :: r).tail = q :: r := rfl
  rw [e4, e5, ← e]
  by_cases ha : a.length = 0
  · rw [if_pos ha]
    have hla : ls a = [] := by rw [← List.length_eq_zero_iff, ls_length, ha]
    have hS : Txt.startswith y a = true := by rw [startswith_iff, ha, hla]; simp
    have := last (a :: mid) 0
    rw [List.cons_append] at this
    have e6 : ((0 : Nat) : Int) = 0 := rfl
    rw [e6] at this
    rw [this, ha]
    simp only [hS, true_and, Nat.zero_add]
    constructor
    · rintro ⟨h1, h2, k, _, hk, p⟩
      exact ⟨h1, h2, p.anti (Nat.zero_le _)⟩
    · rintro ⟨h1, h2, p⟩
      refine ⟨h1, h2, 0, Nat.le_refl _, ?_, by rw [ha]; exact p⟩
      rw [at_iff, ha, hla]
      simp
  · rw [if_neg ha]
    by_cases hS : Txt.startswith y a = true
    · rw [if_pos hS, last mid a.length]
      simp only [hS, true_and]
    · rw [if_neg hS]
      simp [hS]

end Mine
end
section
namespace Mine

/-- Thue, Morse: is the number of ones odd -/
def tm (n : Nat) : Bool := if h : n = 0 then false else xor (n % 2 == 1) (tm (n / 2))
termination_by n
decreasing_by omega

theorem tm_even (n : Nat) : tm (2 * n) = tm n := by
  by_cases h : n = 0
  · subst h; rfl
  · rw [tm, dif_neg (by omega), show 2 * n % 2 = 0 by omega, show 2 * n / 2 = n by omega]
    simp
theorem tm_odd (n : Nat) : tm (2 * n + 1) = !tm n := by
  rw [tm, dif_neg (by omega), show (2 * n + 1) % 2 = 1 by omega, show (2 * n + 1) / 2 = n by omega]
  simp

/-- does the number end with an odd number of ones -/
def oddOnes (n : Nat) : Bool := if n % 4 = 3 then oddOnes (n / 4) else n % 2 == 1
termination_by n
decreasing_by omega

theorem oddOnes_even (n : Nat) : oddOnes (2 * n) = false := by
  rw [oddOnes, if_neg (by omega), show 2 * n % 2 = 0 by omega]; rfl
theorem oddOnes_odd (n : Nat) : oddOnes (2 * n + 1) = !oddOnes n := by
  induction n using Nat.strongRecOn with
  | ind n ih =>
    rcases Nat.mod_two_eq_zero_or_one n with h | h
    · obtain ⟨k, rfl⟩ : ∃ k, n = 2 * k := ⟨n / 2, by omega⟩
      rw [oddOnes, if_neg (by omega), oddOnes_even, show (2 * (2 * k) + 1) % 2 = 1 by omega]; rfl
    · obtain ⟨k, rfl⟩ : ∃ k, n = 2 * k + 1 := ⟨n / 2, by omega⟩
      rw [oddOnes, if_pos (by omega), show (2 * (2 * k + 1) + 1) / 4 = k by omega, ih k (by omega)]
      simp

theorem tm_succ (n : Nat) : (tm n == tm (n + 1)) = oddOnes n := by
  induction n using Nat.strongRecOn with
  | ind n ih =>
    rcases Nat.mod_two_eq_zero_or_one n with h | h
    · obtain ⟨k, rfl⟩ : ∃ k, n = 2 * k := ⟨n / 2, by omega⟩
      rw [tm_even, tm_odd, oddOnes_even]; cases tm k <;> rfl
    · obtain ⟨k, rfl⟩ : ∃ k, n = 2 * k + 1 := ⟨n / 2, by omega⟩
      rw [tm_odd, show 2 * k + 1 + 1 = 2 * (k + 1) by omega, tm_even, oddOnes_odd, ← ih k (by omega)]
      cases tm k <;> cases tm (k + 1) <;> rfl

/-- no three letters alike -/
theorem no_cube (n : Nat) (h1 : tm n = tm (n + 1)) (h2 : tm (n + 1) = tm (n + 2)) : False := by
  have e1 := tm_succ n
  have e2 := tm_succ (n + 1)
  rw [h1] at e1
  rw [h2] at e2
  simp only [BEq.rfl] at e1 e2
  rcases Nat.mod_two_eq_zero_or_one n with h | h
  · obtain ⟨k, rfl⟩ : ∃ k, n = 2 * k := ⟨n / 2, by omega⟩
    rw [oddOnes_even] at e1; cases e1
  · obtain ⟨k, rfl⟩ : ∃ k, n = 2 * k + 1 := ⟨n / 2, by omega⟩
    rw [show 2 * k + 1 + 1 = 2 * (k + 1) by omega, oddOnes_even] at e2; cases e2

/-- _law_square -/
def square (place size : Nat) : Bool :=
  if h : size % 2 = 0 ∧ 0 < size then
    if place % 2 = 1 then false else square (place / 2) (size / 2)
  else if size = 1 then oddOnes place
  else size == 3 && place % 2 == 1 && oddOnes (place / 2) && oddOnes (place / 2 + 2)
termination_by size
decreasing_by omega

/-- does the stretch of that size stand there twice on end -/
def rep (n size : Nat) : Bool := (List.range size).all fun i => tm (n + i) == tm (n + size + i)

theorem rep_iff (n size : Nat) : rep n size = true ↔ ∀ i, i < size → tm (n + i) = tm (n + size + i) := by
  simp [rep]

/-! the finite part: n = 16 m + r -/
theorem tm_shift : ∀ (w m r : Nat), r < 2 ^ w → tm (2 ^ w * m + r) = xor (tm m) (tm r)
  | 0, m, r, h => by
    have : r = 0 := by omega
    subst this
    rw [show tm 0 = false by unfold tm; rfl]; simp
  | w + 1, m, r, h => by
    have hr : r / 2 < 2 ^ w := by rw [Nat.pow_succ] at h; omega
    have ih := tm_shift w m (r / 2) hr
    rcases Nat.mod_two_eq_zero_or_one r with h2 | h2
    · have e1 : 2 ^ (w + 1) * m + r = 2 * (2 ^ w * m + r / 2) := by
        have : 2 ^ (w + 1) * m = 2 * (2 ^ w * m) := by rw [Nat.pow_succ, Nat.mul_comm (2 ^ w) 2, Nat.mul_assoc]
        omega
      have e2 : tm r = tm (r / 2) := by
        conv => lhs; rw [show r = 2 * (r / 2) by omega]
        exact tm_even _
      rw [e1, tm_even, ih, e2]
    · have e1 : 2 ^ (w + 1) * m + r = 2 * (2 ^ w * m + r / 2) + 1 := by
        have : 2 ^ (w + 1) * m = 2 * (2 ^ w * m) := by rw [Nat.pow_succ, Nat.mul_comm (2 ^ w) 2, Nat.mul_assoc]
        omega
      have e2 : tm r = !tm (r / 2) := by
        conv => lhs; rw [show r = 2 * (r / 2) + 1 by omega]
        exact tm_odd _
      rw [e1, tm_odd, ih, e2]
      cases tm m <;> cases tm (r / 2) <;> rfl

/-- oddOnes of 2 ^ w m + r, by oddOnes of m -/
def ob : Nat → Bool → Nat → Bool
  | 0, o, _ => o
  | w + 1, o, r => if r % 2 = 0 then false else !ob w o (r / 2)
theorem ob_shift : ∀ (w m r : Nat), r < 2 ^ w → oddOnes (2 ^ w * m + r) = ob w (oddOnes m) r
  | 0, m, r, h => by
    have : r = 0 := by omega
    subst this
    simp [ob]
  | w + 1, m, r, h => by
    have hr : r / 2 < 2 ^ w := by rw [Nat.pow_succ] at h; omega
    have ih := ob_shift w m (r / 2) hr
    have e0 : 2 ^ (w + 1) * m = 2 * (2 ^ w * m) := by rw [Nat.pow_succ, Nat.mul_comm (2 ^ w) 2, Nat.mul_assoc]
    unfold ob
    rcases Nat.mod_two_eq_zero_or_one r with h2 | h2
    · rw [if_pos h2, show 2 ^ (w + 1) * m + r = 2 * (2 ^ w * m + r / 2) by omega, oddOnes_even]
    · rw [if_neg (by omega), show 2 ^ (w + 1) * m + r = 2 * (2 ^ w * m + r / 2) + 1 by omega, oddOnes_odd, ih]

/-- the letter at place r of the 32 from 16 m on -/
def fT (a b : Bool) (j : Nat) : Bool := if j < 16 then xor a (tm j) else xor b (tm (j - 16))
theorem fT_eq (m j : Nat) (h : j < 32) : tm (16 * m + j) = fT (tm m) (tm (m + 1)) j := by
  unfold fT
  split
  · exact tm_shift 4 m j (by omega)
  · have := tm_shift 4 (m + 1) (j - 16) (by omega)
    rw [← this, show 2 ^ 4 * (m + 1) + (j - 16) = 16 * m + j by omega]

/-- square at 2 ^ w m + r -/
def sq : Nat → Bool → Nat → Nat → Bool
  | 0, _, _, _ => false
  | w + 1, o, r, size =>
    if size % 2 = 0 then (if r % 2 = 1 then false else sq w o (r / 2) (size / 2))
    else if size = 1 then ob (w + 1) o r
    else size == 3 && r % 2 == 1 && ob w o (r / 2) && (if r / 2 + 2 < 2 ^ w then ob w o (r / 2 + 2) else ob w false (r / 2 + 2 - 2 ^ w))
theorem ob_free (w : Nat) (o o' : Bool) (r : Nat) (h : r < 2) (hw : 2 ≤ w) : ob w o r = ob w o' r := by
  obtain ⟨v, rfl⟩ : ∃ v, w = v + 2 := ⟨w - 2, by omega⟩
  rcases (by omega : r = 0 ∨ r = 1) with rfl | rfl
  · rfl
  · rfl
theorem sq_shift : ∀ (w m r size : Nat), r < 2 ^ w → 0 < size → size < 2 ^ (w - 1) + 1 → (size % 2 = 1 → 1 < size → 3 ≤ w) → (size % 4 = 2 → 2 < size → 4 ≤ w) → (size % 8 = 4 → 4 < size → 5 ≤ w) → (1 ≤ w) → size ≤ 8 → square (2 ^ w * m + r) size = sq w (oddOnes m) r size
  | 0, m, r, size, h, hs, hz, h1, h2, h3, h4, h5 => by omega
  | w + 1, m, r, size, h, hs, hz, h1, h2, h3, h4, h5 => by
    have hr : r / 2 < 2 ^ w := by rw [Nat.pow_succ] at h; omega
    have e0 : 2 ^ (w + 1) * m = 2 * (2 ^ w * m) := by rw [Nat.pow_succ, Nat.mul_comm (2 ^ w) 2, Nat.mul_assoc]
    have e1 : (2 ^ (w + 1) * m + r) % 2 = r % 2 := by omega
    have e2 : (2 ^ (w + 1) * m + r) / 2 = 2 ^ w * m + r / 2 := by omega
    unfold square sq
    by_cases hz2 : size % 2 = 0
    · rw [dif_pos ⟨hz2, hs⟩, if_pos hz2, e1, e2]
      split
      · rfl
      · rw [Nat.add_sub_cancel] at hz
        have hw : 1 ≤ w := by
          rcases Nat.eq_zero_or_pos w with h0 | h0
          · subst h0; simp at hz; omega
          · exact h0
        have hp : 2 ^ w = 2 * 2 ^ (w - 1) := by
          conv => lhs; rw [show w = (w - 1) + 1 by omega]
          rw [Nat.pow_succ]; omega
        exact sq_shift w m (r / 2) (size / 2) hr (by omega) (by omega) (by omega) (by omega) (by omega) hw (by omega)
    · rw [dif_neg (by omega), if_neg hz2]
      by_cases h1' : size = 1
      · rw [if_pos h1', if_pos h1']; exact ob_shift (w + 1) m r h
      · rw [if_neg h1', if_neg h1', e1, e2, ob_shift w m (r / 2) hr]
        have e3 : oddOnes (2 ^ w * m + r / 2 + 2) = if r / 2 + 2 < 2 ^ w then ob w (oddOnes m) (r / 2 + 2) else ob w false (r / 2 + 2 - 2 ^ w) := by
          split
          · rename_i hlt
            exact ob_shift w m (r / 2 + 2) hlt
          · rename_i hlt
            have h4w : 2 ≤ w := by have := h1 (by omega) (by omega); omega
            have hp4 : 4 ≤ 2 ^ w := by
              calc 4 = 2 ^ 2 := rfl
                _ ≤ 2 ^ w := Nat.pow_le_pow_right (by omega) h4w
            have := ob_shift w (m + 1) (r / 2 + 2 - 2 ^ w) (by omega)
            rw [Nat.mul_add, Nat.mul_one, show 2 ^ w * m + 2 ^ w + (r / 2 + 2 - 2 ^ w) = 2 ^ w * m + r / 2 + 2 by omega] at this
            rw [this]
            exact ob_free _ _ _ _ (by omega) h4w
        rw [e3]

theorem tm_small : (List.range 16).map tm = [false, true, true, false, true, false, false, true, true, false, false, true, false, true, true, false] := by decide +kernel

/-- squares of 5 and 7, at each rest -/
theorem table : ∀ a b : Bool, ∀ r, r < 16 → ∀ s, s < 8 → ((List.range (s + 1)).all fun i => fT a b (r + i) == fT a b (r + (s + 1) + i)) = sq 4 (a == b) r (s + 1) := by
  decide +kernel

theorem square_rep (n size : Nat) (h1 : 1 ≤ size) (h8 : size ≤ 8) : square n size = rep n size := by
  have e : n = 16 * (n / 16) + n % 16 := by omega
  generalize n / 16 = m at e
  have hr : n % 16 < 16 := by omega
  generalize n % 16 = r at e hr
  subst e
  have k := table (tm m) (tm (m + 1)) r hr (size - 1) (by omega)
  rw [show size - 1 + 1 = size by omega, tm_succ] at k
  have := sq_shift 4 m r size (by omega) (by omega) (by omega) (by omega) (by omega) (by omega) (by omega) h8
  rw [show 2 ^ 4 * m = 16 * m by omega] at this
  rw [this, ← k]
  unfold rep
  rw [Bool.eq_iff_iff]
  simp only [List.all_eq_true, List.mem_range]
  constructor
  · intro hk i hi
    have := hk i hi
    rw [← fT_eq m (r + i) (by omega), ← fT_eq m (r + size + i) (by omega)] at this
    rw [show 16 * m + r + i = 16 * m + (r + i) by omega, show 16 * m + r + size + i = 16 * m + (r + size + i) by omega]
    exact this
  · intro hk i hi
    have := hk i hi
    rw [show 16 * m + r + i = 16 * m + (r + i) by omega, show 16 * m + r + size + i = 16 * m + (r + size + i) by omega] at this
    rw [← fT_eq m (r + i) (by omega), ← fT_eq m (r + size + i) (by omega)]
    exact this

end Mine
end
section
open PySem PySem.W PyProof.Rows PySem.Calls
set_option maxRecDepth 100000
namespace Mine
section
variable {prog : Program} {w : World} {A : Around} {E : Value → Shared → Prop} {s : Shared} {env : Env} {h₀ : Heap} {x : Str} {body : List Stmt} {Q : Flow → Shared → Prop}

/-- the frame between the turns: the loop's own name and the junk names hold anything, the others what the state says -/
def frMap {σ : Type} (Ms : σ → Str → Option Value) (junk : List Str) (u : Str → Option Value) (c : σ) : Str → Option Value :=
  fun y => if junk.contains y then u y else Ms c y

/-- a turn's end -/
def StEnd {σ : Type} (h₀ : Heap) (L : Addr) (x : Str) (Ms : σ → Str → Option Value) (junk : List Str) (Inv : σ → Prop) (news : List (Addr × Obj)) (s₁ s₂ : Shared) : Prop :=
  ∃ (c : σ) (h' : Heap) (tk : Nat) (m' : Str → Option Value) (news' : List (Addr × Obj)), s₂ = { s₁ with heap := h', toks := tk } ∧ Fr h₀ L h' m' ∧ News h₀ L h' news' ∧ (∀ p ∈ news, p ∈ news') ∧ Inv c ∧ ∀ z, z ≠ x → junk.contains z = false → m' z = Ms c z
def StPost {σ : Type} (h₀ : Heap) (L : Addr) (x : Str) (Ms : σ → Str → Option Value) (junk : List Str) (Inv : σ → Prop) (news : List (Addr × Obj)) (Q : Flow → Shared → Prop) (s₁ : Shared) (f : Flow) (s₂ : Shared) : Prop :=
  match f with
  | .ret v => Q (.ret v) s₂
  | .brk => Q .next s₂
  | _ => StEnd h₀ L x Ms junk Inv news s₁ s₂

theorem st_end {σ : Type} {L : Addr} {Ms : σ → Str → Option Value} {junk : List Str} {Inv : σ → Prop} {news news' : List (Addr × Obj)} {s₁ : Shared} {h' : Heap} {tk : Nat} {m' : Str → Option Value} (c : σ)
    (F : Fr h₀ L h' m') (N : News h₀ L h' news') (hn : ∀ p ∈ news, p ∈ news') (hi : Inv c) (hm : ∀ z, z ≠ x → junk.contains z = false → m' z = Ms c z) :
    StEnd h₀ L x Ms junk Inv news s₁ { s₁ with heap := h', toks := tk } := ⟨c, h', tk, m', news', rfl, F, N, hn, hi, hm⟩

theorem loop_st {σ : Type} {I : Addr} {fp wr : List Addr} {n : Nat} {P : Nat → Value → Prop} {St : Nat → Heap → Prop} {m₀ : Str → Option Value} {news : List (Addr × Obj)}
    (Ms : σ → Str → Option Value) (junk : List Str) (Inv : Nat → σ → Prop) (c₀ : σ)
    (W : Walks prog w A I fp wr n P St) (hLf : env.locals ∉ fp) (hwr : ∀ b ∈ wr, h₀.get? b = none) (hnw : ∀ p ∈ news, p.1 ∉ wr) (hfp : ∀ q ∈ news, q.1 ∉ fp) (hst : St 0 s.heap) (F : Fr h₀ env.locals s.heap m₀) (N : News h₀ env.locals s.heap news)
    (h0 : ∀ z, z ≠ x → junk.contains z = false → m₀ z = Ms c₀ z) (hi : Inv 0 c₀)
    (turn : ∀ i v (c : σ) u h tk own, i < n → P i v → OwnOff own (news.map (·.1)) → Inv i c → Fr h₀ env.locals h (fun y => if y = x then some v else frMap Ms junk u c y) → News h₀ env.locals h (news ++ own) →
      wpAny (model prog w) A (execs body env) (StPost h₀ env.locals x Ms junk (Inv (i + 1)) (news ++ own) Q { s with heap := h, toks := tk }) E { s with heap := h, toks := tk })
    (done : ∀ (c : σ) u h tk, Inv n c → Fr h₀ env.locals h (fun y => if y = x then u y else frMap Ms junk u c y) → News h₀ env.locals h news → Q .next { s with heap := h, toks := tk }) :
    LoopAtV prog w A h₀ env x body Q E (.ref I) s := by
  have fr : ∀ {c : σ} {m₁ : Str → Option Value}, (∀ z, z ≠ x → junk.contains z = false → m₁ z = Ms c z) → ∀ y, y ≠ x → frMap Ms junk m₁ c y = m₁ y := by
    intro c m₁ hm y hy
    unfold frMap
    cases hj : junk.contains y with
    | true => simp
    | false => simp only [Bool.false_eq_true, if_false]; exact (hm y hy hj).symm
  refine loop_invN (fun i m nx => nx = news ∧ ∃ c : σ, Inv i c ∧ ∀ z, z ≠ x → junk.contains z = false → m z = Ms c z) W hLf hwr hnw hfp hst F N ⟨rfl, c₀, hi, h0⟩ ?_ ?_
  · rintro i v m₁ nx h tk own hin hP _ hoff ⟨rfl, c, hc, hm⟩ F₁ N₁
    have em : (fun y => if y = x then some v else m₁ y) = fun y => if y = x then some v else frMap Ms junk m₁ c y := by
      funext y
      by_cases hy : y = x
      · rw [if_pos hy, if_pos hy]
      · rw [if_neg hy, if_neg hy, fr hm y hy]
    rw [em] at F₁
    refine wpAny_mono (turn i v c m₁ h tk own hin hP hoff hc F₁ N₁) (fun f s₂ p => ?_) fun _ _ e => e
    have up : StEnd h₀ env.locals x Ms junk (Inv (i + 1)) (nx ++ own) { s with heap := h, toks := tk } s₂ →
        InvEndN h₀ env.locals (fun m nx' => nx' = nx ∧ ∃ c : σ, Inv (i + 1) c ∧ ∀ z, z ≠ x → junk.contains z = false → m z = Ms c z) own (nx.map (·.1)) { s with heap := h, toks := tk } s₂ := by
      rintro ⟨c', h', tk', m', news', rfl, F', N', hn, hi', hm'⟩
      exact InvEndN.intro F' N' ⟨rfl, c', hi', hm'⟩ rfl (fun p hp => hn p (List.mem_append.mpr (.inl hp))) (fun p hp => hn p (List.mem_append.mpr (.inr hp)))
    cases f with
    | ret v => exact p
    | brk => exact p
    | next => exact up p
    | cont => exact up p
  · rintro m₁ nx h tk ⟨rfl, c, hc, hm⟩ F₁ N₁
    refine done c m₁ h tk hc ?_ N₁
    have em : m₁ = fun y => if y = x then m₁ y else frMap Ms junk m₁ c y := by
      funext y
      by_cases hy : y = x
      · rw [if_pos hy]
      · rw [if_neg hy, fr hm y hy]
    rw [← em]
    exact F₁

/-- a for over a list of the call's own; the list leaves the ledger -/
theorem iter_list_st {σ : Type} {D : Addr} {vs : List Value} {nn : Nat} {m₀ : Str → Option Value} {news : List (Addr × Obj)}
    (Ms : σ → Str → Option Value) (junk : List Str) (Inv : Nat → σ → Prop) (c₀ : σ)
    (hh : A.handled = none) (F : Fr h₀ env.locals s.heap m₀) (N : News h₀ env.locals s.heap news) (hD : News h₀ env.locals s.heap [(D, listOf vs.toArray nn)]) (hap : ∀ p ∈ news, p.1 ≠ D)
    (h0 : ∀ z, z ≠ x → junk.contains z = false → m₀ z = Ms c₀ z) (hi : Inv 0 c₀)
    (turn : ∀ i v (c : σ) u h tk own, vs[i]? = some v → OwnOff own (news.map (·.1)) → Inv i c → Fr h₀ env.locals h (fun y => if y = x then some v else frMap Ms junk u c y) → News h₀ env.locals h (news ++ own) →
      wpAny (model prog w) A (execs body env) (StPost h₀ env.locals x Ms junk (Inv (i + 1)) (news ++ own) Q { s with heap := h, toks := tk }) E { s with heap := h, toks := tk })
    (done : ∀ (c : σ) u h tk, Inv vs.length c → Fr h₀ env.locals h (fun y => if y = x then u y else frMap Ms junk u c y) → News h₀ env.locals h news → Q .next { s with heap := h, toks := tk }) :
    wpAny (model prog w) A (pyIter (.ref D)) (fun it s₂ => LoopAtV prog w A h₀ env x body Q E it s₂) E s := by
  have zD := hD _ (.head _)
  have hol : s.heap.get? D = some (listOf vs.toArray nn) := zD.1
  have hls : s.heap.IsList D vs.toArray := ⟨_, hol, rfl, nn, rfl⟩
  have hne : D ≠ s.heap.objs.size := Nat.ne_of_lt (Heap.lt_size hol)
  refine wpAny_pyIter_list hls ?_
  have W := Walks.list (prog := prog) (w := w) hh s.heap.objs.size D hne vs.toArray
  rw [List.size_toArray] at W
  refine loop_st (s := { s with heap := _ }) Ms junk Inv c₀ W ?_ ?_ ?_ ?_ ⟨⟨_, Heap.get?_push_size _ rfl, rfl, rfl⟩, hls.at fun o e => Heap.get?_push_of_some _ e⟩ (F.push _) (fun p hp => ⟨Heap.get?_push_of_some _ (N p hp).1, (N p hp).2⟩) h0 hi ?_ ?_
  · intro hm
    rcases List.mem_cons.mp hm with e | hm
    · exact absurd F.ns.lt (e ▸ Nat.lt_irrefl _)
    · exact zD.2.1 ((List.mem_singleton.mp hm).symm)
  · intro b hb
    rw [List.mem_singleton.mp hb]
    exact next_is_new F
  · intro p hp hI
    exact absurd (Heap.lt_size (N p hp).1) ((List.mem_singleton.mp hI) ▸ Nat.lt_irrefl _)
  · intro p hp hI
    rcases List.mem_cons.mp hI with e | hI
    · exact absurd (Heap.lt_size (N p hp).1) (e ▸ Nat.lt_irrefl _)
    · exact hap p hp (List.mem_singleton.mp hI)
  · intro i v c u h tk own hin hP hoff hc F₁ N₁
    exact turn i v c u h tk own (by simpa using hP) hoff hc F₁ N₁
  · intro c u h tk hc F₁ N₁
    exact done c u h tk hc F₁ N₁
end
end Mine
end
section
open PySem PySem.W PyProof.Rows PySem.Calls Builtin Builtin.Str PySem.StrLaws
set_option maxRecDepth 100000
namespace Mine

theorem sub_self {α : Type} (l : List α) : ∀ p ∈ l, p ∈ l := fun _ h => h
theorem sub_tail {α : Type} (q : α) (l : List α) : ∀ p ∈ l, p ∈ q :: l := fun _ h => List.mem_cons_of_mem _ h
theorem join_part_le (y : Str) : ∀ (ps : List Str) (p : Str), p ∈ ps → p.length ≤ (Str.join y ps).length
  | [], _, h => nomatch h
  | [q], p, h => by rw [List.mem_singleton.mp h]; exact Nat.le_refl _
  | q :: r :: rs, p, h => by
    show p.length ≤ (q ++ y ++ Str.join y (r :: rs)).length
    rw [Str.length_append, Str.length_append]
    rcases List.mem_cons.mp h with rfl | h
    · omega
    · have := join_part_le y (r :: rs) p h
      omega

theorem split_shape (x : Str) (hc : Txt.contains x dots = true) : ∃ a mid b, Txt.split x dots = a :: (mid ++ [b]) := by
  have h2 : 2 ≤ (Txt.split x dots).length := by
    unfold Txt.contains at hc
    obtain ⟨i, hi, hs⟩ := (found_iff x dots).mp hc
    unfold Txt.split
    rw [if_neg (by
      rw [kind_dots]
      have := kind_ge x
      simp only [Bool.or_eq_true, decide_eq_true_eq]
      omega)]
    obtain ⟨f, h1, h2⟩ := occ_tight x dots (by rw [dots_len]; omega)
    have hne : occurrences x dots 0 x.length (x.length + 1) ≠ [] := by
      intro e
      rw [e] at h1
      have e0 : f = 0 := h1
      exact h2 i (by omega) ⟨hi, hs⟩
    rw [if_neg (by rw [List.isEmpty_iff]; exact hne), partsBetween_eq]
    cases ho : occurrences x dots 0 x.length (x.length + 1) with
    | nil => exact absurd ho hne
    | cons c r =>
      show 2 ≤ (strSub x 0 c :: partsFrom x dots.length (c + dots.length) r).length
      obtain ⟨p, q, e⟩ := partsFrom_ne x dots.length (c + dots.length) r
      rw [e]
      simp
  generalize Txt.split x dots = l at h2
  cases l with
  | nil => simp at h2
  | cons a r =>
    have hr : r ≠ [] := by intro e; rw [e] at h2; simp at h2
    exact ⟨a, r.dropLast, r.getLast hr, by rw [List.dropLast_concat_getLast]⟩

theorem split_le (x : Str) : ∀ p ∈ Txt.split x dots, p.length ≤ x.length := fun p hp => by
  have := join_part_le dots _ p hp
  rwa [join_split] at this

theorem strValues_append (l l' : List (Str × Tok)) : strValues (l ++ l') = strValues l ++ strValues l' := by simp [strValues]

section
variable {prog : Program} {w : World} {A : Around} {E : Value → Shared → Prop} {s : Shared} {h₀ : Heap} {L : Addr} {m : Str → Option Value} {news : List (Addr × Obj)}

theorem split_em {x : Str} {t u : Tok} {Q : Value → Shared → Prop} (hF : Fr h₀ L s.heap m) (hN : News h₀ L s.heap news) (hc : Txt.contains x dots = true) (hsz : x.length + 2 ≤ sizeLine)
    (h : ∀ D a ta mid b tb h' k, Txt.split x dots = a :: (mid.map (·.1) ++ [b]) → a.length ≤ x.length → b.length ≤ x.length → Fr h₀ L h' m →
      News h₀ L h' ((D, W.listOf (Value.str a ta :: (strValues mid ++ [Value.str b tb])).toArray 0) :: news) → (∀ p ∈ news, p.1 < D) → Q (.ref D) { s with heap := h', toks := k }) :
    wpAny (model prog w) A (call (.builtin "str.split") [.str x t, .str dots u]) Q E s := by
  refine KSpl.split1 hF hN (by decide +kernel) (fun D l h' k e _ F N lt => ?_) hsz
  obtain ⟨a, mid, b, es⟩ := split_shape x hc
  rw [es] at e
  obtain ⟨ta, l', rfl, e'⟩ := KSpl.cons_of e
  obtain ⟨l1, l2, rfl, e1, e2⟩ := List.map_eq_append_iff.mp e'
  obtain ⟨tb, l3, rfl, e3⟩ := KSpl.cons_of e2
  have := KSpl.nil_of e3
  subst this
  subst e1
  have ha : a ∈ Txt.split x dots := by rw [es]; exact .head _
  have hb : b ∈ Txt.split x dots := by rw [es]; exact .tail _ (List.mem_append.mpr (.inr (.head _)))
  refine h D a ta l1 b tb h' k es (split_le x a ha) (split_le x b hb) F ?_ lt
  have ev : strValues ((a, ta) :: (l1 ++ [(b, tb)])) = Value.str a ta :: (strValues l1 ++ [Value.str b tb]) := by simp [strValues]
  rw [← ev]
  exact N

/-- xs[-1] of a list of the call's own -/
theorem item_last {value slice : Expr} {D : Addr} {l vs : List Value} {v : Value} {n : Nat} {u : Tok} {Q : Value → Shared → Prop}
    {led : List (Addr × Obj)} (N₀ : News h₀ L s.heap led) (hsub : ∀ p ∈ ((D, W.listOf l.toArray n) :: news), p ∈ led) (hv : l = vs ++ [v]) (h : Q v s)
    (hs : subscripted slice false (.ref D) (.int (-1) u) = operate [.ref D, .int (-1) u] (getItem (.ref D) (.int (-1) u)) := by with_unfolding_all rfl) :
    wpAny (model prog w) A (subscriptTail value slice (.ref D) (.int (-1) u)) Q E s := by
  have N : News h₀ L s.heap ((D, W.listOf l.toArray n) :: news) := fun p hp => N₀ p (hsub p hp)
  subst hv
  have hl : s.heap.IsList D (vs ++ [v]).toArray := ⟨_, (N _ (.head _)).1, rfl, n, rfl⟩
  refine tail_any hl.typeIs slot_list_getitem.lookup (wpAny_getItem_list_neg hl (by decide) ?_ (by decide) ?_ h) hs
  · simp; omega
  · simp only [List.size_toArray, List.length_append, List.length_singleton, List.getElem?_toArray]
    have : ((-1 : Int) + ((vs.length + 1 : Nat) : Int)).toNat = vs.length := by omega
    rw [this]
    simp

theorem item_first {value slice : Expr} {D : Addr} {vs : List Value} {v : Value} {n : Nat} {u : Tok} {Q : Value → Shared → Prop}
    {led : List (Addr × Obj)} (N₀ : News h₀ L s.heap led) (hsub : ∀ p ∈ ((D, W.listOf (v :: vs).toArray n) :: news), p ∈ led) (h : Q v s)
    (hs : subscripted slice false (.ref D) (.int 0 u) = operate [.ref D, .int 0 u] (getItem (.ref D) (.int 0 u)) := by with_unfolding_all rfl) :
    wpAny (model prog w) A (subscriptTail value slice (.ref D) (.int 0 u)) Q E s :=
  have N : News h₀ L s.heap ((D, W.listOf (v :: vs).toArray n) :: news) := fun p hp => N₀ p (hsub p hp)
  have hl : s.heap.IsList D (v :: vs).toArray := ⟨_, (N _ (.head _)).1, rfl, n, rfl⟩
  tail_any hl.typeIs slot_list_getitem.lookup (wpAny_getItem_list hl (by decide) (by decide) (by simp) h) hs
theorem len_own {D : Addr} {vs : List Value} {n k : Nat} {Q : Value → Shared → Prop} {led : List (Addr × Obj)} (N₀ : News h₀ L s.heap led) (hsub : ∀ p ∈ ((D, W.listOf vs.toArray n) :: news), p ∈ led) (hk : vs.length = k) (hz : k < 2 ^ 63)
    (h : ∀ t tk, Q (.int k t) { s with toks := tk }) : wpAny (model prog w) A (call (.builtin "len") [.ref D]) Q E s := by
  have N : News h₀ L s.heap ((D, W.listOf vs.toArray n) :: news) := fun p hp => N₀ p (hsub p hp)
  have hl : s.heap.IsList D vs.toArray := ⟨_, (N _ (.head _)).1, rfl, n, rfl⟩
  subst hk
  refine PyProof.Rows.len_list hl (by simp; omega) ?_
  rw [List.size_toArray]
  exact h _ _

theorem erase_first {D : Addr} {v : Value} {vs : List Value} {u : Tok} {n : Nat} {Q : Unit → Shared → Prop}
    (F : Fr h₀ L s.heap m) {led : List (Addr × Obj)} (N₀ : News h₀ L s.heap led) (hsub : ∀ p ∈ ((D, W.listOf (v :: vs).toArray n) :: news), p ∈ led) (hap : ∀ p ∈ news, p.1 ≠ D) (hz : vs.length + 1 ≤ sizeLine)
    (h : ∀ h', Fr h₀ L h' m → News h₀ L h' ((D, W.listOf vs.toArray (n + 1)) :: news) → Q () { s with heap := h' }) :
    wpAny (model prog w) A (delItem (.ref D) (.int 0 u)) Q E s := by
  have N : News h₀ L s.heap ((D, W.listOf (v :: vs).toArray n) :: news) := fun p hp => N₀ p (hsub p hp)
  refine delItem_head (k := 0) F N hap (by rfl) ?_ (fun h' F' N' => h h' F' ?_) (by simpa using hz)
  · exact seqIndex_nonneg (n := (v :: vs).toArray.size) (i := 0) (by omega) (by simp)
  · simpa using N'
theorem erase_last {D : Addr} {l : List Value} (v : Value) (vs : List Value) {u : Tok} {n : Nat} {Q : Unit → Shared → Prop}
    (F : Fr h₀ L s.heap m) {led : List (Addr × Obj)} (N₀ : News h₀ L s.heap led) (hsub : ∀ p ∈ ((D, W.listOf l.toArray n) :: news), p ∈ led) (hv : l = vs ++ [v]) (hap : ∀ p ∈ news, p.1 ≠ D) (hz : vs.length + 1 ≤ sizeLine)
    (h : ∀ h', Fr h₀ L h' m → News h₀ L h' ((D, W.listOf vs.toArray (n + 1)) :: news) → Q () { s with heap := h' }) :
    wpAny (model prog w) A (delItem (.ref D) (.int (-1) u)) Q E s := by
  have N : News h₀ L s.heap ((D, W.listOf l.toArray n) :: news) := fun p hp => N₀ p (hsub p hp)
  subst hv
  refine delItem_head (k := vs.length) F N hap (by rfl) ?_ (fun h' F' N' => h h' F' ?_) (by simpa using hz)
  · have := seqIndex_neg (n := (vs ++ [v]).toArray.size) (i := -1) (by omega) (by simp; omega)
    rw [this]
    simp
    omega
  · have e : ((vs ++ [v]).toArray.toList.eraseIdx vs.length) = vs := by
      simp [List.eraseIdx_append_of_length_le]
    rw [e] at N'
    exact N'
end
end Mine
namespace Mine
section
variable {prog : Program} {w : World} {A : Around} {E : Value → Shared → Prop} {s : Shared} {env : Env} {h₀ : Heap} {body : List Stmt} {Q : Flow → Shared → Prop}

def EmEnd (h₀ : Heap) (L : Addr) (m₀ : Str → Option Value) (y : Str) (ep : Int) (r : List Str) (R : Bool) (news : List (Addr × Obj)) (s₁ s₂ : Shared) : Prop :=
  ∃ (sp : Int) (ts : Tok) (h' : Heap) (tk : Nat) (m' : Str → Option Value) (news' : List (Addr × Obj)), s₂ = { s₁ with heap := h', toks := tk } ∧ Fr h₀ L h' m' ∧ News h₀ L h' news' ∧ (∀ p ∈ news, p ∈ news') ∧
    emLoop y r sp ep = R ∧ m' (Str.ofString "startpos") = some (.int sp ts) ∧ ∀ z, z ≠ Str.ofString "w" → z ≠ Str.ofString "startpos" → m' z = m₀ z
def EmPost (h₀ : Heap) (L : Addr) (m₀ : Str → Option Value) (y : Str) (ep : Int) (r : List Str) (R : Bool) (news : List (Addr × Obj)) (Q : Flow → Shared → Prop) (s₁ : Shared) (f : Flow) (s₂ : Shared) : Prop :=
  match f with
  | .ret v => Q (.ret v) s₂
  | .brk => Q .next s₂
  | _ => EmEnd h₀ L m₀ y ep r R news s₁ s₂
theorem em_end {L : Addr} {m₀ m' : Str → Option Value} {y : Str} {ep sp : Int} {ts : Tok} {r : List Str} {R : Bool} {news news' : List (Addr × Obj)} {s₁ : Shared} {h' : Heap} {tk : Nat}
    (F : Fr h₀ L h' m') (N : News h₀ L h' news') (hn : ∀ p ∈ news, p ∈ news') (hr : emLoop y r sp ep = R) (hs : m' (Str.ofString "startpos") = some (.int sp ts))
    (hm : ∀ z, z ≠ Str.ofString "w" → z ≠ Str.ofString "startpos" → m' z = m₀ z) : EmEnd h₀ L m₀ y ep r R news s₁ { s₁ with heap := h', toks := tk } :=
  ⟨sp, ts, h', tk, m', news', rfl, F, N, hn, hr, hs, hm⟩

theorem em_iter {y : Str} {ep sp : Int} {t0 : Tok} {l : List (Str × Tok)} {vs : List Value} {nn : Nat} {D : Addr} {m₀ : Str → Option Value} {led news : List (Addr × Obj)} {R : Bool}
    (hh : A.handled = none) (F : Fr h₀ env.locals s.heap m₀) (N₀ : News h₀ env.locals s.heap led) (hsub : ∀ p ∈ (D, W.listOf vs.toArray nn) :: news, p ∈ led) (hv : vs = strValues l) (hap : ∀ p ∈ news, p.1 ≠ D)
    (hsp : m₀ (Str.ofString "startpos") = some (.int sp t0)) (hR : emLoop y (l.map (·.1)) sp ep = R) (hall : ∀ z ∈ l, z.1.length ≤ 1000)
    (turn : ∀ q tq (r : List Str) (sp' : Int) ts h tk own, q.length ≤ 1000 → emLoop y (q :: r) sp' ep = R → Fr h₀ env.locals h (fun z => if z = Str.ofString "w" then some (.str q tq) else if z = Str.ofString "startpos" then some (.int sp' ts) else m₀ z) → News h₀ env.locals h (news ++ own) →
      wpAny (model prog w) A (execs body env) (EmPost h₀ env.locals m₀ y ep r R (news ++ own) Q { s with heap := h, toks := tk }) E { s with heap := h, toks := tk })
    (done : ∀ m' h tk, R = true → Fr h₀ env.locals h m' → News h₀ env.locals h news → Q .next { s with heap := h, toks := tk }) :
    wpAny (model prog w) A (pyIter (.ref D)) (fun it s₂ => LoopAtV prog w A h₀ env (Str.ofString "w") body Q E it s₂) E s := by
  subst hv
  refine iter_list_st (σ := Int × Tok) (fun c z => if z = Str.ofString "startpos" then some (.int c.1 c.2) else m₀ z) [] (fun i c => emLoop y ((l.map (·.1)).drop i) c.1 ep = R) (sp, t0) hh F
    (fun p hp => N₀ p (hsub p (.tail _ hp))) (fun p hp => N₀ p (hsub p (by rw [List.mem_singleton.mp hp]; exact .head _))) hap ?_ (by simpa using hR) ?_ ?_
  · intro z _ _
    by_cases hz : z = Str.ofString "startpos"
    · rw [if_pos hz, hz, hsp]
    · rw [if_neg hz]
  · intro i v c u h tk own hvi _ hc F₁ N₁
    have hi : i < l.length := by
      have := (List.getElem?_eq_some_iff.mp hvi).1
      simpa [strValues] using this
    have ev : v = .str l[i].1 l[i].2 := by
      have := (List.getElem?_eq_some_iff.mp hvi).2
      rw [← this]
      simp [strValues]
    subst ev
    have ed : (l.map (·.1)).drop i = l[i].1 :: (l.map (·.1)).drop (i + 1) := by
      rw [List.drop_eq_getElem_cons (by simpa using hi)]
      simp
    rw [ed] at hc
    have em : (fun z => if z = Str.ofString "w" then some (Value.str l[i].1 l[i].2) else frMap (fun (c : Int × Tok) z => if z = Str.ofString "startpos" then some (.int c.1 c.2) else m₀ z) [] u c z) =
        fun z => if z = Str.ofString "w" then some (Value.str l[i].1 l[i].2) else if z = Str.ofString "startpos" then some (.int c.1 c.2) else m₀ z := by
      funext z
      simp [frMap]
    rw [em] at F₁
    refine wpAny_mono (turn _ _ _ _ _ h tk own (hall _ (List.getElem_mem hi)) hc F₁ N₁) (fun f s₂ p => ?_) fun _ _ e => e
    have up : EmEnd h₀ env.locals m₀ y ep ((l.map (·.1)).drop (i + 1)) R (news ++ own) { s with heap := h, toks := tk } s₂ →
        StEnd h₀ env.locals (Str.ofString "w") (fun (c : Int × Tok) z => if z = Str.ofString "startpos" then some (.int c.1 c.2) else m₀ z) [] (fun c => emLoop y ((l.map (·.1)).drop (i + 1)) c.1 ep = R) (news ++ own) { s with heap := h, toks := tk } s₂ := by
      rintro ⟨sp', ts', h', tk', m', news', rfl, F', N', hn, hr, hs, hm⟩
      refine st_end (sp', ts') F' N' hn hr fun z hz _ => ?_
      by_cases h1 : z = Str.ofString "startpos"
      · rw [if_pos h1, h1, hs]
      · rw [if_neg h1]; exact hm z hz h1
    cases f with
    | ret v => exact p
    | brk => exact p
    | next => exact up p
    | cont => exact up p
  · intro c u h tk hc F₁ N₁
    have e : (l.map (·.1)).drop (strValues l).length = [] := by
      apply List.drop_of_length_le
      simp [strValues]
    rw [e] at hc
    exact done _ h tk hc.symm F₁ N₁
end
end Mine
namespace Mine
theorem for_own {prog : Program} {w : World} {A : Around} {s : Shared} {env : Env} {h₀ : Heap} {L : Addr} {m : Str → Option Value} {E : Value → Shared → Prop} {Q : Flow → Shared → Prop} {x : Str} {px pos : Pos} {iter : Expr} {body : List Stmt} (_F : Fr h₀ L s.heap m)
    (h : wpAny (model prog w) A (eval iter env) (fun xv s₁ => wpAny (model prog w) A (pyIter xv) (fun it s₂ => LoopAtV prog w A h₀ env x body Q E it s₂) E s₁) E s)
    (hx : env.kindOf x = some .local) (hp : (env.scope.kind == .class || (env.scope.kind == .module && env.locals != env.globals)) = false)
    (hs : ∀ x, foldedSetIterable iter env x = pure x)
    (hE : PassesOwn (model prog w) A env E) :
    wpAny (model prog w) A (exec (.For (.Name x px) iter body [] pos) env) Q E s := For_invV h₀ hx hp h hs hE
end Mine
namespace Mine
def emL (y q : Str) (ws : List Str) (sp : Int) : Bool :=
  if (q.length : Int) = 0 then (if (y.length : Int) < sp then false else emLoop y (ws ++ [q]) sp y.length)
  else if Txt.endswith y q = true then (if (y.length : Int) - (q.length : Int) < sp then false else emLoop y ws sp ((y.length : Int) - (q.length : Int))) else false
theorem em_val {x y p q : Str} {mid : List Str} (hc : Txt.contains x dots = true) (es : Txt.split x dots = p :: (mid ++ [q])) :
    em x y = if (p.length : Int) = 0 then emL y q (p :: mid) 0 else if Txt.startswith y p = true then emL y q mid p.length else false := by
  have last : ∀ (ws : List Str) (sp : Int), emLast y (ws ++ [q]) sp = emL y q ws sp := by
    intro ws sp
    unfold emLast emL emTail
    have e1 : (ws ++ [q]).getLastD Str.empty = q := by simp
    have e2 : (ws ++ [q]).dropLast = ws := by simp
    rw [e1, e2]
    by_cases hq : q.length = 0
    · rw [if_pos hq, if_pos (show (q.length : Int) = 0 by omega)]
    · rw [if_neg hq, if_neg (show ¬ (q.length : Int) = 0 by omega)]
  unfold em emHead
  rw [hc, if_pos rfl, es]
  have e4 : (p :: (mid ++ [q])).headD Str.empty = p := rfl
  have e5 : (p :: (mid ++ [q])).tail = mid ++ [q] := rfl
  rw [e4, e5]
  by_cases hp : p.length = 0
  · rw [if_pos hp, if_pos (show (p.length : Int) = 0 by omega)]
    exact last (p :: mid) 0
  · rw [if_neg hp, if_neg (show ¬ (p.length : Int) = 0 by omega), last]
section
variable {x y p q : Str} {tp tq : Tok} {mid : List (Str × Tok)} (hc : Txt.contains x dots = true) (es : Txt.split x dots = p :: (mid.map (·.1) ++ [q]))
include hc es
theorem em_c1 (hp : (p.length : Int) ≠ 0) (h1 : Txt.startswith y p = true) (hq : (q.length : Int) ≠ 0) (h2 : Txt.endswith y q = true) (h3 : ¬ ((y.length : Int) - (q.length : Int) < (p.length : Int))) :
    emLoop y (mid.map (·.1)) p.length ((y.length : Int) - (q.length : Int)) = em x y := by
  rw [em_val hc es, if_neg hp, if_pos h1, emL, if_neg hq, if_pos h2, if_neg h3]
theorem em_c2 (hp : (p.length : Int) ≠ 0) (h1 : Txt.startswith y p = true) (hq : (q.length : Int) = 0) (h3 : ¬ (y.length : Int) < (p.length : Int)) :
    emLoop y ((mid ++ [(q, tq)]).map (·.1)) p.length y.length = em x y := by
  rw [em_val hc es, if_neg hp, if_pos h1, emL, if_pos hq, if_neg h3, List.map_append]; rfl
theorem em_c3 (hp : (p.length : Int) = 0) (hq : (q.length : Int) ≠ 0) (h2 : Txt.endswith y q = true) (h3 : ¬ ((y.length : Int) - (q.length : Int) < 0)) :
    emLoop y (((p, tp) :: mid).map (·.1)) 0 ((y.length : Int) - (q.length : Int)) = em x y := by
  rw [em_val hc es, if_pos hp, emL, if_neg hq, if_pos h2, if_neg h3]; rfl
theorem em_c4 (hp : (p.length : Int) = 0) (hq : (q.length : Int) = 0) :
    emLoop y (((p, tp) :: (mid ++ [(q, tq)])).map (·.1)) 0 y.length = em x y := by
  rw [em_val hc es, if_pos hp, emL, if_pos hq, if_neg (by omega), List.map_cons, List.map_append]; rfl
theorem em_f1 (hp : (p.length : Int) ≠ 0) (h1 : Txt.startswith y p = false) : false = em x y := by
  rw [em_val hc es, if_neg hp, h1]; rfl
theorem em_f2 (hp : (p.length : Int) ≠ 0) (h1 : Txt.startswith y p = true) (hq : (q.length : Int) ≠ 0) (h2 : Txt.endswith y q = false) : false = em x y := by
  rw [em_val hc es, if_neg hp, if_pos h1, emL, if_neg hq, h2]; rfl
theorem em_f3 (hp : (p.length : Int) = 0) (hq : (q.length : Int) ≠ 0) (h2 : Txt.endswith y q = false) : false = em x y := by
  rw [em_val hc es, if_pos hp, emL, if_neg hq, h2]; rfl
theorem em_f4 (hp : (p.length : Int) ≠ 0) (h1 : Txt.startswith y p = true) (hq : (q.length : Int) ≠ 0) (h2 : Txt.endswith y q = true) (h3 : (y.length : Int) - (q.length : Int) < (p.length : Int)) : false = em x y := by
  rw [em_val hc es, if_neg hp, if_pos h1, emL, if_neg hq, if_pos h2, if_pos h3]
theorem em_f5 (hp : (p.length : Int) ≠ 0) (h1 : Txt.startswith y p = true) (hq : (q.length : Int) = 0) (h3 : (y.length : Int) < (p.length : Int)) : false = em x y := by
  rw [em_val hc es, if_neg hp, if_pos h1, emL, if_pos hq, if_pos h3]
theorem em_f6 (hp : (p.length : Int) = 0) (hq : (q.length : Int) ≠ 0) (h2 : Txt.endswith y q = true) (h3 : (y.length : Int) - (q.length : Int) < 0) : false = em x y := by
  rw [em_val hc es, if_pos hp, emL, if_neg hq, if_pos h2, if_pos h3]
end
theorem all_mid {x p q : Str} {mid : List (Str × Tok)} (hx : x.length ≤ 1000) (es : Txt.split x dots = p :: (mid.map (·.1) ++ [q])) : (p.length ≤ 1000 ∧ q.length ≤ 1000) ∧ ∀ z ∈ mid, z.1.length ≤ 1000 := by
  have h := split_le x
  rw [es] at h
  refine ⟨⟨Nat.le_trans (h p (by simp)) hx, Nat.le_trans (h q (by simp)) hx⟩, fun z hz => Nat.le_trans (h z.1 ?_) hx⟩
  exact List.mem_cons_of_mem _ (List.mem_append.mpr (.inl (List.mem_map.mpr ⟨z, hz, rfl⟩)))
theorem em_e0 {x y : Str} (h : (Builtin.Str.occurrences x dots 0 x.length 1).isEmpty = true) : (x == y) = em x y := by
  unfold em Txt.contains
  rw [h]; rfl
theorem em_step {y q : Str} {r : List Str} {sp ep : Int} {R : Bool} (h : emLoop y (q :: r) sp ep = R) (hn : ¬ find4 y q sp ep < 0) : emLoop y r (find4 y q sp ep + (q.length : Int)) ep = R := by
  rw [emLoop, if_neg hn] at h; exact h
theorem em_stop {y q : Str} {r : List Str} {sp ep : Int} {R : Bool} (h : emLoop y (q :: r) sp ep = R) (hn : find4 y q sp ep < 0) : false = R := by
  rw [emLoop, if_pos hn] at h; exact h
theorem mid_short {x : Str} {p q : Str} {mid : List (Str × Tok)} (hx : x.length ≤ 1000) (es : Txt.split x dots = p :: (mid.map (·.1) ++ [q])) : mid.length + 2 ≤ 1000 := by
  have hl : ∀ (ps : List Str), 3 * ps.length ≤ (Str.join dots ps).length + 3 := by
    intro ps
    induction ps with
    | nil => simp
    | cons a r ih =>
      cases r with
      | nil => simp
      | cons b r =>
        show 3 * (b :: r).length.succ ≤ (a ++ dots ++ Str.join dots (b :: r)).length + 3
        rw [Str.length_append, Str.length_append, dots_len]
        omega
  have := hl (Txt.split x dots)
  rw [StrLaws.join_split, es] at this
  simp at this
  omega
end Mine
end
section
open PySem PySem.W PyProof.Rows PySem.Calls
set_option maxRecDepth 100000
namespace Mine
theorem strs_snoc {y : Str} {t : Tok} : ∀ {vs : List Value} {ys : List Str}, StrsAre vs ys → StrsAre (vs ++ [.str y t]) (ys ++ [y])
  | _, _, .nil => .cons y t .nil
  | _, _, .cons z u r => .cons z u (strs_snoc r)

section
variable {prog : Program} {w : World} {A : Around} {E : Value → Shared → Prop} {h₀ : Heap} {L : Addr} {m : Str → Option Value} {env : Env} {elt : Expr} {x : Str} {scope : Scope} {cl : List (Str × Addr)} {s : Shared} {S : List (Addr × Obj) → Prop} {P : Nat → Value → Prop} {Fin : List Value → List (Addr × Obj) → Prop} {news : List (Addr × Obj)}

/-- the turns of a comprehension whose element is a text -/
theorem comp_rest {α : Type} {n : Nat} {cs : List α} (g : α → Str) (val : α → Value → Prop) (hn : cs.length = n) (hP : ∀ i v, i < n → P i v → ∃ c, cs[i]? = some c ∧ val c v)
    (turn : ∀ c v I oI C oC D m₂ ys h tk (E' : Value → Shared → Prop), c ∈ cs → val c v → LCg.NsObj oC m₂ → m₂ x = some v → Fr h₀ L h m → News h₀ L h ((I, oI) :: (C, oC) :: (D, LCg.lst ys) :: news) → LCg.Off3 I C D news → ((@Ne Nat I C) ∧ (@Ne Nat I D) ∧ (@Ne Nat C D)) → S news →
      wpAny (model prog w) A (eval elt (compEnvC scope cl C env)) (LCg.CompEnd h₀ L m { s with heap := h, toks := tk } I oI C oC D (LCg.lst ys) S (fun y nw => nw = news ∧ ∃ t, y = .str (g c) t)) E' { s with heap := h, toks := tk })
    (hS : S news) (fin : ∀ ys, StrsAre ys (cs.map g) → Fin ys news) : LCg.CompRest prog w A h₀ L m env elt x scope cl s S P Fin n 0 [] news := by
  have key : ∀ (j i : Nat) (ys : List Value), i + j = n → StrsAre ys ((cs.take i).map g) → LCg.CompRest prog w A h₀ L m env elt x scope cl s S P Fin j i ys news := by
    intro j
    induction j with
    | zero =>
      intro i ys hi hy
      have e : i = cs.length := by omega
      subst e
      rw [List.take_length] at hy
      exact LCg.CompRest.zero (fin ys hy)
    | succ j ih =>
      intro i ys hi hy
      refine LCg.CompRest.succ ?_
      intro v I oI C oC D m₂ h tk E' hv hC hx F N off ne
      obtain ⟨c, hc, hv'⟩ := hP i v (by omega) hv
      refine wpAny_mono (turn c v I oI C oC D m₂ ys h tk E' (List.mem_of_getElem? hc) hv' hC hx F N off ne hS) (fun y s₂ hq => ?_) fun _ _ e => e
      obtain ⟨h', tk', nw, e, F', N', off', hS', hn', t', hy'⟩ := hq
      subst hn'
      refine ⟨h', tk', nw, e, F', N', off', hS', ?_⟩
      rw [hy']
      refine ih (i + 1) _ (by omega) ?_
      rw [List.take_add_one, hc]
      simpa using strs_snoc hy
  exact key n 0 [] (by omega) (by simp only [List.take_zero, List.map_nil]; exact .nil)

/-- where the iterable has come from -/
def Src (val : Value → Prop) (s : Shared) (h₀ : Heap) (L : Addr) (m : Str → Option Value) (news : List (Addr × Obj)) (v : Value) (s₁ : Shared) : Prop :=
  ∃ h' tk', val v ∧ s₁ = { s with heap := h', toks := tk' } ∧ Fr h₀ L h' m ∧ News h₀ L h' news

theorem iter_st {cls : String} {I : Addr} {xt : Str} {tx : Tok} : ∀ i (h h' : Heap) (o : Obj) (nw : List (Addr × Obj)), h.IsStrIter I cls xt tx i → h.get? I = some o → h'.get? I = some o → (∀ b o, h₀.get? b = some o → h'.get? b = some o) → News h₀ L h' nw → True → h'.IsStrIter I cls xt tx i :=
  fun i h h' o nw st e e' _ _ _ => by obtain ⟨o', q, r⟩ := st; rw [e] at q; cases q; exact ⟨o, e', r⟩

/-- a list comprehension over a text, the element a text -/
theorem listcomp_str {iter : Expr} {px : Pos} {pos : Pos} {Q : Value → Shared → Prop} {xt : Str} {tx : Tok} (g : Nat → Str)
    (hclos : closureFor scope env = pure cl) (hcell : ∀ y ∈ scope.names, y.2 ≠ .cell) (hkind : scope.kind = .function)
    (hnames : ∀ y ∈ scope.names, y.2 = .local → scope.names.lookup y.1 = some .local) (hx : scope.names.lookup x = some .local)
    (hs : ∀ x, foldedSetIterable iter env x = pure x) (hh : A.handled = none) (hz : xt.length ≤ sizeLine)
    (h : wpAny (model prog w) A (eval iter env) (Src (fun v => v = .str xt tx) s h₀ L m news) E s)
    (turn : ∀ c t I oI C oC D m₂ ys h tk (E' : Value → Shared → Prop), c ∈ xt.cps.toList → LCg.NsObj oC m₂ → m₂ x = some (.str ⟨#[c]⟩ t) → Fr h₀ L h m → News h₀ L h ((I, oI) :: (C, oC) :: (D, LCg.lst ys) :: news) → LCg.Off3 I C D news → ((@Ne Nat I C) ∧ (@Ne Nat I D) ∧ (@Ne Nat C D)) →
      wpAny (model prog w) A (eval elt (compEnvC scope cl C env)) (LCg.CompEnd h₀ L m { s with heap := h, toks := tk } I oI C oC D (LCg.lst ys) (fun _ => True) (fun y nw => nw = news ∧ ∃ t, y = .str (g c) t)) E' { s with heap := h, toks := tk })
    (fin : ∀ ys D h tk, StrsAre ys (xt.cps.toList.map g) → Fr h₀ L h m → News h₀ L h ((D, LCg.lst ys) :: news) → LCg.Off1 D news → Q (.ref D) { s with heap := h, toks := tk }) :
    wpAny (model prog w) A (eval (.ListComp elt [⟨.Name x px, iter, [], 0⟩] scope pos) env) Q E s := by
  rw [eval_ListComp]
  refine wpAny_comprehension_free (use := none) rfl hs hclos hkind hnames (wpAny_mono h (fun xv s₁ h₁ => ?_) fun _ _ e => e)
  obtain ⟨h1, tk1, rfl, rfl, F, N⟩ := h₁
  have up : ∀ (o : Obj) b o', h1.get? b = some o' → (h1.push o).get? b = some o' := fun o b o' e => Heap.get?_push_of_some _ e
  have main : ∀ (cls : String) (o : Obj), (h1.push o).IsStrIter h1.objs.size cls xt tx 0 → Walks prog w A h1.objs.size [h1.objs.size] [h1.objs.size] xt.cps.size (SignAt xt) (fun i h => h.IsStrIter h1.objs.size cls xt tx i) →
      wpAny (model prog w) A (newList []) (fun acc s₃ => wpAny (model prog w) A (newFunctionEnv scope env.globals cl [] env.qual none .none (some env)) (fun cenv s₄ =>
        codeAny (model prog w) A (.compStart (.ListComp elt [⟨.Name x px, iter, [], 0⟩] scope pos) 0 (.ref h1.objs.size) acc { cenv with scope := relabel scope env }) (compPost (model prog w) A E none Q acc cenv.locals) s₄) E s₃) E { s with heap := h1.push o, toks := tk1 } := by
    intro cls o hst W
    refine LCg.block_U (Fin := LCg.FinE h₀ L m { s with heap := h1.push o, toks := tk1 } Q) (RR := fun acc C => compPost (model prog w) A E none Q acc C) W hz (fun i h st => by obtain ⟨o, e, _⟩ := st; exact ⟨o, e⟩) iter_st hcell hkind hx hst (fun b hb => ?_)
      (F.keeps (up o)) (N.grown (up o)) (Nat.ne_of_lt F.ns.lt) (next_is_new F) (fun p hp => Nat.ne_of_lt (Heap.lt_size (N p hp).1)) (S := fun _ => True) trivial ?_ ?_
    · rw [List.mem_singleton.mp hb]
      show h1.objs.size < (h1.push o).objs.size
      rw [Heap.size_push]; exact Nat.lt_succ_self _
    · refine comp_rest (cs := xt.cps.toList) g (fun c v => ∃ t, v = .str ⟨#[c]⟩ t) (by simp) (fun i v hi hv => ?_) (fun c v I oI C oC D m₂ ys h tk E' hc hv hC hm F' N' off ne _ => ?_) trivial (fun ys hy => ?_)
      · obtain ⟨c, u, e, rfl⟩ := hv
        exact ⟨c, by simpa using e, u, rfl⟩
      · obtain ⟨t, rfl⟩ := hv
        exact turn c t I oI C oC D m₂ ys h tk E' hc hC hm F' N' off ne
      · intro D h tk F' N' o1
        exact fin ys D h tk hy F' N' o1
    · intro D C h tk m' ys news' F' N' o1 hn hC₀ hD₀ hCL hDL hCD offC fin'
      refine ⟨m', hn, fun h'' hs'' => fin' D h'' tk (F'.change hs'' hCL hC₀) (fun p hp => ?_) o1⟩
      refine ⟨hs''.extBut _ _ ?_ (N' p hp).1, (N' p hp).2⟩
      rcases List.mem_cons.mp hp with rfl | hp
      · exact Ne.symm hCD
      · exact offC p hp
  cases ha : xt.cps.all (· < 128)
  · exact wpAny_pyIter_wide ha (main _ _ ⟨_, Heap.get?_push_size _ rfl, rfl, rfl⟩ (Walks.strWide hh _ xt tx))
  · exact wpAny_pyIter_ascii ha (main _ _ ⟨_, Heap.get?_push_size _ rfl, rfl, rfl⟩ (Walks.strAscii hh _ xt tx))
end
end Mine
end
section
open PySem PySem.W PyProof.Rows Builtin Builtin.Str PySem.StrLaws
namespace Mine
/-- the letter of a place -/
def letter (b : Bool) : Nat := if b then 112 else 104
def win (n k : Nat) : List Nat := (List.range k).map fun i => letter (tm (n + i))
theorem win_length (n k : Nat) : (win n k).length = k := by simp [win]
theorem win_get {n k i : Nat} (h : i < k) : (win n k)[i]? = some (letter (tm (n + i))) := by
  unfold win
  rw [List.getElem?_map, List.getElem?_range h]; rfl
theorem win_zero (n : Nat) : win n 0 = [] := rfl
theorem win_succ (n k : Nat) : win n (k + 1) = letter (tm n) :: win (n + 1) k := by
  unfold win
  rw [List.range_succ_eq_map, List.map_cons, List.map_map]
  congr 1
  refine List.map_congr_left fun i _ => ?_
  show letter (tm (n + (i + 1))) = letter (tm (n + 1 + i))
  congr 2; omega
theorem win_drop (n k a : Nat) : (win n k).drop a = win (n + a) (k - a) := by
  induction a generalizing n k with
  | zero => simp
  | succ a ih =>
    cases k with
    | zero => simp [win_zero]
    | succ k =>
      rw [win_succ, List.drop_succ_cons, ih]
      congr 1 <;> omega
theorem win_take (n k b : Nat) (h : b ≤ k) : (win n k).take b = win n b := by
  induction b generalizing n k with
  | zero => simp [win_zero]
  | succ b ih =>
    cases k with
    | zero => omega
    | succ k => rw [win_succ, List.take_succ_cons, ih (n + 1) k (by omega), win_succ]
theorem win_add (n a b : Nat) : win n a ++ win (n + a) b = win n (a + b) := by
  induction a generalizing n with
  | zero => simp [win_zero]
  | succ a ih =>
    rw [win_succ, List.cons_append, show n + (a + 1) = n + 1 + a by omega, ih, show a + 1 + b = (a + b) + 1 by omega, win_succ]

def gr (c : Nat) : Str := if c = 104 then Str.ofString "hp" else Str.ofString "ph"
def grown (x : Str) : Str := Txt.join (Str.ofString "") ((ls x).map gr)
theorem gr_letter (b : Bool) : ls (gr (letter b)) = [letter b, letter (!b)] := by cases b <;> decide +kernel
theorem ls_join_empty : ∀ l : List Str, ls (Str.join (Str.ofString "") l) = (l.map ls).flatten
  | [] => rfl
  | [x] => by simp [Str.join]
  | x :: y :: r => by
    show ls (x ++ Str.ofString "" ++ Str.join (Str.ofString "") (y :: r)) = _
    rw [ls_append, ls_append, ls_join_empty (y :: r)]
    have : ls (Str.ofString "") = [] := by decide +kernel
    rw [this]
    simp
theorem ls_grown (x : Str) : ls (grown x) = ((ls x).map fun c => ls (gr c)).flatten := by
  unfold grown Txt.join
  rw [glued_eq_join, ls_join_empty, List.map_map]
  rfl
theorem grown_win (x : Str) (n k : Nat) (h : ls x = win n k) : ls (grown x) = win (2 * n) (2 * k) := by
  rw [ls_grown, h]
  clear h
  induction k generalizing n with
  | zero => rfl
  | succ k ih =>
    rw [win_succ, List.map_cons, List.flatten_cons, ih, gr_letter, show 2 * (k + 1) = (2 * k + 1) + 1 by omega, win_succ, win_succ, tm_even, tm_odd]
    rw [show 2 * n + 1 + 1 = 2 * (n + 1) by omega]
    rfl
theorem len_of_ls {x : Str} {l : List Nat} (h : ls x = l) : x.length = l.length := by rw [← ls_length, h]
theorem slice_win (x : Str) (n k : Nat) (h : ls x = win n k) (i j : Int) (h0 : 0 ≤ i) (h1 : i ≤ j) (h2 : j ≤ k) : ls (Txt.slice x (some i) (some j)) = win (n + i.toNat) (j - i).toNat := by
  have hl : x.cps.toList.length = k := by
    have := congrArg List.length h
    rw [win_length] at this
    exact this
  have e := sliceText_plain (x := x) (i := i) (j := j) ⟨h0, h1, by rw [hl]; exact h2⟩
  show ls (sliceText x (some i) (some j)) = _
  rw [e]
  show (((ls x).drop i.toNat).take (j - i).toNat) = _
  rw [h, win_drop, win_take _ _ _ (by omega)]
theorem hp_win : ls (Str.ofString "hp") = win 0 2 := by
  rw [show (2 : Nat) = 1 + 1 from rfl, win_succ, win_succ]
  have h0 : tm 0 = false := by unfold tm; rfl
  have h1 : tm (0 + 1) = true := by
    rw [show 0 + 1 = 2 * 0 + 1 from rfl, tm_odd, h0]; rfl
  rw [h0, h1]
  decide +kernel
/-- one step of the descent -/
theorem step_win (x : Str) (n : Nat) (h : ls x = win n 2) (b : Int) (h0 : 0 ≤ b) (h1 : b ≤ 1) : ls (Txt.slice (grown x) (some b) (some (b + 2))) = win (2 * n + b.toNat) 2 := by
  have := slice_win (grown x) (2 * n) (2 * 2) (grown_win x n 2 h) b (b + 2) h0 (by omega) (by omega)
  rw [this]
  congr 1
  omega
end Mine
end
section
open PySem PySem.W PyProof.Rows
set_option maxRecDepth 100000
namespace Mine
/-- the letters of a number to the base 16 -/
def ap (n : Nat) : List UInt8 := if h : n = 0 then [] else ap (n / 16) ++ [UInt8.ofNat (65 + n % 16)]
termination_by n
decreasing_by omega
theorem ap_len : ∀ (k n : Nat), n < 16 ^ k → (ap n).length ≤ k
  | 0, n, h => by
    have : n = 0 := by omega
    subst this
    unfold ap; simp
  | k + 1, n, h => by
    unfold ap
    split
    · simp
    · rw [List.length_append, List.length_singleton]
      have := ap_len k (n / 16) (by rw [Nat.pow_succ] at h; omega)
      omega
abbrev apTab : Array UInt8 := #[65, 66, 67, 68, 69, 70, 71, 72, 73, 74, 75, 76, 77, 78, 79, 80]
theorem ap_tab : ∀ k : Fin 16, KBy.picked apTab (some (k.val : Int)) (some ((k.val : Int) + 1)) = #[UInt8.ofNat (65 + k.val)] := by decide +kernel
theorem ap_pick {x : Int} (h0 : 0 ≤ x) : KBy.picked apTab (some (x.fmod 16)) (some (x.fmod 16 + 1)) = #[UInt8.ofNat (65 + x.toNat % 16)] := by
  rw [Int.fmod_eq_emod_of_nonneg _ (by omega)]
  have := ap_tab ⟨x.toNat % 16, Nat.mod_lt _ (by omega)⟩
  have e : ((x.toNat % 16 : Nat) : Int) = x % 16 := by omega
  rw [← e]
  exact this
def ApInv (n : Int) (k : Int) (v : Array UInt8) : Prop := 0 ≤ k ∧ ap k.toNat ++ v.toList = ap n.natAbs
theorem ap_start (n : Int) (t : Int) (h : t = (n.natAbs : Int)) : ApInv n t #[] := by
  subst h; exact ⟨by omega, by simp⟩
theorem ap_turn {n k : Int} {v : Array UInt8} (h : ApInv n k v) (h1 : k ≠ 0) : ApInv n (k.fdiv 16) (#[UInt8.ofNat (65 + k.toNat % 16)] ++ v) := by
  obtain ⟨h0, e⟩ := h
  rw [Int.fdiv_eq_ediv_of_nonneg _ (by omega)]
  refine ⟨by omega, ?_⟩
  rw [← e]
  conv => rhs; rw [ap, dif_neg (by omega)]
  have e1 : (k / 16).toNat = k.toNat / 16 := by omega
  rw [e1]
  simp
theorem ap_less {n k : Int} {v : Array UInt8} (h : ApInv n k v) (h1 : k ≠ 0) : (k.fdiv 16).toNat < k.toNat := by
  obtain ⟨h0, e⟩ := h
  rw [Int.fdiv_eq_ediv_of_nonneg _ (by omega)]
  omega
theorem ap_end {n k : Int} {v : Array UInt8} (h : ApInv n k v) (h1 : k = 0) : v = (ap n.natAbs).toArray := by
  obtain ⟨h0, e⟩ := h
  subst h1
  rw [← e]
  have : ap (0 : Int).toNat = [] := by unfold ap; simp
  rw [this]; simp
theorem ap_size {n k : Int} {v : Array UInt8} (h : ApInv n k v) (hn : n.natAbs < 2 ^ 100) : v.size ≤ 25 := by
  obtain ⟨h0, e⟩ := h
  have h1 := ap_len 25 n.natAbs (Nat.lt_of_lt_of_le hn (by decide))
  rw [← e, List.length_append] at h1
  exact Nat.le_trans (Nat.le_add_left _ _) h1
end Mine
end
section
open PySem PySem.W PyProof.Rows PySem.Calls
set_option maxRecDepth 100000
namespace Mine
section
variable {prog : Program} {w : World} {A : Around} {E : Value → Shared → Prop} {s : Shared} {env : Env} {h₀ : Heap} {x : Str} {body : List Stmt} {Q : Flow → Shared → Prop}
abbrev tupOf (vs : List Value) : Obj := { cls := .type "tuple", data := .seq vs.toArray }

/-- a for over a tuple of the call's own; the tuple leaves the ledger -/
theorem iter_tuple_st {σ : Type} {D : Addr} {vs : List Value} {m₀ : Str → Option Value} {led news : List (Addr × Obj)}
    (Ms : σ → Str → Option Value) (junk : List Str) (Inv : Nat → σ → Prop) (c₀ : σ)
    (hh : A.handled = none) (F : Fr h₀ env.locals s.heap m₀) (N₀ : News h₀ env.locals s.heap led) (hsub : ∀ p ∈ (D, tupOf vs) :: news, p ∈ led) (hap : ∀ p ∈ news, p.1 ≠ D)
    (h0 : ∀ z, z ≠ x → junk.contains z = false → m₀ z = Ms c₀ z) (hi : Inv 0 c₀)
    (turn : ∀ i v (c : σ) u h tk own, vs[i]? = some v → OwnOff own (news.map (·.1)) → Inv i c → Fr h₀ env.locals h (fun y => if y = x then some v else frMap Ms junk u c y) → News h₀ env.locals h (news ++ own) →
      wpAny (model prog w) A (execs body env) (StPost h₀ env.locals x Ms junk (Inv (i + 1)) (news ++ own) Q { s with heap := h, toks := tk }) E { s with heap := h, toks := tk })
    (done : ∀ (c : σ) u h tk, Inv vs.length c → Fr h₀ env.locals h (fun y => if y = x then u y else frMap Ms junk u c y) → News h₀ env.locals h news → Q .next { s with heap := h, toks := tk }) :
    wpAny (model prog w) A (pyIter (.ref D)) (fun it s₂ => LoopAtV prog w A h₀ env x body Q E it s₂) E s := by
  have zD := N₀ _ (hsub _ (.head _))
  have N : News h₀ env.locals s.heap news := fun p hp => N₀ p (hsub p (.tail _ hp))
  have hol : s.heap.get? D = some (tupOf vs) := zD.1
  have hls : IsTup s.heap D vs.toArray := ⟨_, hol, rfl, 0, rfl⟩
  have hne : D ≠ s.heap.objs.size := Nat.ne_of_lt (Heap.lt_size hol)
  refine wpAny_pyIter_tuple hls ?_
  have W := Walks.tuple (prog := prog) (w := w) hh s.heap.objs.size D hne vs.toArray
  rw [List.size_toArray] at W
  refine loop_st (s := { s with heap := _ }) Ms junk Inv c₀ W ?_ ?_ ?_ ?_ ⟨⟨_, Heap.get?_push_size _ rfl, rfl, rfl⟩, hls.push _⟩ (F.push _) (fun p hp => ⟨Heap.get?_push_of_some _ (N p hp).1, (N p hp).2⟩) h0 hi ?_ ?_
  · intro hm
    rcases List.mem_cons.mp hm with e | hm
    · exact absurd F.ns.lt (e ▸ Nat.lt_irrefl _)
    · exact zD.2.1 ((List.mem_singleton.mp hm).symm)
  · intro b hb
    rw [List.mem_singleton.mp hb]
    exact next_is_new F
  · intro p hp hI
    exact absurd (Heap.lt_size (N p hp).1) ((List.mem_singleton.mp hI) ▸ Nat.lt_irrefl _)
  · intro p hp hI
    rcases List.mem_cons.mp hI with e | hI
    · exact absurd (Heap.lt_size (N p hp).1) (e ▸ Nat.lt_irrefl _)
    · exact hap p hp (List.mem_singleton.mp hI)
  · intro i v c u h tk own hin hP hoff hc F₁ N₁
    exact turn i v c u h tk own (by simpa using hP) hoff hc F₁ N₁
  · intro c u h tk hc F₁ N₁
    exact done c u h tk hc F₁ N₁

/-- the number that four figures build -/
theorem fig_sum (d m : Nat) (hd : d < 16) : 2 * (2 * (2 * (2 * m + d / 8 % 2) + d / 4 % 2) + d / 2 % 2) + d / 1 % 2 = 16 * m + d := by omega

def figK (m d : Nat) : Nat → Nat
  | 0 => m
  | 1 => 2 * m + d / 8 % 2
  | 2 => 2 * (2 * m + d / 8 % 2) + d / 4 % 2
  | 3 => 2 * (2 * (2 * m + d / 8 % 2) + d / 4 % 2) + d / 2 % 2
  | _ => 2 * (2 * (2 * (2 * m + d / 8 % 2) + d / 4 % 2) + d / 2 % 2) + d / 1 % 2

theorem fig_iter {D : Addr} {t1 t2 t3 t4 t0 : Tok} {m₀ : Str → Option Value} {led news : List (Addr × Obj)} {d m : Nat} {l0 : Str} (hd : d < 16) (hl : ls l0 = win m 2)
    (hh : A.handled = none) (F : Fr h₀ env.locals s.heap m₀) (N₀ : News h₀ env.locals s.heap led) (hsub : ∀ p ∈ (D, tupOf [.int 8 t1, .int 4 t2, .int 2 t3, .int 1 t4]) :: news, p ∈ led) (hap : ∀ p ∈ news, p.1 ≠ D)
    (h0 : m₀ (Str.ofString "letters") = some (.str l0 t0))
    (turn : ∀ (f : Int) tf (l : Str) tl (k : Nat) (u : Str → Option Value) h tk own, (f = 8 ∨ f = 4 ∨ f = 2 ∨ f = 1) → ls l = win k 2 →
      Fr h₀ env.locals h (fun z => if z = Str.ofString "figure" then some (.int f tf) else if z = Str.ofString "bit" then u z else if z = Str.ofString "letters" then some (.str l tl) else m₀ z) → News h₀ env.locals h (news ++ own) →
      wpAny (model prog w) A (execs body env) (StPost h₀ env.locals (Str.ofString "figure") (fun (c : Str × Tok) z => if z = Str.ofString "letters" then some (.str c.1 c.2) else m₀ z) [Str.ofString "bit"] (fun c => ls c.1 = win (2 * k + d / f.toNat % 2) 2) (news ++ own) Q { s with heap := h, toks := tk }) E { s with heap := h, toks := tk })
    (done : ∀ (l : Str) tl (u : Str → Option Value) h tk, ls l = win (16 * m + d) 2 →
      Fr h₀ env.locals h (fun z => if z = Str.ofString "figure" then u z else if z = Str.ofString "bit" then u z else if z = Str.ofString "letters" then some (.str l tl) else m₀ z) → News h₀ env.locals h news → Q .next { s with heap := h, toks := tk }) :
    wpAny (model prog w) A (pyIter (.ref D)) (fun it s₂ => LoopAtV prog w A h₀ env (Str.ofString "figure") body Q E it s₂) E s := by
  have em : ∀ (u : Str → Option Value) (c : Str × Tok), frMap (fun (c : Str × Tok) z => if z = Str.ofString "letters" then some (Value.str c.1 c.2) else m₀ z) [Str.ofString "bit"] u c =
      fun z => if z = Str.ofString "bit" then u z else if z = Str.ofString "letters" then some (.str c.1 c.2) else m₀ z := by
    intro u c
    funext z
    unfold frMap
    by_cases hz : z = Str.ofString "bit"
    · simp [hz]
    · rw [if_neg hz, if_neg (by simpa using hz)]
  refine iter_tuple_st (x := Str.ofString "figure") (σ := Str × Tok) (fun c z => if z = Str.ofString "letters" then some (.str c.1 c.2) else m₀ z) [Str.ofString "bit"] (fun i c => ls c.1 = win (figK m d i) 2) (l0, t0) hh F N₀ hsub hap ?_ hl ?_ ?_
  · intro z _ _
    by_cases hz : z = Str.ofString "letters"
    · rw [if_pos hz, hz, h0]
    · rw [if_neg hz]
  · intro i v c u h tk own hv _ hc F₁ N₁
    rw [em] at F₁
    match i with
    | 0 =>
      cases hv
      exact turn 8 t1 c.1 c.2 _ u h tk own (by simp) hc F₁ N₁
    | 1 =>
      cases hv
      exact turn 4 t2 c.1 c.2 _ u h tk own (by simp) hc F₁ N₁
    | 2 =>
      cases hv
      exact turn 2 t3 c.1 c.2 _ u h tk own (by simp) hc F₁ N₁
    | 3 =>
      cases hv
      exact turn 1 t4 c.1 c.2 _ u h tk own (by simp) hc F₁ N₁
    | i + 4 => cases hv
  · intro c u h tk hc F₁ N₁
    rw [em] at F₁
    have hc' : ls c.1 = win (16 * m + d) 2 := by rw [← fig_sum d m hd]; exact hc
    exact done c.1 c.2 u h tk hc' F₁ N₁
end
end Mine
namespace Mine
theorem allLt_ne {d : Addr} : ∀ {l : List (Addr × Obj)}, AllLt d l → ∀ p ∈ l, p.1 ≠ d
  | [], _, _, h => nomatch h
  | q :: r, h, p, hp => by
    rcases List.mem_cons.mp hp with rfl | hp
    · exact Nat.ne_of_lt h.1
    · exact allLt_ne h.2 p hp
end Mine
end
section
open PySem PySem.W PyProof.Rows
namespace Mine
def PlaceInv (pre : List Int) (p : Int) : Prop := 11 * 1024 ^ pre.length ≤ p ∧ p < 12 * 1024 ^ pre.length
theorem place_start : PlaceInv [] 11 := by unfold PlaceInv; simp
theorem place_turn {pre : List Int} {p x : Int} (h : PlaceInv pre p) : PlaceInv (pre ++ [x]) (p * 1024 + x.fmod 1024) := by
  unfold PlaceInv at *
  rw [List.length_append, List.length_singleton, Int.pow_succ, Int.fmod_eq_emod_of_nonneg _ (by omega)]
  generalize (1024 : Int) ^ pre.length = q at *
  omega
/-- the place is a number of at most 54 binary figures -/
theorem place_end {ns : List Int} {p : Int} (h : PlaceInv (ns.take 5) p) : 11 ≤ p ∧ p < 2 ^ 54 := by
  unfold PlaceInv at h
  have hl : (ns.take 5).length ≤ 5 := by rw [List.length_take]; omega
  generalize (ns.take 5).length = k at *
  match k with
  | 0 => simp at h; omega
  | 1 => simp at h; omega
  | 2 => simp at h; omega
  | 3 => simp at h; omega
  | 4 => simp at h; omega
  | 5 => simp at h; omega
  | k + 6 => omega
/-- the number that goes to Int2AP -/
theorem place_abs {p : Int} (h : 0 ≤ p) : (p.fdiv 32 * (1 - p.fmod 2 * 2)).natAbs = p.toNat / 32 := by
  rw [Int.fdiv_eq_ediv_of_nonneg _ (by omega), Int.fmod_eq_emod_of_nonneg _ (by omega)]
  rcases (by omega : p % 2 = 0 ∨ p % 2 = 1) with e | e <;> rw [e]
  · simp; omega
  · simp; omega
def apv (pre : List Int) : Int := pre.foldl (fun a c => a * 16 + c - 65) 0
theorem apv_snoc (pre : List Int) (c : Int) : apv (pre ++ [c]) = apv pre * 16 + c - 65 := by simp [apv]
def LetInv (pre : List Int) (l : Str) (k : Int) : Prop := k = apv pre ∧ 0 ≤ k ∧ ls l = win k.toNat 2
theorem let_start : LetInv [] (Str.ofString "hp") 0 := ⟨rfl, by omega, hp_win⟩
theorem let_turn {pre : List Int} {l l' : Str} {k c : Int} (h : LetInv pre l k) (hc : 65 ≤ c ∧ c ≤ 80) (hl : ls l' = win (16 * k.toNat + (c - 65).toNat) 2) : LetInv (pre ++ [c]) l' (k * 16 + c - 65) := by
  obtain ⟨h1, h2, h3⟩ := h
  refine ⟨by rw [apv_snoc, h1], by omega, ?_⟩
  rw [hl]
  congr 1
  omega
/-- Int2AP's letters as numbers -/
abbrev codesOf (n : Nat) : List Int := (ap n).map fun c => (c.toNat : Int)
theorem ap_codes (n : Nat) : apv (codesOf n) = n ∧ ∀ c ∈ codesOf n, 65 ≤ c ∧ c ≤ 80 := by
  induction n using Nat.strongRecOn with
  | ind n ih =>
    unfold codesOf
    rw [ap]
    split
    · rename_i h
      subst h
      simp [apv]
    · obtain ⟨h1, h2⟩ := ih (n / 16) (by omega)
      have e : (UInt8.ofNat (65 + n % 16)).toNat = 65 + n % 16 := by
        rw [UInt8.toNat_ofNat']
        omega
      rw [List.map_append, List.map_singleton, apv_snoc, e]
      refine ⟨?_, fun c hc => ?_⟩
      · have : apv (List.map (fun c => (c.toNat : Int)) (ap (n / 16))) = ((n / 16 : Nat) : Int) := h1
        rw [this]
        omega
      · rcases List.mem_append.mp hc with hc | hc
        · exact h2 c hc
        · rw [List.mem_singleton.mp hc]
          omega
theorem octet_in {n : Nat} {pre post : List Int} {c : Int} (h : codesOf n = pre ++ c :: post) : 65 ≤ c ∧ c ≤ 80 :=
  (ap_codes n).2 c (by rw [h]; simp)
theorem let_end {n : Nat} {l : Str} {k : Int} (h : LetInv (codesOf n) l k) : k = n ∧ ls l = win n 2 := by
  obtain ⟨h1, _, h3⟩ := h
  rw [(ap_codes n).1] at h1
  subst h1
  exact ⟨rfl, by simpa using h3⟩
theorem bit_in (x : Int) : 0 ≤ x.fmod 2 ∧ x.fmod 2 ≤ 1 := by
  rw [Int.fmod_eq_emod_of_nonneg _ (by omega)]
  omega
theorem bit_of {c f : Int} (hc : 65 ≤ c ∧ c ≤ 80) (hf : f = 8 ∨ f = 4 ∨ f = 2 ∨ f = 1) : (((c - 65).fdiv f).fmod 2).toNat = (c - 65).toNat / f.toNat % 2 := by
  rw [Int.fmod_eq_emod_of_nonneg _ (by omega), Int.fdiv_eq_ediv_of_nonneg _ (by omega)]
  have e8 : (8 : Int).toNat = 8 := rfl
  have e4 : (4 : Int).toNat = 4 := rfl
  have e2 : (2 : Int).toNat = 2 := rfl
  have e1 : (1 : Int).toNat = 1 := rfl
  rcases hf with rfl | rfl | rfl | rfl
  · rw [e8]; omega
  · rw [e4]; omega
  · rw [e2]; omega
  · rw [e1]; omega
theorem fig_step {l : Str} {k : Nat} {c f : Int} (h : ls l = win k 2) (hc : 65 ≤ c ∧ c ≤ 80) (hf : f = 8 ∨ f = 4 ∨ f = 2 ∨ f = 1) :
    ls (Txt.slice (grown l) (some (((c - 65).fdiv f).fmod 2)) (some (((c - 65).fdiv f).fmod 2 + 2))) = win (2 * k + (c - 65).toNat / f.toNat % 2) 2 := by
  rw [step_win l k h _ (bit_in _).1 (bit_in _).2, bit_of hc hf]
theorem ap_head (n : Nat) : (codesOf n).head? ≠ some 65 := by
  induction n using Nat.strongRecOn with
  | ind n ih =>
    unfold codesOf
    rw [ap]
    split
    · simp
    · rename_i h
      by_cases h0 : n / 16 = 0
      · rw [h0, ap, dif_pos rfl]
        have e : (UInt8.ofNat (65 + n % 16)).toNat = 65 + n % 16 := by
          rw [UInt8.toNat_ofNat']
          omega
        simp only [List.nil_append, List.map_cons, List.map_nil, List.head?_cons, e]
        intro h2
        injection h2 with h2
        omega
      · have := ih (n / 16) (by omega)
        have hne : ap (n / 16) ≠ [] := by
          rw [ap, dif_neg h0]; simp
        rw [List.map_append, List.head?_append]
        unfold codesOf at this
        cases hh : (ap (n / 16)).map (fun c => (c.toNat : Int)) with
        | nil => simp at hh; exact absurd hh hne
        | cons a r => rw [hh] at this; simpa using this
theorem ap_first {n : Nat} {p : Array UInt8} {j : Nat} (h : KBw.bInts p = ((KBw.bInts (ap n).toArray).drop 0).take j) : p ≠ #[65] := by
  intro e
  subst e
  have hc : KBw.bInts (ap n).toArray = codesOf n := rfl
  rw [hc] at h
  have e65 : KBw.bInts #[65] = [65] := rfl
  rw [e65, List.drop_zero] at h
  have := ap_head n
  match hh : codesOf n, j with
  | [], _ => rw [hh] at h; simp at h
  | c :: r, 0 => rw [hh] at h; simp at h
  | c :: r, j + 1 =>
    rw [hh] at h this
    simp at h this
    exact this h.1.symm
theorem ap_room {n : Nat} (h : n < 2 ^ 100) : (KBw.bInts (ap n).toArray).length ≤ 16777216 := by
  have hc : KBw.bInts (ap n).toArray = codesOf n := rfl
  rw [hc]
  unfold codesOf
  rw [List.length_map]
  have := ap_len 25 n (by omega)
  omega
/-- what stands behind Int2AP's letters -/
theorem number_ok {p k : Int} {ns : List Int} {l : Str} (hp : PlaceInv (ns.take 5) p) (h : LetInv (codesOf (p.fdiv 32 * (1 - p.fmod 2 * 2)).natAbs) l k) : k = p.fdiv 32 ∧ ls l = win (p.toNat / 32) 2 := by
  have h0 := place_end hp
  rw [place_abs (by omega)] at h
  obtain ⟨h1, h2⟩ := let_end h
  refine ⟨?_, h2⟩
  rw [Int.fdiv_eq_ediv_of_nonneg _ (by omega)]
  omega
/-- the five growings -/
def GrowInv (p : Int) (pre : List Int) (l : Str) : Prop := ls l = win (p.toNat / 32 * 2 ^ pre.length) (2 * 2 ^ pre.length)
theorem grow_start {p : Int} {l : Str} (h : ls l = win (p.toNat / 32) 2) : GrowInv p [] l := by
  unfold GrowInv; simpa using h
theorem grow_turn {p x : Int} {pre : List Int} {l : Str} (h : GrowInv p pre l) : GrowInv p (pre ++ [x]) (grown l) := by
  unfold GrowInv at *
  rw [grown_win _ _ _ h, List.length_append, List.length_singleton, Nat.pow_succ]
  congr 1 <;> simp only [Nat.mul_comm, Nat.mul_left_comm, Nat.mul_assoc]
theorem grow_pre {p : Int} {pre : List Int} {l : Str} (h : GrowInv p pre l) (hl : pre.length < 5) : l.length ≤ 64 := by
  rw [len_of_ls h, win_length]
  have : pre.length ≤ 4 := by omega
  have := Nat.pow_le_pow_right (n := 2) (by omega) this
  omega
theorem grow_end {p : Int} {pre : List Int} {l : Str} (h : GrowInv p pre l) (hl : pre.length = 5) : ls l = win (p.toNat / 32 * 32) 64 := by
  unfold GrowInv at h
  rw [hl] at h
  exact h
end Mine
end
section
open PySem PySem.W PyProof.Rows
set_option maxRecDepth 100000
namespace Mine
theorem win_room {x : Str} {n k : Nat} (hx : ls x = win n k) (hk : k ≤ 1000) : x.length ≤ sizeLine := by
  rw [len_of_ls hx, win_length, sizeLine_eq]; omega
theorem win_whole {x : Str} {n k : Nat} (hx : ls x = win n k) : (x.length : Int) = k := by
  rw [len_of_ls hx, win_length]
section
variable {prog : Program} {w : World} {A : Around} {E : Value → Shared → Prop} {s : Shared} {value slice : Expr} {x : Str} {t : Tok} {h₀ : Heap} {L : Addr} {m : Str → Option Value} {Q : Value → Shared → Prop} {news : List (Addr × Obj)} {n k : Nat}
theorem sl_ss {i j : Int} {ui uj : Tok} (hx : ls x = win n k) (hk : k ≤ 1000) (hb : 0 ≤ i ∧ i ≤ j ∧ j ≤ k) (hF : Fr h₀ L s.heap m) (hN : News h₀ L s.heap news)
    (h : ∀ z h' t' tk, ls z = win (n + i.toNat) (j - i).toNat → Fr h₀ L h' m → News h₀ L h' news → Q (.str z t') { s with heap := h', toks := tk })
    (hs : subscripted slice false (.str x t) (.ref s.heap.objs.size) = operate [.ref s.heap.objs.size, .str x t] (getItem (.str x t) (.ref s.heap.objs.size)) := by with_unfolding_all rfl)
    (ht : ∀ r, letTemporaryGo value (.str x t) r = pure () := by intro _; with_unfolding_all rfl) :
    wpAny (model prog w) A (subscriptTail value slice (.str x t) (.ref s.heap.objs.size)) Q E { s with heap := s.heap.push { cls := .type "slice", data := .fields #[.int i ui, .int j uj, .none] } } :=
  slice_strN_ss hF hN (fun h' t' tk F N => h _ h' t' tk (slice_win x n k hx i j hb.1 hb.2.1 hb.2.2) F N) hs ht (win_room hx hk)
theorem sliceText_ns {x : Str} {j : Int} : Txt.slice x none (some j) = Txt.slice x (some 0) (some j) := by
  show StrLaws.sliceText _ _ _ = StrLaws.sliceText _ _ _
  unfold StrLaws.sliceText
  rw [StrLaws.sliceIdx_none_lo]
theorem sl_ns {j : Int} {uj : Tok} (hx : ls x = win n k) (hk : k ≤ 1000) (hb : 0 ≤ j ∧ j ≤ k) (hF : Fr h₀ L s.heap m) (hN : News h₀ L s.heap news)
    (h : ∀ z h' t' tk, ls z = win n j.toNat → Fr h₀ L h' m → News h₀ L h' news → Q (.str z t') { s with heap := h', toks := tk })
    (hs : subscripted slice false (.str x t) (.ref s.heap.objs.size) = operate [.ref s.heap.objs.size, .str x t] (getItem (.str x t) (.ref s.heap.objs.size)) := by with_unfolding_all rfl)
    (ht : ∀ r, letTemporaryGo value (.str x t) r = pure () := by intro _; with_unfolding_all rfl) :
    wpAny (model prog w) A (subscriptTail value slice (.str x t) (.ref s.heap.objs.size)) Q E { s with heap := s.heap.push { cls := .type "slice", data := .fields #[.none, .int j uj, .none] } } :=
  slice_strN_ns hF hN (fun h' t' tk F N => h _ h' t' tk (by rw [sliceText_ns, slice_win x n k hx 0 j (Int.le_refl 0) hb.1 hb.2]; simp) F N) hs ht (win_room hx hk)
theorem sl_sn {i : Int} {ui : Tok} (hx : ls x = win n k) (hk : k ≤ 1000) (hb : 0 ≤ i ∧ i ≤ k) (hF : Fr h₀ L s.heap m) (hN : News h₀ L s.heap news)
    (h : ∀ z h' t' tk, ls z = win (n + i.toNat) (k - i).toNat → Fr h₀ L h' m → News h₀ L h' news → Q (.str z t') { s with heap := h', toks := tk })
    (hs : subscripted slice false (.str x t) (.ref s.heap.objs.size) = operate [.ref s.heap.objs.size, .str x t] (getItem (.str x t) (.ref s.heap.objs.size)) := by with_unfolding_all rfl)
    (ht : ∀ r, letTemporaryGo value (.str x t) r = pure () := by intro _; with_unfolding_all rfl) :
    wpAny (model prog w) A (subscriptTail value slice (.str x t) (.ref s.heap.objs.size)) Q E { s with heap := s.heap.push { cls := .type "slice", data := .fields #[.int i ui, .none, .none] } } :=
  slice_strN_sn hF hN (fun h' t' tk F N => h _ h' t' tk (by
    have e : Txt.slice x (some i) none = Txt.slice x (some i) (some (k : Int)) := by
      rw [← win_whole hx]
      show StrLaws.sliceText _ _ _ = StrLaws.sliceText _ _ _
      unfold StrLaws.sliceText
      rw [StrLaws.sliceIdx_none_hi]
    rw [e, slice_win x n k hx i k hb.1 hb.2 (Int.le_refl _)]) F N) hs ht (win_room hx hk)
end
def sign (b : Bool) : Str := if b then Str.ofString "p" else Str.ofString "h"
theorem sign_letter : ∀ b : Bool, (⟨#[letter b]⟩ : Str) = sign b := by decide +kernel
theorem sign_h (b : Bool) : (sign b == Str.ofString "h") = !b := by cases b <;> decide +kernel
theorem item_win {x : Str} {n k : Nat} (hx : ls x = win n k) (hk : 0 < k) : Txt.item x 0 = sign (tm n) := by
  have h0 : x.cps[0]? = some (letter (tm n)) := by
    have := win_get (n := n) hk
    rw [← hx] at this
    simpa [ls] using this
  have hl : x.length = k := by rw [len_of_ls hx, win_length]
  have : Txt.charAt x 0 = some (letter (tm n)) := by
    unfold Txt.charAt seqIndex?
    simp [hl, hk, h0]
  unfold Txt.item
  rw [this, Option.getD_some, sign_letter]
section
variable {prog : Program} {w : World} {A : Around} {E : Value → Shared → Prop} {s : Shared} {value slice : Expr} {x : Str} {t : Tok} {Q : Value → Shared → Prop} {n k : Nat}
theorem it_win {u : Tok} (hx : ls x = win n k) (hk : 0 < k) (h : Q (.str (sign (tm n)) s.toks) { s with toks := s.toks + 1 })
    (hs : subscripted slice false (.str x t) (.int 0 u) = operate [.str x t, .int 0 u] (getItem (.str x t) (.int 0 u)) := by with_unfolding_all rfl)
    (ht : ∀ r, letTemporaryGo value (.str x t) r = pure () := by intro _; with_unfolding_all rfl) :
    wpAny (model prog w) A (subscriptTail value slice (.str x t) (.int 0 u)) Q E s :=
  have hl : x.length = k := by rw [len_of_ls hx, win_length]
  item_str (by decide) (by omega) (by omega) (fun _ => by rw [item_win hx hk]; exact h) hs ht
end
end Mine
end
section
open PySem PySem.W PyProof.Rows PySem.Calls
set_option maxRecDepth 100000
namespace Mine
section
variable {prog : Program} {w : World} {A : Around} {E : Value → Shared → Prop} {s : Shared} {env : Env} {h₀ : Heap} {x : Str} {body : List Stmt} {Q : Flow → Shared → Prop}
theorem iter_range_st {σ : Type} {r : Addr} {a₀ b₀ : Int} {t₀ u₀ v₀ : Tok} {n : Nat} {m₀ : Str → Option Value} {news : List (Addr × Obj)}
    (Ms : σ → Str → Option Value) (junk : List Str) (Inv : Nat → σ → Prop) (c₀ : σ)
    (hh : A.handled = none) (hr : IsRange s.heap r a₀ b₀ 1 t₀ u₀ v₀) (hsmall : Builtin.Range.small a₀ b₀ 1 = true) (hn : Builtin.Range.rangeSize a₀ b₀ 1 = (n : Int)) (F : Fr h₀ env.locals s.heap m₀) (N : News h₀ env.locals s.heap news)
    (h0 : ∀ z, z ≠ x → junk.contains z = false → m₀ z = Ms c₀ z) (hi : Inv 0 c₀)
    (turn : ∀ i t (c : σ) u h tk own, i < n → Inv i c → Fr h₀ env.locals h (fun y => if y = x then some (.int (a₀ + (i : Int)) t) else frMap Ms junk u c y) → News h₀ env.locals h (news ++ own) →
      wpAny (model prog w) A (execs body env) (StPost h₀ env.locals x Ms junk (Inv (i + 1)) (news ++ own) Q { s with heap := h, toks := tk }) E { s with heap := h, toks := tk })
    (done : ∀ (c : σ) u h tk, Inv n c → Fr h₀ env.locals h (fun y => if y = x then u y else frMap Ms junk u c y) → News h₀ env.locals h news → Q .next { s with heap := h, toks := tk }) :
    wpAny (model prog w) A (pyIter (.ref r)) (fun it s₂ => LoopAtV prog w A h₀ env x body Q E it s₂) E s := by
  refine wpAny_pyIter_range hr hsmall ?_
  have W : Walks prog w A s.heap.objs.size [s.heap.objs.size] [s.heap.objs.size] n (fun i v => i < n ∧ ∃ t, v = .int (a₀ + i * 1) t)
      (fun i h => IsRangeIter h s.heap.objs.size (a₀ + (i : Nat) * 1) ((n : Int) - (i : Nat)) 1) := (Walks.range hh _ a₀ 1 n).bound
  refine loop_st (s := { s with heap := _ }) Ms junk Inv c₀ W ?_ ?_ ?_ ?_ (by show IsRangeIter _ _ _ _ _; rw [hn]; simpa using Heap.get?_push_size _ rfl) (F.push _) (fun p hp => ⟨Heap.get?_push_of_some _ (N p hp).1, (N p hp).2⟩) h0 hi ?_ ?_
  · intro hm
    exact absurd F.ns.lt ((List.mem_singleton.mp hm) ▸ Nat.lt_irrefl _)
  · intro b hb
    rw [List.mem_singleton.mp hb]
    exact next_is_new F
  · intro p hp hI
    exact absurd (Heap.lt_size (N p hp).1) ((List.mem_singleton.mp hI) ▸ Nat.lt_irrefl _)
  · intro p hp hI
    exact absurd (Heap.lt_size (N p hp).1) ((List.mem_singleton.mp hI) ▸ Nat.lt_irrefl _)
  · rintro i v c u h tk own hi ⟨_, t, rfl⟩ _ hc F' N'
    simp only [Int.mul_one] at F'
    exact turn i t c u h tk own hi hc F' N'
  · intro c u h tk hc F₁ N₁
    exact done c u h tk hc F₁ N₁

/-- a range whose turns leave nothing behind but spent names -/
theorem iter_range_junk {r : Addr} {a₀ b₀ : Int} {t₀ u₀ v₀ : Tok} {n : Nat} {m₀ : Str → Option Value} {news : List (Addr × Obj)} (junk : List Str)
    (hh : A.handled = none) (hr : IsRange s.heap r a₀ b₀ 1 t₀ u₀ v₀) (hsmall : Builtin.Range.small a₀ b₀ 1 = true) (hn : Builtin.Range.rangeSize a₀ b₀ 1 = (n : Int)) (F : Fr h₀ env.locals s.heap m₀) (N : News h₀ env.locals s.heap news)
    (turn : ∀ (k : Int) t (u : Str → Option Value) h tk own, a₀ ≤ k ∧ k < a₀ + n → Fr h₀ env.locals h (fun z => if z = x then some (.int k t) else if junk.contains z then u z else m₀ z) → News h₀ env.locals h (news ++ own) →
      wpAny (model prog w) A (execs body env) (StPost h₀ env.locals x (fun (_ : Unit) => m₀) junk (fun _ => True) (news ++ own) Q { s with heap := h, toks := tk }) E { s with heap := h, toks := tk })
    (done : ∀ (u : Str → Option Value) h tk, Fr h₀ env.locals h (fun z => if z = x then u z else if junk.contains z then u z else m₀ z) → News h₀ env.locals h news → Q .next { s with heap := h, toks := tk }) :
    wpAny (model prog w) A (pyIter (.ref r)) (fun it s₂ => LoopAtV prog w A h₀ env x body Q E it s₂) E s :=
  iter_range_st (σ := Unit) (fun _ => m₀) junk (fun _ _ => True) () hh hr hsmall hn F N (fun _ _ _ => rfl) trivial
    (fun i t _ u h tk own hi _ F' N' => turn (a₀ + (i : Int)) t u h tk own ⟨by omega, by omega⟩ F' N') (fun _ u h tk _ F' N' => done u h tk F' N')

/-- a range whose turns turn one text -/
theorem iter_range_text {r : Addr} {a₀ b₀ : Int} {t₀ u₀ v₀ : Tok} {n : Nat} {m₀ : Str → Option Value} {news : List (Addr × Obj)} (y : Str) (Inv : Nat → Str → Prop) {l₀ : Str} {tl : Tok} 
    (hh : A.handled = none) (hr : IsRange s.heap r a₀ b₀ 1 t₀ u₀ v₀) (hsmall : Builtin.Range.small a₀ b₀ 1 = true) (hn : Builtin.Range.rangeSize a₀ b₀ 1 = (n : Int)) (F : Fr h₀ env.locals s.heap m₀) (N : News h₀ env.locals s.heap news)
    (h0 : m₀ y = some (.str l₀ tl)) (hi : Inv 0 l₀)
    (turn : ∀ i (k : Int) t l tl (u : Str → Option Value) h tk own, i < n → Inv i l → Fr h₀ env.locals h (fun z => if z = x then some (.int k t) else if ([] : List Str).contains z then u z else if z = y then some (.str l tl) else m₀ z) → News h₀ env.locals h (news ++ own) →
      wpAny (model prog w) A (execs body env) (StPost h₀ env.locals x (fun (c : Str × Tok) z => if z = y then some (.str c.1 c.2) else m₀ z) [] (fun c => Inv (i + 1) c.1) (news ++ own) Q { s with heap := h, toks := tk }) E { s with heap := h, toks := tk })
    (done : ∀ l tl (u : Str → Option Value) h tk, Inv n l → Fr h₀ env.locals h (fun z => if z = x then u z else if ([] : List Str).contains z then u z else if z = y then some (.str l tl) else m₀ z) → News h₀ env.locals h news → Q .next { s with heap := h, toks := tk }) :
    wpAny (model prog w) A (pyIter (.ref r)) (fun it s₂ => LoopAtV prog w A h₀ env x body Q E it s₂) E s :=
  iter_range_st (σ := Str × Tok) (fun c z => if z = y then some (.str c.1 c.2) else m₀ z) [] (fun i c => Inv i c.1) (l₀, tl) hh hr hsmall hn F N
    (fun z _ _ => by by_cases hz : z = y; · rw [if_pos hz, hz, h0]
                     · rw [if_neg hz]) hi
    (fun i t c u h tk own hi hc F' N' => turn i _ t c.1 c.2 u h tk own hi hc F' N') (fun c u h tk hc F' N' => done c.1 c.2 u h tk hc F' N')
end
end Mine
end
section
open PySem PySem.W PyProof.Rows
namespace Mine
def GrowN (p : Int) (i : Nat) (l : Str) : Prop := ls l = win (p.toNat / 32 * 2 ^ i) (2 * 2 ^ i)
theorem growN_start {p : Int} {l : Str} (h : ls l = win (p.toNat / 32) 2) : GrowN p 0 l := by
  unfold GrowN; simpa using h
theorem growN_turn {p : Int} {i : Nat} {l : Str} (h : GrowN p i l) : GrowN p (i + 1) (grown l) := by
  unfold GrowN at *
  rw [grown_win _ _ _ h, Nat.pow_succ]
  congr 1 <;> simp only [Nat.mul_comm, Nat.mul_assoc, Nat.mul_left_comm]
theorem growN_pre {p : Int} {i : Nat} {l : Str} (h : GrowN p i l) (hl : i < 5) : l.length ≤ 64 := by
  unfold GrowN at h
  rw [len_of_ls h, win_length]
  have : i ≤ 4 := by omega
  have := Nat.pow_le_pow_right (n := 2) (by omega) this
  omega
theorem growN_end {p : Int} {l : Str} (h : GrowN p 5 l) : ls l = win (p.toNat / 32 * 32) 64 := h
theorem mod32 (p : Int) : 0 ≤ p.fmod 32 ∧ p.fmod 32 ≤ p.fmod 32 + 24 ∧ p.fmod 32 + 24 ≤ (64 : Nat) := by
  rw [Int.fmod_eq_emod_of_nonneg _ (by omega)]
  omega
theorem win_window {p : Int} (h : 0 ≤ p) {z : Str} (hz : ls z = win (p.toNat / 32 * 32 + (p.fmod 32).toNat) (p.fmod 32 + 24 - p.fmod 32).toNat) : ls z = win p.toNat 24 := by
  rw [hz]
  rw [Int.fmod_eq_emod_of_nonneg _ (by omega)]
  congr 1 <;> omega
def OnesInv (p ones rest : Int) : Prop := 0 ≤ rest ∧ ((ones.fmod 2 == 1) ^^ tm rest.toNat) = tm p.toNat
theorem ones_start {p : Int} (h : 0 ≤ p) : OnesInv p 0 p := ⟨h, by simp⟩
theorem ones_turn {p ones rest : Int} (h : OnesInv p ones rest) : OnesInv p (ones + rest.fmod 2) (rest.fdiv 2) := by
  obtain ⟨h0, h1⟩ := h
  rw [Int.fmod_eq_emod_of_nonneg _ (by omega)] at h1 ⊢
  rw [Int.fdiv_eq_ediv_of_nonneg _ (by omega)]
  unfold OnesInv
  rw [Int.fmod_eq_emod_of_nonneg _ (by omega)]
  refine ⟨by omega, ?_⟩
  rw [← h1]
  rcases (by omega : rest % 2 = 0 ∨ rest % 2 = 1) with e | e
  · rw [e, Int.add_zero, show rest.toNat = 2 * (rest / 2).toNat by omega, tm_even]
    
  · rw [e, show rest.toNat = 2 * (rest / 2).toNat + 1 by omega, tm_odd]
    rcases (by omega : ones % 2 = 0 ∨ ones % 2 = 1) with f | f
    · rw [f, show (ones + 1) % 2 = 1 by omega]; simp
    · rw [f, show (ones + 1) % 2 = 0 by omega]; simp
theorem ones_less {p ones rest : Int} (h : OnesInv p ones rest) (h0 : 0 < rest) : (rest.fdiv 2).toNat < rest.toNat := by
  rw [Int.fdiv_eq_ediv_of_nonneg _ (by omega)]
  omega
theorem ones_end {p ones rest : Int} (h : OnesInv p ones rest) (h0 : ¬ 0 < rest) : (ones.fmod 2 == 0) = !(tm p.toNat) := by
  obtain ⟨h1, h2⟩ := h
  have : rest = 0 := by omega
  subst this
  have e0 : tm (0 : Int).toNat = false := by
    show tm 0 = false
    unfold tm; rfl
  rw [e0] at h2
  rw [← h2]
  rw [Int.fmod_eq_emod_of_nonneg _ (by omega)]
  rcases (by omega : ones % 2 = 0 ∨ ones % 2 = 1) with f | f <;> rw [f] <;> rfl
section
variable {h₀ : Heap} {x : Str}
theorem st_end_text {y : Str} {l : Str} {t : Tok} {L : Addr} {m₀ : Str → Option Value} {junk : List Str} {Inv : Str × Tok → Prop} {news news' : List (Addr × Obj)} {s₁ : Shared} {h' : Heap} {tk : Nat} {m' : Str → Option Value}
    (F : Fr h₀ L h' m') (N : News h₀ L h' news') (hn : ∀ p ∈ news, p ∈ news') (hy : m' y = some (.str l t)) (hi : Inv (l, t)) (hm : ∀ z, z ≠ x → junk.contains z = false → z ≠ y → m' z = m₀ z) :
    StEnd h₀ L x (fun c z => if z = y then some (.str c.1 c.2) else m₀ z) junk Inv news s₁ { s₁ with heap := h', toks := tk } :=
  st_end (l, t) F N hn hi (fun z h1 h2 => by
    by_cases hz : z = y
    · rw [if_pos hz, hz, hy]
    · rw [if_neg hz, hm z h1 h2 hz])
end
theorem nj3 {a b c z : Str} (h : [a, b, c].contains z = false) : z ≠ a ∧ z ≠ b ∧ z ≠ c := by simpa using h
theorem nj4 {a b c d z : Str} (h : [a, b, c, d].contains z = false) : z ≠ a ∧ z ≠ b ∧ z ≠ c ∧ z ≠ d := by simpa using h
end Mine
end
section
open PySem PySem.W PyProof.Rows Builtin Builtin.Str PySem.StrLaws
namespace Mine
/-- the stretches of size j from n and from m on are alike -/
def al (n m j : Nat) : Prop := ∀ i, i < j → tm (n + i) = tm (m + i)
theorem letter_inj : ∀ {a b : Bool}, letter a = letter b → a = b := by decide
theorem win_eq {n m j : Nat} : win n j = win m j ↔ al n m j := by
  constructor
  · intro h i hi
    have h1 := win_get (n := n) hi
    rw [h, win_get hi] at h1
    exact (letter_inj (Option.some.inj h1)).symm
  · intro h
    unfold win
    refine List.map_congr_left fun i hi => ?_
    rw [h i (List.mem_range.mp hi)]
theorem rep_al {n s : Nat} : rep n s = true ↔ al (n + s) n s := by
  rw [rep_iff]
  exact ⟨fun h i hi => (h i hi).symm, fun h i hi => (h i hi).symm⟩
theorem al_near {n s : Nat} (h : al (n + 1) n s) (hs : 2 ≤ s) : False := by
  have h0 := h 0 (by omega)
  have h1 := h 1 (by omega)
  exact no_cube n (by simpa using h0.symm) (by rw [show n + 1 + 1 = n + 2 by omega] at h1; exact h1.symm)
theorem win_plain {x : Str} {n k : Nat} (h : ls x = win n k) : Plain x := by
  unfold Plain
  rw [h]
  unfold win
  intro hm
  obtain ⟨i, _, hi⟩ := List.mem_map.mp hm
  unfold letter at hi
  split at hi <;> omega
theorem win_len {x : Str} {n k : Nat} (h : ls x = win n k) : x.length = k := by rw [len_of_ls h, win_length]
theorem empty_plain : Plain Str.empty := by unfold Plain; decide +kernel
theorem empty_len : Str.empty.length = 0 := by decide +kernel
theorem empty_ls : ls Str.empty = [] := by decide +kernel
/-- pieces one behind the other, dots between -/
theorem em2 {a b : Str} (ha : Plain a) (hb : Plain b) {x : Str} (hx : ls x = ls a ++ ([46, 46, 46] ++ ls b)) (y : Str) :
    em x y = true ↔ Txt.startswith y a = true ∧ Txt.endswith y b = true ∧ a.length + b.length ≤ y.length := by
  have e : x = Str.join dots (a :: ([] ++ [b])) := ls_inj (by rw [hx, List.nil_append, ls_join_cons]; rfl)
  rw [e, em_iff a b [] (by simp [ha, hb])]
  constructor
  · exact fun h => ⟨h.1, h.2.1, h.2.2.1⟩
  · exact fun h => ⟨h.1, h.2.1, h.2.2, by show a.length ≤ y.length - b.length; omega⟩
theorem em3 {a c b : Str} (ha : Plain a) (hc : Plain c) (hb : Plain b) {x : Str} (hx : ls x = ls a ++ ([46, 46, 46] ++ (ls c ++ ([46, 46, 46] ++ ls b)))) (y : Str) :
    em x y = true ↔ Txt.startswith y a = true ∧ Txt.endswith y b = true ∧ a.length + b.length ≤ y.length ∧ ∃ k, a.length ≤ k ∧ At y c (y.length - b.length) k := by
  have e : x = Str.join dots (a :: ([c] ++ [b])) := ls_inj (by rw [hx, List.singleton_append, ls_join_cons, ls_join_cons]; rfl)
  rw [e, em_iff a b [c] (by simp [ha, hb, hc])]
  constructor
  · rintro ⟨h1, h2, h3, k, hk, h4, _⟩
    exact ⟨h1, h2, h3, k, hk, h4⟩
  · rintro ⟨h1, h2, h3, k, hk, h4⟩
    exact ⟨h1, h2, h3, k, hk, h4, (at_iff.mp h4).1⟩
theorem em4 {a c d b : Str} (ha : Plain a) (hc : Plain c) (hd : Plain d) (hb : Plain b) {x : Str} (hx : ls x = ls a ++ ([46, 46, 46] ++ (ls c ++ ([46, 46, 46] ++ (ls d ++ ([46, 46, 46] ++ ls b)))))) (y : Str) :
    em x y = true ↔ Txt.startswith y a = true ∧ Txt.endswith y b = true ∧ a.length + b.length ≤ y.length ∧ ∃ k, a.length ≤ k ∧ At y c (y.length - b.length) k ∧ ∃ j, k + c.length ≤ j ∧ At y d (y.length - b.length) j := by
  have e : x = Str.join dots (a :: ([c, d] ++ [b])) := ls_inj (by
    rw [hx]
    show _ = ls (Str.join dots [a, c, d, b])
    rw [ls_join_cons, ls_join_cons, ls_join_cons]; rfl)
  rw [e, em_iff a b [c, d] (by simp [ha, hb, hc, hd])]
  constructor
  · rintro ⟨h1, h2, h3, k, hk, h4, j, hj, h5, _⟩
    exact ⟨h1, h2, h3, k, hk, h4, j, hj, h5⟩
  · rintro ⟨h1, h2, h3, k, hk, h4, j, hj, h5⟩
    exact ⟨h1, h2, h3, k, hk, h4, j, hj, h5, (at_iff.mp h5).1⟩
theorem em5 {a c d f b : Str} (ha : Plain a) (hc : Plain c) (hd : Plain d) (hf : Plain f) (hb : Plain b) {x : Str} (hx : ls x = ls a ++ ([46, 46, 46] ++ (ls c ++ ([46, 46, 46] ++ (ls d ++ ([46, 46, 46] ++ (ls f ++ ([46, 46, 46] ++ ls b)))))))) (y : Str)
    (h1 : Txt.startswith y a = true) (h2 : Txt.endswith y b = true) (h3 : a.length + b.length ≤ y.length) {k j i : Nat} (h4 : a.length ≤ k) (h5 : At y c (y.length - b.length) k) (h6 : k + c.length ≤ j) (h7 : At y d (y.length - b.length) j) (h8 : j + d.length ≤ i) (h9 : At y f (y.length - b.length) i) :
    em x y = true := by
  have e : x = Str.join dots (a :: ([c, d, f] ++ [b])) := ls_inj (by
    rw [hx]
    show _ = ls (Str.join dots [a, c, d, f, b])
    rw [ls_join_cons, ls_join_cons, ls_join_cons, ls_join_cons]; rfl)
  rw [e, em_iff a b [c, d, f] (by simp [ha, hb, hc, hd, hf])]
  exact ⟨h1, h2, h3, k, h4, h5, j, h6, h7, i, h8, h9, (at_iff.mp h9).1⟩
theorem starts_win {y a : Str} {n k m j : Nat} (hy : ls y = win n k) (ha : ls a = win m j) : Txt.startswith y a = true ↔ j ≤ k ∧ al n m j := by
  rw [startswith_iff, win_len hy, win_len ha, hy, ha]
  constructor
  · rintro ⟨h1, h2⟩
    rw [win_take _ _ _ h1] at h2
    exact ⟨h1, win_eq.mp h2⟩
  · rintro ⟨h1, h2⟩
    rw [win_take _ _ _ h1]
    exact ⟨h1, win_eq.mpr h2⟩
theorem ends_win {y a : Str} {n k m j : Nat} (hy : ls y = win n k) (ha : ls a = win m j) : Txt.endswith y a = true ↔ j ≤ k ∧ al (n + (k - j)) m j := by
  rw [endswith_iff, win_len hy, win_len ha, hy, ha, win_drop]
  constructor
  · rintro ⟨h1, h2⟩
    rw [win_take _ _ _ (by omega)] at h2
    exact ⟨h1, win_eq.mp h2⟩
  · rintro ⟨h1, h2⟩
    rw [win_take _ _ _ (by omega)]
    exact ⟨h1, win_eq.mpr h2⟩
theorem at_win {y a : Str} {n k m j hi i : Nat} (hy : ls y = win n k) (ha : ls a = win m j) (hk : hi ≤ k) : At y a hi i ↔ i + j ≤ hi ∧ al (n + i) m j := by
  rw [at_iff, win_len ha, hy, ha, win_drop]
  constructor
  · rintro ⟨h1, h2⟩
    rw [win_take _ _ _ (by omega)] at h2
    exact ⟨h1, win_eq.mp h2⟩
  · rintro ⟨h1, h2⟩
    rw [win_take _ _ _ (by omega)]
    exact ⟨h1, win_eq.mpr h2⟩
theorem starts_empty {y : Str} : Txt.startswith y Str.empty = true := by
  rw [startswith_iff, empty_len, empty_ls]; simp
theorem ends_empty {y : Str} : Txt.endswith y Str.empty = true := by
  rw [endswith_iff, empty_len, empty_ls]; simp
theorem at_empty {y : Str} {hi i : Nat} (h : i ≤ hi) : At y Str.empty hi i := by
  rw [at_iff, empty_len, empty_ls]; simp [h]
theorem al_refl {n j : Nat} : al n n j := fun _ _ => rfl

/-! the four shapes -/
section
variable {x y p : Str} {n k s : Nat}
theorem twice_take (hp : ls p = win n s) (hk : 2 * s ≤ k) : ((win (n + d) k).take (2 * s) = ls p ++ ls p) ↔ al (n + d) n s ∧ al (n + d + s) n s := by
  rw [win_take _ _ _ hk, hp, show 2 * s = s + s by omega, ← win_add]
  constructor
  · intro h
    have := List.append_inj h (by rw [win_length, win_length])
    exact ⟨win_eq.mp this.1, win_eq.mp this.2⟩
  · rintro ⟨h1, h2⟩
    rw [win_eq.mpr h1, win_eq.mpr h2]
theorem shape0 (h8 : 1 ≤ s ∧ s ≤ 8) (hp : ls p = win n s) (hy : ls y = win n k) (hk : 2 * s ≤ k) : em (p ++ p ++ dots) y = square n s := by
  have hpp : (p ++ p).length = 2 * s := by rw [← ls_length, ls_append, List.length_append, ls_length, win_len hp]; omega
  rw [square_rep n s h8.1 h8.2, Bool.eq_iff_iff, rep_al, em2 (a := p ++ p) (b := Str.empty) (plain_append (win_plain hp) (win_plain hp)) empty_plain (by rw [ls_append, dots_ls, empty_ls]; rfl), startswith_iff, hpp, win_len hy, empty_len, ls_append, hy]
  have := twice_take (d := 0) hp hk
  rw [Nat.add_zero] at this
  rw [this]
  constructor
  · exact fun h => h.1.2.2
  · exact fun h => ⟨⟨hk, al_refl, h⟩, ends_empty, hk⟩
theorem shape1 (h8 : 1 ≤ s ∧ s ≤ 8) (hp : ls p = win n s) (hy : ls y = win n (2 * s)) : em (p ++ dots ++ p) y = square n s := by
  rw [square_rep n s h8.1 h8.2, Bool.eq_iff_iff, rep_al, em2 (a := p) (b := p) (win_plain hp) (win_plain hp) (by rw [ls_append, ls_append, dots_ls, List.append_assoc]), starts_win hy hp, ends_win hy hp, win_len hp, win_len hy, show 2 * s - s = s by omega]
  constructor
  · exact fun h => h.2.1.2
  · exact fun h => ⟨⟨by omega, al_refl⟩, ⟨by omega, h⟩, by omega⟩
theorem shape2 (h8 : 1 ≤ s ∧ s ≤ 8) (hp : ls p = win n s) (hy : ls y = win n (2 * s + 1)) : em (dots ++ p ++ p ++ dots) y = square n s := by
  have hpp : (p ++ p).length = 2 * s := by rw [← ls_length, ls_append, List.length_append, ls_length, win_len hp]; omega
  rw [square_rep n s h8.1 h8.2, Bool.eq_iff_iff, rep_al, em3 (a := Str.empty) (c := p ++ p) (b := Str.empty) empty_plain (plain_append (win_plain hp) (win_plain hp)) empty_plain (by simp only [ls_append, dots_ls, empty_ls, List.append_assoc, List.nil_append, List.append_nil])]
  simp only [starts_empty, ends_empty, empty_len, true_and, Nat.sub_zero, Nat.add_zero, Nat.zero_le, win_len hy, at_iff, hpp, ls_append, hy, win_drop]
  constructor
  · rintro ⟨k, h1, h2⟩
    have h3 := (twice_take (d := k) hp (by omega)).mp h2
    rcases (by omega : k = 0 ∨ k = 1) with rfl | rfl
    · exact h3.2
    · exfalso
      by_cases h : 2 ≤ s
      · exact al_near h3.1 h
      · obtain rfl : s = 1 := by omega
        have h4 := h3.1 0 (by omega)
        have h5 := h3.2 0 (by omega)
        exact no_cube n (by simpa using h4.symm) (by rw [show n + 1 + 1 = n + 2 by omega] at h5; simp only [Nat.add_zero] at h4 h5; rw [h4, h5])
  · intro h
    refine ⟨0, by omega, ?_⟩
    have h3 := (twice_take (k := 2 * s + 1) (d := 0) hp (by omega)).mpr ⟨al_refl, h⟩
    exact h3
theorem beq_win {q r : Str} {m j : Nat} (hq : ls q = win n s) (hr : ls r = win m j) : (q == r) = true ↔ win n s = win m j := by
  rw [beq_iff_eq, ← hq, ← hr]
  exact ⟨fun h => h ▸ rfl, fun h => ls_inj h⟩
theorem shape3 (h8 : 1 ≤ s ∧ s ≤ 8) (hp : ls p = win n s) (hy : ls y = win (n + s) s) : em p y = square n s := by
  rw [square_rep n s h8.1 h8.2, Bool.eq_iff_iff, rep_al, em_plain (win_plain hp), beq_win hp hy, win_eq]
  exact ⟨fun h i hi => (h i hi).symm, fun h i hi => (h i hi).symm⟩
end

/-! the last five -/
/-- no dots, or three -/
def dd (b : Bool) : Str := if b then dots else Str.empty
theorem dd_ls (b : Bool) : ls (dd b) = if b then [46, 46, 46] else [] := by cases b <;> decide +kernel
section
variable {x y p q : Str} {n k s : Nat}
theorem last_a {b c : Bool} (h8 : 1 ≤ s) (hp : ls p = win n s) (hq : ls q = win (n + s - 1) s) (hy : ls y = win n (2 * s - 1)) : em (dd b ++ p ++ dots ++ q ++ dd c) y = false := by
  rw [← Bool.not_eq_true]
  cases b <;> cases c
  · rw [em2 (a := p) (b := q) (win_plain hp) (win_plain hq) (by simp [ls_append, dots_ls, dd_ls]), win_len hp, win_len hq, win_len hy]
    omega
  · rw [em3 (a := p) (c := q) (b := Str.empty) (win_plain hp) (win_plain hq) empty_plain (by simp [ls_append, dots_ls, dd_ls, empty_ls]), win_len hp, win_len hy, empty_len]
    rintro ⟨_, _, _, k, h1, h2⟩
    have := ((at_win hy hq (by omega)).mp h2).1
    omega
  · rw [em3 (a := Str.empty) (c := p) (b := q) empty_plain (win_plain hp) (win_plain hq) (by simp [ls_append, dots_ls, dd_ls, empty_ls]), win_len hq, win_len hy, empty_len]
    rintro ⟨_, _, _, k, h1, h2⟩
    have := ((at_win hy hp (by omega)).mp h2).1
    omega
  · rw [em4 (a := Str.empty) (c := p) (d := q) (b := Str.empty) empty_plain (win_plain hp) (win_plain hq) empty_plain (by simp [ls_append, dots_ls, dd_ls, empty_ls]), win_len hp, win_len hy, empty_len]
    rintro ⟨_, _, _, k, h1, h2, j, h3, h4⟩
    have := ((at_win hy hq (by omega)).mp h4).1
    omega
theorem last_b {b : Bool} (h8 : s ≤ 8) (hp : ls p = win n s) (hq : ls q = win (n + s) s) (hy : ls y = win n 24) : em (dots ++ p ++ (dots ++ dd b) ++ q ++ dots) y = true := by
  have hP : At y p 24 0 := (at_win hy hp (Nat.le_refl _)).mpr ⟨by omega, al_refl⟩
  have hQ : At y q 24 s := (at_win hy hq (Nat.le_refl _)).mpr ⟨by omega, al_refl⟩
  cases b
  · rw [em4 (a := Str.empty) (c := p) (d := q) (b := Str.empty) empty_plain (win_plain hp) (win_plain hq) empty_plain (by simp [ls_append, dots_ls, dd_ls, empty_ls])]
    simp only [starts_empty, ends_empty, empty_len, true_and, Nat.sub_zero, win_len hy, win_len hp]
    exact ⟨by omega, 0, by omega, hP, s, by omega, hQ⟩
  · refine em5 (a := Str.empty) (c := p) (d := Str.empty) (f := q) (b := Str.empty) empty_plain (win_plain hp) empty_plain (win_plain hq) empty_plain (by simp [ls_append, dots_ls, dd_ls, empty_ls]) y starts_empty ends_empty ?_ (k := 0) (j := s) (i := s) ?_ ?_ ?_ ?_ ?_ ?_ <;> simp only [empty_len, win_len hy, win_len hp, Nat.sub_zero]
    · omega
    · omega
    · exact hP
    · omega
    · exact at_empty (by omega)
    · omega
    · exact hQ
theorem last_c {b c : Bool} (h8 : 1 ≤ s ∧ s ≤ 8) (hp : ls p = win (n + (if b then 1 else 0)) (s - if b then 1 else 0)) (hq : ls q = win (n + (24 - s)) s) (hy : ls y = win n 24) : em (dd b ++ p ++ dots ++ q ++ dd c) y = true := by
  cases b <;> cases c
  · rw [em2 (a := p) (b := q) (win_plain hp) (win_plain hq) (by simp [ls_append, dots_ls, dd_ls]), starts_win hy hp, ends_win hy hq, win_len hp, win_len hq, win_len hy]
    exact ⟨⟨by simp; omega, al_refl⟩, ⟨by omega, al_refl⟩, by simp; omega⟩
  · rw [em3 (a := p) (c := q) (b := Str.empty) (win_plain hp) (win_plain hq) empty_plain (by simp [ls_append, dots_ls, dd_ls, empty_ls]), starts_win hy hp, win_len hp, win_len hy, empty_len]
    exact ⟨⟨by simp; omega, al_refl⟩, ends_empty, by simp; omega, 24 - s, by simp; omega, (at_win hy hq (Nat.le_refl _)).mpr ⟨by omega, al_refl⟩⟩
  · rw [em3 (a := Str.empty) (c := p) (b := q) empty_plain (win_plain hp) (win_plain hq) (by simp [ls_append, dots_ls, dd_ls, empty_ls]), ends_win hy hq, win_len hq, win_len hy, empty_len]
    refine ⟨starts_empty, ⟨by omega, al_refl⟩, by omega, 1, by omega, (at_win hy hp (by omega)).mpr ⟨by simp; omega, al_refl⟩⟩
  · rw [em4 (a := Str.empty) (c := p) (d := q) (b := Str.empty) empty_plain (win_plain hp) (win_plain hq) empty_plain (by simp [ls_append, dots_ls, dd_ls, empty_ls]), win_len hp, win_len hy, empty_len]
    refine ⟨starts_empty, ends_empty, by omega, 1, by omega, (at_win hy hp (by omega)).mpr ⟨by simp; omega, al_refl⟩, 24 - s, by simp; omega, (at_win hy hq (by omega)).mpr ⟨by omega, al_refl⟩⟩
theorem last_d1 (hp : ls p = win n 1) (hy : ls y = win n 2) : em (dd true ++ p) y = square n 1 := by
  rw [square_rep n 1 (by omega) (by omega), Bool.eq_iff_iff, rep_al, em2 (a := Str.empty) (b := p) empty_plain (win_plain hp) (by simp [ls_append, dd_ls, empty_ls]), ends_win hy hp, win_len hp, win_len hy, empty_len]
  constructor
  · exact fun h => h.2.1.2
  · exact fun h => ⟨starts_empty, ⟨by omega, h⟩, by omega⟩
theorem last_d {b : Bool} (h8 : 2 ≤ s) (hp : ls p = win n s) (hy : ls y = win n (s + 1)) : em (dd b ++ p) y = false := by
  rw [← Bool.not_eq_true]
  cases b
  · have e : dd false ++ p = p := ls_inj (by simp [ls_append, dd_ls])
    rw [e, em_plain (win_plain hp), beq_win hp hy]
    intro h
    have := congrArg List.length h
    simp only [win_length] at this
    omega
  · rw [em2 (a := Str.empty) (b := p) empty_plain (win_plain hp) (by simp [ls_append, dd_ls, empty_ls]), ends_win hy hp, show s + 1 - s = 1 by omega]
    exact fun h => al_near h.2.1.2 h8
theorem last_e (hp : ls p = win n s) (hy : ls y = win n (s + 1)) : em y p = false := by
  rw [← Bool.not_eq_true, em_plain (win_plain hy), beq_win hy hp]
  intro h
  have := congrArg List.length h
  simp only [win_length] at this
  omega
end
end Mine
namespace Mine
theorem len_app (x y : Str) : (x ++ y).length = x.length + y.length := by rw [← ls_length, ls_append, List.length_append, ls_length, ls_length]
theorem len_dots : (Str.ofString "...").length = 3 := by decide +kernel
theorem win_cast {x : Str} {n k n' k' : Nat} (h : ls x = win n k) (hn : n = n') (hk : k = k') : ls x = win n' k' := by rw [h, hn, hk]
end Mine
end
section
open PySem PySem.W PyProof.Rows
set_option maxRecDepth 100000
namespace Mine
theorem dots_eq : Str.ofString "..." = dots := rfl
theorem mul0 : Txt.mul (Str.ofString "...") 0 = dd false := by decide +kernel
theorem mul1 : Txt.mul (Str.ofString "...") 1 = dd true := by decide +kernel
theorem mul1' : Txt.mul (Str.ofString "...") 1 = dots ++ dd false := by decide +kernel
theorem mul2 : Txt.mul (Str.ofString "...") 2 = dots ++ dd true := by decide +kernel
/-- no longer than that -/
def Lim (x : Str) (n : Nat) : Prop := x.length ≤ n
theorem lim_dots : Lim (Str.ofString "...") 3 := by unfold Lim; decide +kernel
theorem lim_app {x y : Str} {a b : Nat} (ha : Lim x a) (hb : Lim y b) : Lim (x ++ y) (a + b) := by unfold Lim at *; rw [len_app]; omega
theorem lim_to {x : Str} {a : Nat} (ha : Lim x a) (h : a ≤ 1000) : x.length ≤ 1000 := Nat.le_trans ha h
theorem lim_win {x : Str} {n : Nat} {j : Int} (h : ls x = win n j.toNat) (h1 : j ≤ 24) : Lim x 24 := by unfold Lim; rw [win_len h]; omega
theorem lim_win24 {x : Str} {n : Nat} (h : ls x = win n 24) : Lim x 24 := by unfold Lim; rw [win_len h]; omega
theorem dd_len (b : Bool) : (dd b).length ≤ 3 := by cases b <;> decide +kernel
section
variable {prog : Program} {w : World} {A : Around} {E : Value → Shared → Prop} {s : Shared} {t u : Tok} {Q : Value → Shared → Prop} {n : Int}
theorem add_lim {x y : Str} {a b : Nat} (ha : Lim x a) (hb : Lim y b) (hab : a + b ≤ 1000) (h : ∀ t' k, Q (.str (x ++ y) t') { s with toks := k }) : wpAny (model prog w) A (binaryOp .Add (.str x t) (.str y u)) Q E s := by
  have hsz : x.length + y.length ≤ sizeLine := by unfold Lim at *; rw [sizeLine_eq]; omega
  exact SBL.add (fun t' k _ => h t' k) hsz
theorem mul01 (hn : 0 ≤ n ∧ n ≤ 1) (h : ∀ z t' k, z = dd (n == 1) → Lim z 3 → Q (.str z t') { s with toks := k }) : wpAny (model prog w) A (binaryOp .Mult (.str (Str.ofString "...") t) (.int n u)) Q E s := by
  refine SB.mul (mulOk_of 16 1048576 (by decide) (by omega) (by omega) (by decide) (by decide)) fun t' k => ?_
  refine h _ t' k ?_ ?_
  · rcases (by omega : n = 0 ∨ n = 1) with rfl | rfl
    · exact mul0
    · exact mul1
  · rcases (by omega : n = 0 ∨ n = 1) with rfl | rfl
    · unfold Lim; rw [mul0]; exact dd_len _
    · unfold Lim; rw [mul1]; exact dd_len _
theorem mul12 (hn : 0 ≤ n ∧ n ≤ 1) (h : ∀ z t' k, z = dots ++ dd (n == 1) → Lim z 6 → Q (.str z t') { s with toks := k }) : wpAny (model prog w) A (binaryOp .Mult (.str (Str.ofString "...") t) (.int (1 + n) u)) Q E s := by
  refine SB.mul (mulOk_of 16 1048576 (by decide) (by omega) (by omega) (by decide) (by decide)) fun t' k => ?_
  have e : Txt.mul (Str.ofString "...") (1 + n) = dots ++ dd (n == 1) := by
    rcases (by omega : n = 0 ∨ n = 1) with rfl | rfl
    · exact mul1'
    · exact mul2
  refine h _ t' k e ?_
  unfold Lim
  rw [e, len_app, dots_len]
  have := dd_len (n == 1)
  omega
end
theorem sign_ok {p ones rest : Int} (h : OnesInv p ones rest) (h0 : ¬ 0 < rest) (c : ((sign (tm p.toNat) == Str.ofString "h") != (ones.fmod 2 == 0)) = true) : False := by
  rw [sign_h, ones_end h h0] at c
  simp at c
theorem ne_no {a b : Bool} (c : (a != b) = true) (h : a = b) : False := by rw [h] at c; simp at c
end Mine
namespace Mine
section
variable {x y p q l m r : Str} {n : Nat} {k : Int} {b c : Bool}
theorem last_a' {V : Str} (_ : ls V = win n 24) (h8 : 1 ≤ k ∧ k < 1 + ((8 : Nat) : Int)) (hl : l = dd b) (hr : r = dd c) (hp : ls p = win n k.toNat) (hq : ls q = win (n + k.toNat - 1) k.toNat) (hy : ls y = win n (2 * k.toNat - 1)) : em (l ++ p ++ Str.ofString "..." ++ q ++ r) y = false := by
  subst hl hr
  exact last_a (by omega) hp hq hy
theorem last_b' (h8 : 1 ≤ k ∧ k < 1 + ((8 : Nat) : Int)) (hm : m = dots ++ dd b) (hp : ls p = win n k.toNat) (hq : ls q = win (n + k.toNat) k.toNat) (hy : ls y = win n 24) : em (Str.ofString "..." ++ p ++ m ++ q ++ Str.ofString "...") y = true := by
  subst hm
  exact last_b (by omega) hp hq hy
theorem last_c' (h8 : 1 ≤ k ∧ k < 1 + ((8 : Nat) : Int)) (hl : l = dd (k.fmod 2 == 1)) (hr : r = dd c) (hp : ls p = win (n + (k.fmod 2).toNat) (k - k.fmod 2).toNat) (hq : ls q = win (n + (24 - k.toNat)) k.toNat) (hy : ls y = win n 24) : em (l ++ p ++ Str.ofString "..." ++ q ++ r) y = true := by
  subst hl hr
  refine last_c (s := k.toNat) (by omega) (win_cast hp ?_ ?_) hq hy
  · rcases (by have := bit_in k; omega : k.fmod 2 = 0 ∨ k.fmod 2 = 1) with e | e <;> rw [e] <;> rfl
  · rcases (by have := bit_in k; omega : k.fmod 2 = 0 ∨ k.fmod 2 = 1) with e | e <;> rw [e]
    · rw [Int.sub_zero]; rfl
    · show _ = k.toNat - 1; omega
theorem last_d1' (h1 : k = 1) (hl : l = dd (k.fmod 2 == 1)) (hp : ls p = win n k.toNat) (hy : ls y = win n (k.toNat + 1)) : em (l ++ p) y = square n 1 := by
  subst h1
  subst hl
  exact last_d1 hp hy
theorem last_d' {V : Str} (_ : ls V = win n 24) (h8 : 1 ≤ k ∧ k < 1 + ((8 : Nat) : Int)) (h1 : k ≠ 1) (hl : l = dd b) (hp : ls p = win n k.toNat) (hy : ls y = win n (k.toNat + 1)) : em (l ++ p) y = false := by
  subst hl
  exact last_d (by omega) hp hy
theorem last_d2' {V : Str} (_ : ls V = win n 24) (h8 : 1 ≤ k ∧ k < 1 + ((8 : Nat) : Int)) (h1 : k ≠ 1) (hl : l = dd b) (hp : ls p = win n k.toNat) (hy : ls y = win n (k.toNat + 1)) : em (l ++ p) y = (k == 1) := by
  rw [beq_eq_false_iff_ne.mpr h1]
  subst hl
  exact last_d (by omega) hp hy
theorem last_e' {V : Str} (_ : ls V = win n 24) (hp : ls p = win n k.toNat) (hy : ls y = win n (k.toNat + 1)) : em y p = false := last_e hp hy
end
end Mine
namespace Mine
theorem len_int {x : Str} {n : Nat} {j : Int} (h : ls x = win n j.toNat) (h0 : 0 ≤ j) : (x.length : Int) = j := by rw [win_len h]; omega
end Mine
namespace Mine
section
variable {x y p : Str} {n k s : Nat}
theorem shape0' (h8 : 1 ≤ s ∧ s ≤ 8) (hp : ls p = win n s) (hy : ls y = win n k) (hk : 2 * s ≤ k) : em (p ++ p ++ Str.ofString "...") y = square n s := shape0 h8 hp hy hk
theorem shape1' (h8 : 1 ≤ s ∧ s ≤ 8) (hp : ls p = win n s) (hy : ls y = win n (2 * s)) : em (p ++ Str.ofString "..." ++ p) y = square n s := shape1 h8 hp hy
theorem shape2' (h8 : 1 ≤ s ∧ s ≤ 8) (hp : ls p = win n s) (hy : ls y = win n (2 * s + 1)) : em (Str.ofString "..." ++ p ++ p ++ Str.ofString "...") y = square n s := shape2 h8 hp hy
end
end Mine
end
section
open PySem PySem.W PyProof.Rows
set_option maxRecDepth 100000
namespace Mine
section
variable {p : Program} {w : World} {n₀ : Nat} {ann : Option Value} {c : Code} {q : Pos} {α β : Type}
theorem segGo_trans {p : Program} {w : World} {n₀ b : Nat} {ann : Option Value} : ∀ {n m : Nat} {s s₁ : Shared} {t t₁ : Thread} {r : Shared × Thread}, segGo treeTable p w n₀ ann b n s t = some (s₁, t₁) →
    segGo treeTable p w n₀ ann b m s₁ t₁ = some r → segGo treeTable p w n₀ ann b (n + m) s t = some r
  | 0, m, s, s₁, t, t₁, r, h, k => by
    obtain ⟨rfl, rfl⟩ : s = s₁ ∧ t = t₁ := by simpa [segGo] using h
    rw [Nat.zero_add]; exact k
  | n + 1, m, s, s₁, t, t₁, r, h, k => by
    rw [show n + 1 + m = n + m + 1 by omega]
    unfold segGo at h ⊢
    cases he : endAt b t with
    | some f => rw [he] at h; cases h
    | none =>
      rw [he] at h
      cases hk : stepOk n₀ ann t with
      | false => rw [hk] at h; cases h
      | true =>
        rw [hk] at h
        cases hs : step (denote treeTable) p w s t with
        | halt o s₂ => rw [hs] at h; cases h
        | go s₂ t₂ => rw [hs] at h; exact segGo_trans h k

/-- a tree runs from s to s', hands back r, in n steps -/
def Goes (p : Program) (w : World) (n₀ : Nat) (ann : Option Value) (c : Code) (q : Pos) {α : Type} (x : Sem α) (s : Shared) (r : α) (s' : Shared) (n : Nat) : Prop :=
  ∀ (K : α → Sem Fin) (H : Value → Sem Fin) (gd : Bool → Bool) (lv : List Value → List Value) (pos : Pos), ∃ pos', segGo treeTable p w n₀ ann 1 n s ⟨x.wrap K H gd lv, c, pos, [topFrame q]⟩ = some (s', ⟨K r, c, pos', [topFrame q]⟩)

theorem goes_pure {r : α} {s : Shared} : Goes p w n₀ ann c q (pure r : Sem α) s r s 0 := fun _ _ _ _ pos => ⟨pos, rfl⟩
theorem goes_bind {x : Sem α} {f : α → Sem β} {s s₁ s₂ : Shared} {a : α} {b : β} {n m : Nat} (h : Goes p w n₀ ann c q x s a s₁ n) (k : Goes p w n₀ ann c q (f a) s₁ b s₂ m) : Goes p w n₀ ann c q (x >>= f) s b s₂ (n + m) := fun K H gd lv pos => by
  rw [Sem.bind_eq_wrap', Sem.wrap_wrap]
  obtain ⟨p₁, h₁⟩ := h (fun a => (f a).wrap K H gd lv) (fun e => (Sem.raise e).wrap K H gd lv) (fun g => gd (id g)) (fun l => lv (id l)) pos
  obtain ⟨p₂, h₂⟩ := k K H gd lv p₁
  exact ⟨p₂, segGo_trans h₁ h₂⟩
theorem goes_keep {x : Sem α} {vs : List Value} {s s₁ : Shared} {a : α} {n : Nat} (h : Goes p w n₀ ann c q x s a s₁ n) : Goes p w n₀ ann c q (x.keep vs) s a s₁ n := fun K H gd lv pos => by
  rw [Sem.keep_eq_wrap, Sem.wrap_wrap]
  exact h _ _ _ _ pos
theorem goes_holding {x : Sem α} {vs : List Value} {s s₁ : Shared} {a : α} {n : Nat} (h : Goes p w n₀ ann c q x s a s₁ n) : Goes p w n₀ ann c q (holding vs x) s a s₁ n := by
  unfold holding
  split
  · exact h
  · exact goes_keep h
theorem goes_onRaise {x : Sem α} {g : Value → Sem Unit} {s s₁ : Shared} {a : α} {n : Nat} (h : Goes p w n₀ ann c q x s a s₁ n) : Goes p w n₀ ann c q (x.onRaise g) s a s₁ n := fun K H gd lv pos => by
  rw [Sem.onRaise_eq_wrap, Sem.wrap_wrap]
  exact h _ _ _ _ pos
theorem goes_rule {t : String} {s : Shared} : Goes p w n₀ ann c q (rule t) s () s 1 := fun _ _ _ _ pos => ⟨pos, rfl⟩
theorem goes_fresh {s : Shared} : Goes p w n₀ ann c q fresh s s.toks { s with toks := s.toks + 1 } 1 := fun _ _ _ _ pos => ⟨pos, rfl⟩
theorem goes_alloc {o : Obj} {s : Shared} : Goes p w n₀ ann c q (alloc o) s s.heap.objs.size { s with heap := s.heap.push o } 1 := fun _ _ _ _ pos => ⟨pos, rfl⟩
theorem goes_load {a : Addr} {o : Obj} {part : Option Value} {s : Shared} (h : s.heap.get? a = some o) : Goes p w n₀ ann c q (loadPart a part) s o s 1 := fun K H gd lv pos => by
  refine ⟨pos, ?_⟩
  obtain ⟨heap, gens, drawn, toks, os⟩ := s
  show (match step (denote treeTable) p w ⟨heap, gens, drawn, toks, os⟩ ⟨.load a part fun x => K x, c, pos, [topFrame q]⟩ with | .go s' t' => some (s', t') | .halt _ _ => none) = _
  simp only [step]
  rw [h]
theorem goes_update {a : Addr} {f : Obj → Obj} {part : Option Value} {s : Shared} (h : (s.heap.get? a).isSome = true) (ha : n₀ ≤ a) : Goes p w n₀ ann c q (updatePart a part f) s () { s with heap := s.heap.update a f } 1 := fun K H gd lv pos => by
  refine ⟨pos, ?_⟩
  obtain ⟨heap, gens, drawn, toks, os⟩ := s
  have e : stepOk n₀ ann ⟨(updatePart a part f).wrap K H gd lv, c, pos, [topFrame q]⟩ = true := by
    show (true && (Nat.ble n₀ a || a == mainNs || a == cStatics || ann == some (.ref a))) = true
    rw [Nat.ble_eq_true_of_le ha]; rfl
  unfold segGo
  rw [e]
  show (match step (denote treeTable) p w ⟨heap, gens, drawn, toks, os⟩ ⟨.update a part f fun x => K x, c, pos, [topFrame q]⟩ with | .go s' t' => some (s', t') | .halt _ _ => none) = _
  simp only [step]
  rw [h]; rfl
end
end Mine
namespace Mine
section
variable {p : Program} {w : World} {n₀ : Nat} {ann : Option Value} {c : Code} {q : Pos} {α β : Type}
def hk (k : Int) : Int := let h : Int := k.natAbs % (2 ^ 61 - 1 : Nat); let h := if k < 0 then -h else h; if h == -1 then -2 else h
theorem hash_pre {k : Int} {t : Tok} {s : Shared} (K : Int → Sem Fin) (H : Value → Sem Fin) (gd : Bool → Bool) (lv : List Value → List Value) (pos : Pos) : segGo treeTable p w n₀ ann 1 5 s ⟨(pyHash (.int k t)).wrap K H gd lv, c, pos, [topFrame q]⟩ = some ({ s with toks := s.toks + 1 }, ⟨(pyHashByItsType.reduced (hk k)).wrap K H gd lv, c, pos, [topFrame q]⟩) := by
  obtain ⟨heap, gens, drawn, toks, os⟩ := s
  cases hb : w.params.followText "special-get-raises"
  · have e := World.withFollow_self w "special-get-raises"
    rw [hb] at e
    rw [← e]
    kernel_rfl
  · have e := World.withFollow_self w "special-get-raises"
    rw [hb] at e
    rw [← e]
    kernel_rfl
end
end Mine

namespace Mine
section
variable {p : Program} {w : World} {n₀ : Nat} {ann : Option Value} {c : Code} {q : Pos} {α β : Type}
theorem hk_id {k : Int} (h0 : 0 ≤ k) (h1 : k < 2 ^ 61 - 1) : hk k = k := by
  unfold hk
  have e : ((k.natAbs % (2 ^ 61 - 1 : Nat) : Nat) : Int) = k := by omega
  have e2 : ((k.natAbs : Int) % ((2 ^ 61 - 1 : Nat) : Int)) = k := by omega
  simp only [e2, if_neg (show ¬ k < 0 by omega)]
  rw [if_neg]
  simp only [beq_iff_eq]; omega
theorem reduced_id {k : Int} (h0 : 0 ≤ k) (h1 : k < 2 ^ 61 - 1) : pyHashByItsType.reduced k = pure k := by
  unfold pyHashByItsType.reduced
  have e : (decide (-(2 ^ 63 : Int) ≤ k) && decide (k < 2 ^ 63)) = true := by simp; omega
  have e2 : (k == -1) = false := by simp; omega
  simp only [e, e2, if_true, Bool.false_eq_true, if_false]
theorem goes_hash {k : Int} {t : Tok} {s : Shared} (h0 : 0 ≤ k) (h1 : k < 2 ^ 61 - 1) : Goes p w n₀ ann c q (pyHash (.int k t)) s k { s with toks := s.toks + 1 } 5 := fun K H gd lv pos => by
  refine ⟨pos, ?_⟩
  have := hash_pre (p := p) (w := w) (n₀ := n₀) (ann := ann) (c := c) (q := q) (k := k) (t := t) (s := s) K H gd lv pos
  rw [hk_id h0 h1, reduced_id h0 h1] at this
  exact this
/-- a dict -/
abbrev D (es : List DictEntry) (n : Nat) : Obj := { cls := .type "dict", data := .dict es.toArray n }
theorem places_none {es : List DictEntry} {h : Int} (hn : ∀ e ∈ es, e.hash ≠ h) : placesWithHash es.toArray.size (fun i => es.toArray[i]?.map (·.hash)) h = [] := by
  unfold placesWithHash
  rw [List.filter_eq_nil_iff]
  intro i _
  simp only [List.getElem?_toArray, beq_iff_eq]
  intro e
  obtain ⟨x, hx, hh⟩ := Option.map_eq_some_iff.mp e
  exact hn x (List.mem_of_getElem? hx) hh
theorem goes_find {k : Int} {t : Tok} {h : Int} {d : Addr} {es : List DictEntry} {n : Nat} {s : Shared} (hd : s.heap.get? d = some (D es n)) (hn : ∀ e ∈ es, e.hash ≠ h) : Goes p w n₀ ann c q (dictFind d (.int k t) h) s none s 1 := by
  unfold dictFind
  refine goes_holding ?_
  refine goes_bind (n := 1) (m := 0) (s₁ := s) (a := es.toArray) ?_ ?_
  · unfold dictEntries
    refine goes_bind (n := 1) (m := 0) (goes_load hd) ?_
    exact goes_pure
  · dsimp only
    rw [places_none hn]
    exact goes_pure

/-! a heap with the object m at its place -/
def hp (bs : List Obj) (m : Obj) (r : List Obj) (l : Life) : Heap := ⟨(bs ++ m :: r).toArray, l⟩
theorem hp_get {bs r : List Obj} {l : Life} {es : List DictEntry} {n : Nat} : (hp bs (D es n) r l).get? bs.length = some (D es n) := by
  unfold hp Heap.get?
  simp
theorem hp_push {bs r : List Obj} {m o : Obj} {l : Life} : (hp bs m r l).push o = hp bs m (r ++ [o]) l := by
  unfold hp Heap.push
  simp
theorem hp_shift {bs r : List Obj} {m o : Obj} {l : Life} : hp bs m (r ++ [o]) l = hp (bs ++ m :: r) o [] l := by
  unfold hp
  simp
theorem hp_update {bs r : List Obj} {l : Life} {es : List DictEntry} {n : Nat} {f : Obj → Obj} : (hp bs (D es n) r l).update bs.length f = hp bs (f (D es n)) r l := by
  unfold hp Heap.update
  have : ((bs ++ D es n :: r).toArray.modify bs.length f) = (bs ++ f (D es n) :: r).toArray := by
    apply Array.toList_inj.mp
    rw [Array.toList_modify]
    induction bs with
    | nil => rfl
    | cons b bs ih => simpa using ih
  exact congrArg (fun x => Heap.mk x l) this
theorem hp_size {bs r : List Obj} {m : Obj} {l : Life} : (hp bs m r l).objs.size = bs.length + (r.length + 1) := by
  unfold hp
  simp
/-- the shared state with that heap -/
abbrev sh (s : Shared) (h : Heap) (t : Nat) : Shared := { s with heap := h, toks := t }
/-- lookBehind behind a short dict -/
theorem goes_push {e : DictEntry} {bs r : List Obj} {l : Life} {es : List DictEntry} {n : Nat} {part : Option Value} {s : Shared} {t : Nat} (hb : n₀ ≤ bs.length) (hl : es.length + 1 ≤ 100000) :
    Goes p w n₀ ann c q (updateDictKeys bs.length (·.push e) part) (sh s (hp bs (D es n) r l) t) () (sh s (hp bs (D (es ++ [e]) (n + 1)) r l) t) 3 := by
  unfold updateDictKeys
  refine goes_bind (n := 1) (m := 2) (goes_load hp_get) ?_
  refine goes_bind (n := 1) (m := 1) (goes_update (by rw [hp_get]; rfl) hb) ?_
  have e1 : (sh s (hp bs (D es n) r l) t).heap.update bs.length (Obj.mapDictKeys (·.push e)) = hp bs (D (es ++ [e]) (n + 1)) r l := by
    show (hp bs (D es n) r l).update _ _ = _
    rw [hp_update]
    show hp bs ({ cls := .type "dict", data := .dict (es.toArray.push e) (n + 1) } : Obj) r l = _
    rw [List.push_toArray]
  rw [e1]
  unfold lookBehind
  refine goes_bind (n := 1) (m := 0) (goes_load hp_get) ?_
  have e2 : (D (es ++ [e]) (n + 1)).data.pastItsLine = none := by
    show (if (es ++ [e]).toArray.size > sizeLine + 1 then some "dict:memory" else none) = none
    rw [if_neg (by rw [sizeLine_eq]; simp; omega)]
  rw [e2]
  exact goes_pure
theorem goes_set {i : Int} {ti : Tok} {v : Value} {bs r : List Obj} {l : Life} {es : List DictEntry} {n : Nat} {s : Shared} {t : Nat} (h0 : 0 ≤ i) (h1 : i < 2 ^ 61 - 1) (hb : n₀ ≤ bs.length) (hl : es.length + 1 ≤ 100000) (hn : ∀ e ∈ es, e.hash ≠ i) :
    Goes p w n₀ ann c q (dictSet bs.length (.int i ti) v) (sh s (hp bs (D es n) r l) t) () (sh s (hp bs (D (es ++ [⟨i, .int i ti, v⟩]) (n + 1)) r l) (t + 1)) 10 := by
  unfold dictSet
  refine goes_holding (goes_bind (n := 5) (m := 5) (goes_hash h0 h1) ?_)
  unfold dictSetHashed
  refine goes_holding (goes_bind (n := 1) (m := 4) (goes_find hp_get hn) ?_)
  exact goes_bind (n := 1) (m := 3) goes_rule (goes_push hb hl)
/-- a loop whose turns each take m steps -/
theorem goes_for {X : Type} {f : X → Unit → Sem (ForInStep Unit)} {m : Nat} : ∀ {xs : List X} (st : List X → Shared), (∀ pre x post, xs = pre ++ x :: post → Goes p w n₀ ann c q (f x ()) (st pre) (.yield ()) (st (pre ++ [x])) m) → Goes p w n₀ ann c q (forIn xs () f) (st []) () (st xs) (xs.length * m)
  | [], st, _ => by
    rw [List.forIn_nil, show ([] : List X).length * m = 0 by simp]; exact goes_pure
  | x :: xs, st, h => by
    rw [List.forIn_cons, show (x :: xs).length * m = m + xs.length * m by rw [List.length_cons, Nat.succ_mul, Nat.add_comm]]
    refine goes_bind (h [] x xs rfl) ?_
    have ih := goes_for (xs := xs) (fun l => st (x :: l)) fun pre y post e => h (x :: pre) y post (by rw [e]; rfl)
    exact ih

/-! an entry as it is written -/
structure En where
  k : Nat
  v : Str
  pk : Pos
  pv : Pos
abbrev En.key (x : En) : Expr := .Constant (.int x.k) 0 x.pk
abbrev En.val (x : En) : Expr := .Constant (.str x.v) 0 x.pv
theorem goes_key {x : En} {env : Env} {s : Shared} {h : Heap} {t : Nat} : Goes p w n₀ ann c q (eval x.key env) (sh s h t) (.int x.k t) (sh s h (t + 1)) 1 := fun _ _ _ _ pos => ⟨pos, rfl⟩
theorem goes_val {x : En} {env : Env} {s : Shared} {h : Heap} {t : Nat} (ps : Pos) : Goes p w n₀ ann c q (do let y ← eval x.val env; standAt ps; pure y) (sh s h t) (.str x.v t) (sh s h (t + 1)) 2 := fun _ _ _ _ _ => ⟨ps, rfl⟩

/-- what the entries become, from the token t on -/
def ents : Nat → List En → List DictEntry
  | _, [] => []
  | t, x :: r => ⟨x.k, .int x.k t, .str x.v (t + 1)⟩ :: ents (t + 3) r
theorem ents_app : ∀ (t : Nat) (l r : List En), ents t (l ++ r) = ents t l ++ ents (t + 3 * l.length) r
  | t, [], r => by simp [ents]
  | t, x :: l, r => by
    simp only [List.cons_append, ents, ents_app (t + 3) l r, List.length_cons]
    rw [show t + 3 + 3 * l.length = t + 3 * (l.length + 1) by omega]
theorem ents_length : ∀ (t : Nat) (l : List En), (ents t l).length = l.length
  | _, [] => rfl
  | t, x :: l => by simp [ents, ents_length (t + 3) l]
theorem ents_hash : ∀ {t : Nat} {l : List En} {e : DictEntry}, e ∈ ents t l → ∃ x ∈ l, e.hash = x.k
  | _, [], _, h => absurd h List.not_mem_nil
  | t, x :: l, e, h => by
    rcases List.mem_cons.mp h with rfl | h
    · exact ⟨x, List.mem_cons_self, rfl⟩
    · obtain ⟨y, hy, e⟩ := ents_hash h
      exact ⟨y, List.mem_cons_of_mem _ hy, e⟩
/-- the pair of trees of an entry -/
abbrev pr (env : Env) (ps : Pos) (x : En) : Sem Value × Sem Value := (eval x.key env, do let y ← eval x.val env; standAt ps; pure y)
/-- keys that rise -/
abbrev Rise (l : List En) : Prop := l.Pairwise fun x y => x.k ≠ y.k
theorem goes_sub {env : Env} {ps : Pos} {xs : List En} {bs : List Obj} {l : Life} {s : Shared} {t : Nat} (hb : n₀ ≤ bs.length) (hl : 15 < xs.length ∧ xs.length < 1000) (hr : Rise xs) (hk : ∀ x ∈ xs, x.k < 2 ^ 61 - 1) :
    Goes p w n₀ ann c q (subDict (xs.map (pr env ps))) (sh s ⟨bs.toArray, l⟩ t) bs.length (sh s (hp bs (D (ents t xs) xs.length) [] l) (t + 3 * xs.length)) (1 + (1 + xs.length * 13)) := by
  unfold subDict
  refine goes_bind (n := 1) (a := bs.length) (s₁ := sh s (hp bs (D [] 0) [] l) t) ?_ ?_
  · have := goes_alloc (p := p) (w := w) (n₀ := n₀) (ann := ann) (c := c) (q := q) (o := D [] 0) (s := sh s ⟨bs.toArray, l⟩ t)
    have e : (sh s ⟨bs.toArray, l⟩ t).heap.push (D [] 0) = hp bs (D [] 0) [] l := by
      show (⟨bs.toArray.push (D [] 0), l⟩ : Heap) = _
      unfold hp; rw [List.push_toArray]
    rw [e] at this
    exact this
  · refine goes_bind (a := ()) (n := 1 + xs.length * 13) (m := 0) (goes_holding ?_) goes_pure
    rw [List.length_map, if_neg (by omega)]
    refine goes_bind (a := ()) (n := 1) goes_rule ?_
    refine goes_bind (a := ()) (n := xs.length * 13) (m := 0) ?_ goes_pure
    rw [List.forIn_map]
    have e : ∀ ys : List En, t + 3 * ys.length + 3 = t + 3 * (ys.length + 1) := fun ys => by omega
    refine goes_for (m := 13) (fun ys => sh s (hp bs (D (ents t ys) ys.length) [] l) (t + 3 * ys.length)) ?_
    intro ys x zs hx
    have hx' : x ∈ xs := by rw [hx]; simp
    have hlen : ys.length + 1 ≤ xs.length := by rw [hx]; simp
    have hne : ∀ e ∈ ents t ys, e.hash ≠ (x.k : Int) := by
      intro e he hh
      obtain ⟨y, hy, e1⟩ := ents_hash he
      rw [e1] at hh
      rw [hx] at hr
      exact (List.pairwise_append.mp hr).2.2 y hy x List.mem_cons_self (by omega)
    refine goes_bind (n := 1) (m := 12) goes_key ?_
    refine goes_bind (n := 2) (m := 10) (goes_holding (goes_val ps)) ?_
    refine goes_bind (a := ()) (n := 10) (m := 0) (s₁ := sh s (hp bs (D (ents t (ys ++ [x])) (ys ++ [x]).length) [] l) (t + 3 * (ys ++ [x]).length)) (goes_holding ?_) goes_pure
    have := goes_set (p := p) (w := w) (n₀ := n₀) (ann := ann) (c := c) (q := q) (i := x.k) (ti := t + 3 * ys.length) (v := .str x.v (t + 3 * ys.length + 1)) (bs := bs) (r := []) (l := l) (es := ents t ys) (n := ys.length) (s := s) (t := t + 3 * ys.length + 1 + 1) (by omega) (by have := hk x hx'; omega) hb (by rw [ents_length]; omega) hne
    rw [ents_app, List.length_append, List.length_singleton, ← e]
    exact this
/-- the values of the pairs -/
def pairsV : Nat → List En → List (Value × Value)
  | _, [] => []
  | t, x :: r => (.int x.k t, .str x.v (t + 1)) :: pairsV (t + 2) r
theorem goes_pairs {env : Env} {ps : Pos} {h : Heap} {s : Shared} : ∀ {xs : List En} {t : Nat}, Goes p w n₀ ann c q (evalPairs (xs.map (pr env ps))) (sh s h t) (pairsV t xs) (sh s h (t + 2 * xs.length)) (xs.length * 3)
  | [], t => goes_pure
  | x :: xs, t => by
    rw [show (x :: xs).length * 3 = 1 + (2 + (xs.length * 3 + 0)) by rw [List.length_cons]; omega, show t + 2 * (x :: xs).length = t + 2 + 2 * xs.length by rw [List.length_cons]; omega]
    show Goes p w n₀ ann c q (evalPairs ((eval x.key env, do let y ← eval x.val env; standAt ps; pure y) :: xs.map (pr env ps))) _ _ _ _
    unfold evalPairs
    refine goes_bind goes_key ?_
    refine goes_bind (goes_holding (goes_val ps)) ?_
    exact goes_bind (goes_holding (goes_pairs (xs := xs) (t := t + 2))) goes_pure
def entsS : Nat → List En → List DictEntry
  | _, [] => []
  | t, x :: r => ⟨x.k, .int x.k t, .str x.v (t + 1)⟩ :: entsS (t + 2) r
theorem entsS_length : ∀ (t : Nat) (l : List En), (entsS t l).length = l.length
  | _, [] => rfl
  | t, x :: l => by simp [entsS, entsS_length (t + 2) l]
theorem entsS_hash : ∀ {t : Nat} {l : List En} {e : DictEntry}, e ∈ entsS t l → ∃ x ∈ l, e.hash = x.k
  | _, [], _, h => absurd h List.not_mem_nil
  | t, x :: l, e, h => by
    rcases List.mem_cons.mp h with rfl | h
    · exact ⟨x, List.mem_cons_self, rfl⟩
    · obtain ⟨y, hy, e⟩ := entsS_hash h
      exact ⟨y, List.mem_cons_of_mem _ hy, e⟩
/-- the values set one behind the other -/
theorem goes_sets {bs : List Obj} {l : Life} {s : Shared} {f : Value × Value → Unit → Sem (ForInStep Unit)} (hf : ∀ z u, f z u = (dictSet bs.length z.1 z.2 >>= fun _ => pure (.yield ()))) (hb : n₀ ≤ bs.length) :
    ∀ {xs : List En} {es : List DictEntry} {n t t' : Nat}, es.length + xs.length < 1000 → Rise xs → (∀ x ∈ xs, x.k < 2 ^ 61 - 1) → (∀ e ∈ es, ∀ x ∈ xs, e.hash ≠ (x.k : Int)) →
      Goes p w n₀ ann c q (forIn (pairsV t xs) () f) (sh s (hp bs (D es n) [] l) t') () (sh s (hp bs (D (es ++ entsS t xs) (n + xs.length)) [] l) (t' + xs.length)) (xs.length * 10)
  | [], es, n, t, t', _, _, _, _ => by
    rw [show pairsV t [] = [] from rfl, List.forIn_nil, show entsS t [] = [] from rfl, List.append_nil]
    exact goes_pure
  | x :: xs, es, n, t, t', hl, hr, hk, hn => by
    rw [show pairsV t (x :: xs) = (.int x.k t, .str x.v (t + 1)) :: pairsV (t + 2) xs from rfl, List.forIn_cons, hf]
    rw [List.length_cons] at hl
    have h1 := goes_set (p := p) (w := w) (n₀ := n₀) (ann := ann) (c := c) (q := q) (i := x.k) (ti := t) (v := .str x.v (t + 1)) (bs := bs) (r := []) (l := l) (es := es) (n := n) (s := s) (t := t') (by omega) (by have := hk x List.mem_cons_self; omega) hb (by omega) (fun e he => hn e he x List.mem_cons_self)
    have h2 := goes_sets (s := s) (l := l) hf hb (xs := xs) (es := es ++ [⟨x.k, .int x.k t, .str x.v (t + 1)⟩]) (n := n + 1) (t := t + 2) (t' := t' + 1) (by rw [List.length_append, List.length_singleton]; omega) (List.pairwise_cons.mp hr).2 (fun y hy => hk y (List.mem_cons_of_mem _ hy)) (by
      intro e he y hy
      rcases List.mem_append.mp he with he | he
      · exact hn e he y (List.mem_cons_of_mem _ hy)
      · rw [List.mem_singleton.mp he]
        have := (List.pairwise_cons.mp hr).1 y hy
        show (x.k : Int) ≠ y.k
        omega)
    rw [List.append_assoc] at h2
    rw [show (x :: xs).length * 10 = 10 + 0 + xs.length * 10 by rw [List.length_cons]; omega, show n + (x :: xs).length = n + 1 + xs.length by rw [List.length_cons]; omega, show t' + (x :: xs).length = t' + 1 + xs.length by rw [List.length_cons]; omega]
    refine goes_bind (m := xs.length * 10) (goes_bind (m := 0) h1 goes_pure) ?_
    exact h2
theorem goes_subS {env : Env} {ps : Pos} {xs : List En} {bs : List Obj} {l : Life} {s : Shared} {t : Nat} (hb : n₀ ≤ bs.length) (hl : xs.length ≤ 15) (hr : Rise xs) (hk : ∀ x ∈ xs, x.k < 2 ^ 61 - 1) :
    Goes p w n₀ ann c q (subDict (xs.map (pr env ps))) (sh s ⟨bs.toArray, l⟩ t) bs.length (sh s (hp bs (D (entsS t xs) xs.length) [] l) (t + 3 * xs.length)) (1 + xs.length * 13) := by
  unfold subDict
  refine goes_bind (n := 1) (a := bs.length) (s₁ := sh s (hp bs (D [] 0) [] l) t) ?_ ?_
  · have := goes_alloc (p := p) (w := w) (n₀ := n₀) (ann := ann) (c := c) (q := q) (o := D [] 0) (s := sh s ⟨bs.toArray, l⟩ t)
    have e : (sh s ⟨bs.toArray, l⟩ t).heap.push (D [] 0) = hp bs (D [] 0) [] l := by
      show (⟨bs.toArray.push (D [] 0), l⟩ : Heap) = _
      unfold hp; rw [List.push_toArray]
    rw [e] at this
    exact this
  · refine goes_bind (a := ()) (n := xs.length * 13) (m := 0) (goes_holding ?_) goes_pure
    rw [List.length_map, if_pos hl, show xs.length * 13 = xs.length * 3 + (xs.length * 10 + 0) by omega]
    refine goes_bind goes_pairs (goes_holding (goes_bind (a := ()) ?_ goes_pure))
    have := goes_sets (p := p) (w := w) (n₀ := n₀) (ann := ann) (c := c) (q := q) (bs := bs) (l := l) (s := s) (f := fun x __s => match x with | (k, v) => do dictSet bs.length k v; pure (ForInStep.yield PUnit.unit)) (fun z u => rfl) hb (xs := xs) (es := []) (n := 0) (t := t) (t' := t + 2 * xs.length) (by simp; omega) hr hk (by simp)
    rw [List.nil_append, Nat.zero_add, show t + 2 * xs.length + xs.length = t + 3 * xs.length by omega] at this
    exact this
/-- the lesser dict goes into the greater -/
theorem goes_isDict {bs r : List Obj} {l : Life} {s : Shared} {t : Nat} {es : List DictEntry} {n : Nat} : Goes p w n₀ ann c q (isInstance (.ref bs.length) (.type "dict")) (sh s (hp bs (D es n) r l) t) true (sh s (hp bs (D es n) r l) t) 1 := by
  unfold isInstance
  refine goes_bind (n := 1) (m := 0) (a := .type "dict") (s₁ := sh s (hp bs (D es n) r l) t) ?_ ?_
  · unfold typeOf
    refine goes_bind (n := 1) (m := 0) (goes_load hp_get) ?_
    exact goes_pure
  · have e : isSubtype (.type "dict") (.type "dict") = pure true := by kernel_rfl
    rw [e]; exact goes_pure
theorem goes_iterOf {bs r : List Obj} {l : Life} {s : Shared} {t : Nat} {es : List DictEntry} {n : Nat} : Goes p w n₀ ann c q (specialOf (.ref bs.length) "__iter__") (sh s (hp bs (D es n) r l) t) (some (.builtin "dict.__iter__")) (sh s (hp bs (D es n) r l) t) 1 := by
  unfold specialOf
  refine goes_bind (n := 1) (m := 0) (a := .type "dict") (s₁ := sh s (hp bs (D es n) r l) t) ?_ ?_
  · unfold typeOf
    refine goes_bind (n := 1) (m := 0) (goes_load hp_get) ?_
    exact goes_pure
  · have e : typeLookup (.type "dict") "__iter__" = pure (some (.builtin "dict.__iter__")) := by kernel_rfl
    rw [e]; exact goes_pure

theorem hp_get2 {bs r : List Obj} {m : Obj} {l : Life} {fs : List DictEntry} {k : Nat} : (hp bs m (r ++ [D fs k]) l).get? (bs.length + (r.length + 1)) = some (D fs k) := by
  rw [hp_shift, show bs.length + (r.length + 1) = (bs ++ m :: r).length by simp]
  exact hp_get
theorem goes_put {i : Int} {ti : Tok} {v : Value} {bs r : List Obj} {l : Life} {es : List DictEntry} {n : Nat} {s : Shared} {t : Nat} (hb : n₀ ≤ bs.length) (hl : es.length + 1 ≤ 100000) (hn : ∀ e ∈ es, e.hash ≠ i) :
    Goes p w n₀ ann c q (dictPut bs.length i (.int i ti) v) (sh s (hp bs (D es n) r l) t) () (sh s (hp bs (D (es ++ [⟨i, .int i ti, v⟩]) (n + 1)) r l) t) 4 := by
  unfold dictPut
  refine goes_bind (n := 1) (m := 3) (goes_find hp_get hn) ?_
  exact goes_push hb hl
theorem goes_merge {bs r : List Obj} {l : Life} {es fs : List DictEntry} {n k : Nat} {s : Shared} {t : Nat} (hb : n₀ ≤ bs.length) (hs : (bs.length + (r.length + 1) == sysModules) = false) (he : es ≠ []) (hl : es.length + fs.length < 10000)
    (hi : ∀ f ∈ fs, ∃ i ti v, f = ⟨i, .int i ti, v⟩) (hr : fs.Pairwise fun x y => x.hash ≠ y.hash) (hn : ∀ e ∈ es, ∀ f ∈ fs, e.hash ≠ f.hash) :
    Goes p w n₀ ann c q (mergeMapping bs.length (.ref (bs.length + (r.length + 1))) false) (sh s (hp bs (D es n) (r ++ [D fs k]) l) t) () (sh s (hp bs (D (es ++ fs) (n + fs.length)) (r ++ [D fs k]) l) t) (1 + (1 + (0 + (1 + (1 + (1 + (fs.length * 6 + 0))))))) := by
  have shift : ∀ (m : Obj), hp bs m (r ++ [D fs k]) l = hp (bs ++ m :: r) (D fs k) [] l := fun m => hp_shift
  have hlen : bs.length + (r.length + 1) = (bs ++ D es n :: r).length := by simp
  unfold mergeMapping
  refine goes_bind (a := true) (n := 1) (m := 1 + (0 + (1 + (1 + (1 + (fs.length * 6 + 0)))))) (s₁ := sh s (hp bs (D es n) (r ++ [D fs k]) l) t) ?_ ?_
  · rw [hlen, shift]; exact goes_isDict
  rw [if_pos rfl]
  refine goes_bind (a := some (.builtin "dict.__iter__")) (s₁ := sh s (hp bs (D es n) (r ++ [D fs k]) l) t) ?_ ?_
  · rw [hlen, shift]; exact goes_iterOf
  refine goes_bind (a := true) (s₁ := sh s (hp bs (D es n) (r ++ [D fs k]) l) t) ?_ ?_
  · have e : (some (Value.builtin "dict.__iter__") == some (.builtin "dict.__iter__")) = true := by decide +kernel
    rw [e]; exact goes_pure
  dsimp only
  rw [hs]
  rw [if_neg Bool.false_ne_true]
  refine goes_bind (a := es.toArray) (s₁ := sh s (hp bs (D es n) (r ++ [D fs k]) l) t) ?_ ?_
  · unfold dictEntries
    refine goes_bind (n := 1) (m := 0) (goes_load hp_get) ?_
    exact goes_pure
  have hE : es.toArray.isEmpty = false := by simpa using he
  rw [hE, if_neg Bool.false_ne_true]
  have hld : ∀ es' n', Goes p w n₀ ann c q (dictEntries (bs.length + (r.length + 1))) (sh s (hp bs (D es' n') (r ++ [D fs k]) l) t) fs.toArray (sh s (hp bs (D es' n') (r ++ [D fs k]) l) t) 1 := by
    intro es' n'
    unfold dictEntries
    refine goes_bind (n := 1) (m := 0) (goes_load hp_get2) ?_
    exact goes_pure
  have hep : ∀ es' n', Goes p w n₀ ann c q (dictEpoch (bs.length + (r.length + 1))) (sh s (hp bs (D es' n') (r ++ [D fs k]) l) t) k (sh s (hp bs (D es' n') (r ++ [D fs k]) l) t) 1 := by
    intro es' n'
    unfold dictEpoch
    refine goes_bind (n := 1) (m := 0) (goes_load hp_get2) ?_
    exact goes_pure
  refine goes_bind (hld _ _) ?_
  refine goes_bind (hep _ _) ?_
  refine goes_bind (a := ()) (s₁ := sh s (hp bs (D (es ++ fs) (n + fs.length)) (r ++ [D fs k]) l) t) ?_ goes_pure
  rw [List.size_toArray]
  have key := goes_for (p := p) (w := w) (n₀ := n₀) (ann := ann) (c := c) (q := q) (m := 6) (xs := List.range fs.length) (fun ys => sh s (hp bs (D (es ++ fs.take ys.length) (n + ys.length)) (r ++ [D fs k]) l) t) (f := fun i __s => do
      let __do_lift ← dictEntries (bs.length + (r.length + 1))
      match __do_lift[i]? with
        | some e => do
          holding [e.key, e.val] (dictPut bs.length e.hash e.key e.val)
          let __do_lift ← dictEpoch (bs.length + (r.length + 1))
          if (__do_lift != k) = true then do
              unsupported "dict.changed-during-merge"
              pure (ForInStep.yield PUnit.unit)
            else pure (ForInStep.yield PUnit.unit)
        | x => do
          unsupported "dict.changed-during-merge"
          pure (ForInStep.yield PUnit.unit)) (by
    intro ys i zs hx
    have hi' : i = ys.length ∧ i < fs.length := by
      have h1 : (List.range fs.length)[ys.length]? = some i := by rw [hx]; simp
      rw [List.getElem?_range (by have := congrArg List.length hx; simp at this; omega)] at h1
      have h2 := congrArg List.length hx
      simp at h2
      exact ⟨(Option.some.inj h1).symm, by have := Option.some.inj h1; omega⟩
    obtain ⟨rfl, hlt⟩ := hi'
    obtain ⟨i, ti, v, hf⟩ := hi fs[ys.length] (List.getElem_mem hlt)
    refine goes_bind (n := 1) (m := 5) (hld _ _) ?_
    have hg : fs.toArray[ys.length]? = some ⟨i, .int i ti, v⟩ := by
      rw [List.getElem?_toArray, List.getElem?_eq_getElem hlt, hf]
    rw [hg]
    dsimp only
    have ht : fs.take (ys ++ [ys.length]).length = fs.take ys.length ++ [⟨i, .int i ti, v⟩] := by
      rw [List.length_append, List.length_singleton, List.take_succ, List.getElem?_eq_getElem hlt, hf]; rfl
    have hpt := goes_put (p := p) (w := w) (n₀ := n₀) (ann := ann) (c := c) (q := q) (i := i) (ti := ti) (v := v) (bs := bs) (r := r ++ [D fs k]) (l := l) (es := es ++ fs.take ys.length) (n := n + ys.length) (s := s) (t := t) hb (by rw [List.length_append, List.length_take]; omega) (by
      intro e hm
      rcases List.mem_append.mp hm with hm | hm
      · have := hn e hm fs[ys.length] (List.getElem_mem hlt)
        rw [hf] at this; exact this
      · obtain ⟨j, hj, rfl⟩ := List.mem_iff_getElem.mp hm
        rw [List.length_take] at hj
        rw [List.getElem_take]
        have := List.pairwise_iff_getElem.mp hr j ys.length (by omega) hlt (by omega)
        rw [hf] at this; exact this)
    rw [List.append_assoc, ← ht, show n + ys.length + 1 = n + (ys ++ [ys.length]).length by rw [List.length_append, List.length_singleton]; omega] at hpt
    refine goes_bind (n := 4) (m := 1) (goes_holding hpt) ?_
    refine goes_bind (n := 1) (m := 0) (hep _ _) ?_
    have hk : (k != k) = false := by simp
    rw [hk, if_neg Bool.false_ne_true]
    exact goes_pure)
  simp only [List.length_nil, List.take_zero, List.append_nil, Nat.add_zero, List.length_range, List.take_length] at key
  exact key
end
end Mine
end
section
open PySem PySem.W PyProof.Rows
set_option maxRecDepth 100000
namespace Mine
section
variable {p : Program} {w : World} {n₀ : Nat} {ann : Option Value} {c : Code} {q : Pos} {α β : Type}
/-- an item of a display -/
abbrev it (env : Env) (ps : Pos) (x : En) : Option (Sem Value) × Sem Value := (some (pr env ps x).1, (pr env ps x).2)
/-- what a full run does: the first becomes the dict, each later one is laid into it -/
def flushT (run : List (Sem Value × Sem Value)) (main : Option Addr) : Sem (Option Addr) :=
  if run.isEmpty = true then pure main
  else match main with
    | none => do
      let d ← subDict run
      pure (some d)
    | some d => do
      let sub ← holding [Value.ref d] (subDict run)
      (holding [Value.ref d, Value.ref sub] (mergeMapping d (Value.ref sub) false)).onRaise fun x => do
          let _ ← holding [Value.ref d, x] (runValue (Code.builtin "proto.let_go" { }))
          pure ()
      pure (some d)
/-- a turn at an item that has a key -/
abbrev TurnOf (f : (Option (Sem Value) × Sem Value) → Option Addr × List (Sem Value × Sem Value) → Sem (ForInStep (Option Addr × List (Sem Value × Sem Value)))) (env : Env) (ps : Pos) : Prop :=
  ∀ x s, f (it env ps x) s = if ((s.2 ++ [pr env ps x]).length == 17) = true then do
      let main ← flushT (s.2 ++ [pr env ps x]) s.1
      pure (ForInStep.yield (main, []))
    else pure (ForInStep.yield (s.1, s.2 ++ [pr env ps x]))
section
variable {f : (Option (Sem Value) × Sem Value) → Option Addr × List (Sem Value × Sem Value) → Sem (ForInStep (Option Addr × List (Sem Value × Sem Value)))} {env : Env} {ps : Pos}
/-- short of 17 a run only grows -/
theorem goes_gather (hf : TurnOf f env ps) {rest : List (Option (Sem Value) × Sem Value)} {main : Option Addr} {s s' : Shared} {r : Option Addr × List (Sem Value × Sem Value)} {n : Nat} : ∀ {ys : List En} {run : List En}, run.length + ys.length < 17 →
    Goes p w n₀ ann c q (forIn rest (main, (run ++ ys).map (pr env ps)) f) s r s' n → Goes p w n₀ ann c q (forIn (ys.map (it env ps) ++ rest) (main, run.map (pr env ps)) f) s r s' n
  | [], run, _, h => by rw [List.append_nil] at h; exact h
  | y :: ys, run, hl, h => by
    rw [List.map_cons, List.cons_append, List.forIn_cons, hf]
    rw [List.length_cons] at hl
    rw [if_neg (by simp; omega)]
    have ih := goes_gather hf (ys := ys) (run := run ++ [y]) (by simp; omega) (by rw [List.append_assoc]; exact h)
    rw [show n = 0 + n by omega]
    refine goes_bind goes_pure ?_
    rw [List.map_append] at ih
    exact ih
/-- the 17th lets it go -/
theorem goes_batch (hf : TurnOf f env ps) {rest : List (Option (Sem Value) × Sem Value)} {main main' : Option Addr} {s s₁ s' : Shared} {r : Option Addr × List (Sem Value × Sem Value)} {n m : Nat} {ys : List En} (hl : ys.length = 17)
    (h1 : Goes p w n₀ ann c q (flushT (ys.map (pr env ps)) main) s main' s₁ n) (h : Goes p w n₀ ann c q (forIn rest (main', []) f) s₁ r s' m) : Goes p w n₀ ann c q (forIn (ys.map (it env ps) ++ rest) (main, []) f) s r s' (n + m) := by
  obtain ⟨zs, z, rfl⟩ : ∃ zs z, ys = zs ++ [z] := ⟨ys.dropLast, ys.getLast (by intro e; rw [e] at hl; cases hl), (List.dropLast_concat_getLast _).symm⟩
  rw [List.map_append, List.append_assoc]
  rw [List.length_append, List.length_singleton] at hl
  refine goes_gather hf (ys := zs) (run := []) (by simp; omega) ?_
  rw [List.nil_append, List.map_singleton, List.singleton_append, List.forIn_cons, hf]
  rw [if_pos (by simp; omega)]
  rw [List.map_append] at h1
  refine goes_bind (goes_bind (m := 0) h1 goes_pure) ?_
  exact h
end
/-- the first run -/
theorem goes_flush1 {env : Env} {ps : Pos} {xs : List En} {bs : List Obj} {l : Life} {s : Shared} {t : Nat} (hb : n₀ ≤ bs.length) (hl : 15 < xs.length ∧ xs.length < 1000) (hr : Rise xs) (hk : ∀ x ∈ xs, x.k < 2 ^ 61 - 1) :
    Goes p w n₀ ann c q (flushT (xs.map (pr env ps)) none) (sh s ⟨bs.toArray, l⟩ t) (some bs.length) (sh s (hp bs (D (ents t xs) xs.length) [] l) (t + 3 * xs.length)) (1 + (1 + xs.length * 13)) := by
  unfold flushT
  rw [if_neg (by simp; intro e; rw [e] at hl; simp at hl)]
  exact goes_bind (m := 0) (goes_sub hb hl hr hk) goes_pure
theorem ents_int : ∀ {t : Nat} {l : List En} {f : DictEntry}, f ∈ ents t l → ∃ i ti v, f = ⟨i, .int i ti, v⟩
  | _, [], _, h => absurd h List.not_mem_nil
  | t, x :: l, f, h => by
    rcases List.mem_cons.mp h with rfl | h
    · exact ⟨_, _, _, rfl⟩
    · exact ents_int h
theorem entsS_int : ∀ {t : Nat} {l : List En} {f : DictEntry}, f ∈ entsS t l → ∃ i ti v, f = ⟨i, .int i ti, v⟩
  | _, [], _, h => absurd h List.not_mem_nil
  | t, x :: l, f, h => by
    rcases List.mem_cons.mp h with rfl | h
    · exact ⟨_, _, _, rfl⟩
    · exact entsS_int h
theorem ents_apart : ∀ {t : Nat} {l : List En}, Rise l → (ents t l).Pairwise fun x y => x.hash ≠ y.hash
  | t, [], _ => List.Pairwise.nil
  | t, x :: l, h => by
    refine List.pairwise_cons.mpr ⟨fun e he => ?_, ents_apart (List.pairwise_cons.mp h).2⟩
    obtain ⟨y, hy, e1⟩ := ents_hash he
    rw [e1]
    have := (List.pairwise_cons.mp h).1 y hy
    show (x.k : Int) ≠ y.k
    omega
theorem entsS_apart : ∀ {t : Nat} {l : List En}, Rise l → (entsS t l).Pairwise fun x y => x.hash ≠ y.hash
  | t, [], _ => List.Pairwise.nil
  | t, x :: l, h => by
    refine List.pairwise_cons.mpr ⟨fun e he => ?_, entsS_apart (List.pairwise_cons.mp h).2⟩
    obtain ⟨y, hy, e1⟩ := entsS_hash he
    rw [e1]
    have := (List.pairwise_cons.mp h).1 y hy
    show (x.k : Int) ≠ y.k
    omega
/-- a later run, of a sub dict whose entries are fs -/
theorem goes_flush2 {pairs : List (Sem Value × Sem Value)} {fs es : List DictEntry} {bs r : List Obj} {l : Life} {s : Shared} {n k m t t' : Nat} (hp0 : pairs.isEmpty = false) (hb : n₀ ≤ bs.length)
    (sub : Goes p w n₀ ann c q (subDict pairs) (sh s (hp bs (D es n) r l) t) (bs.length + (r.length + 1)) (sh s (hp bs (D es n) (r ++ [D fs k]) l) t') m)
    (hs : (bs.length + (r.length + 1) == sysModules) = false) (he : es ≠ []) (hl : es.length + fs.length < 10000)
    (hi : ∀ f ∈ fs, ∃ i ti v, f = ⟨i, .int i ti, v⟩) (hr : fs.Pairwise fun x y => x.hash ≠ y.hash) (hn : ∀ e ∈ es, ∀ f ∈ fs, e.hash ≠ f.hash) :
    Goes p w n₀ ann c q (flushT pairs (some bs.length)) (sh s (hp bs (D es n) r l) t) (some bs.length) (sh s (hp bs (D (es ++ fs) (n + fs.length)) (r ++ [D fs k]) l) t') (m + (5 + fs.length * 6)) := by
  unfold flushT
  rw [hp0, if_neg Bool.false_ne_true]
  refine goes_bind (goes_holding sub) ?_
  have := goes_merge (p := p) (w := w) (n₀ := n₀) (ann := ann) (c := c) (q := q) (bs := bs) (r := r) (l := l) (es := es) (fs := fs) (n := n) (k := k) (s := s) (t := t') hb hs he hl hi hr hn
  rw [show 5 + fs.length * 6 = (1 + (1 + (0 + (1 + (1 + (1 + (fs.length * 6 + 0))))))) + 0 by omega]
  exact goes_bind (goes_onRaise (goes_holding this)) goes_pure
end
end Mine
end
section
open PySem PySem.W PyProof.Rows
set_option maxRecDepth 100000
namespace Mine
section
variable {p : Program} {w : World} {n₀ : Nat} {ann : Option Value} {c : Code} {q : Pos} {α β : Type}
theorem sub_later {env : Env} {ps : Pos} {xs : List En} {bs r : List Obj} {l : Life} {es : List DictEntry} {n : Nat} {s : Shared} {t : Nat} (hb : n₀ ≤ bs.length) (hl : 15 < xs.length ∧ xs.length < 1000) (hr : Rise xs) (hk : ∀ x ∈ xs, x.k < 2 ^ 61 - 1) :
    Goes p w n₀ ann c q (subDict (xs.map (pr env ps))) (sh s (hp bs (D es n) r l) t) (bs.length + (r.length + 1)) (sh s (hp bs (D es n) (r ++ [D (ents t xs) xs.length]) l) (t + 3 * xs.length)) (1 + (1 + xs.length * 13)) := by
  have h := goes_sub (p := p) (w := w) (n₀ := n₀) (ann := ann) (c := c) (q := q) (env := env) (ps := ps) (bs := bs ++ D es n :: r) (l := l) (s := s) (t := t) (by simp; omega) hl hr hk
  rw [show (bs ++ D es n :: r).length = bs.length + (r.length + 1) by simp, ← hp_shift] at h
  exact h
theorem sub_last {env : Env} {ps : Pos} {xs : List En} {bs r : List Obj} {l : Life} {es : List DictEntry} {n : Nat} {s : Shared} {t : Nat} (hb : n₀ ≤ bs.length) (hl : xs.length ≤ 15) (hr : Rise xs) (hk : ∀ x ∈ xs, x.k < 2 ^ 61 - 1) :
    Goes p w n₀ ann c q (subDict (xs.map (pr env ps))) (sh s (hp bs (D es n) r l) t) (bs.length + (r.length + 1)) (sh s (hp bs (D es n) (r ++ [D (entsS t xs) xs.length]) l) (t + 3 * xs.length)) (1 + xs.length * 13) := by
  have h := goes_subS (p := p) (w := w) (n₀ := n₀) (ann := ann) (c := c) (q := q) (env := env) (ps := ps) (bs := bs ++ D es n :: r) (l := l) (s := s) (t := t) (by simp; omega) hl hr hk
  rw [show (bs ++ D es n :: r).length = bs.length + (r.length + 1) by simp, ← hp_shift] at h
  exact h
/-- the sub dicts that are left behind -/
def subs : Nat → List (List En) → List Obj
  | _, [] => []
  | t, y :: ys => D (ents t y) 17 :: subs (t + 51) ys
section
variable {f : (Option (Sem Value) × Sem Value) → Option Addr × List (Sem Value × Sem Value) → Sem (ForInStep (Option Addr × List (Sem Value × Sem Value)))} {env : Env} {ps : Pos}
theorem goes_later (hf : TurnOf f env ps) {bs : List Obj} {l : Life} {s s' : Shared} {rest : List (Option (Sem Value) × Sem Value)} {res : Option Addr × List (Sem Value × Sem Value)} {N : Nat} (hb : n₀ ≤ bs.length) (hsys : ∀ k : Nat, (bs.length + (k + 1) == sysModules) = false) :
    ∀ {cs : List (List En)} {es : List DictEntry} {r : List Obj} {n t : Nat}, (∀ y ∈ cs, y.length = 17) → Rise cs.flatten → (∀ x ∈ cs.flatten, x.k < 2 ^ 61 - 1) → es ≠ [] → es.length + 17 * cs.length < 10000 → (∀ e ∈ es, ∀ x ∈ cs.flatten, e.hash ≠ (x.k : Int)) →
      Goes p w n₀ ann c q (forIn rest (some bs.length, []) f) (sh s (hp bs (D (es ++ ents t cs.flatten) (n + 17 * cs.length)) (r ++ subs t cs) l) (t + 51 * cs.length)) res s' N →
      Goes p w n₀ ann c q (forIn ((cs.flatten).map (it env ps) ++ rest) (some bs.length, []) f) (sh s (hp bs (D es n) r l) t) res s' (cs.length * 330 + N)
  | [], es, r, n, t, _, _, _, _, _, _, h => by
    simp only [List.flatten_nil, List.map_nil, List.nil_append, ents, subs, List.append_nil, List.length_nil, Nat.mul_zero, Nat.add_zero, Nat.zero_mul, Nat.zero_add] at h ⊢
    exact h
  | y :: cs, es, r, n, t, h17, hr, hk, he, hlen, hn, h => by
    have hy : y.length = 17 := h17 y List.mem_cons_self
    rw [List.flatten_cons] at hr hk hn
    rw [List.length_cons] at hlen
    have hry : Rise y := (List.pairwise_append.mp hr).1
    have hky : ∀ x ∈ y, x.k < 2 ^ 61 - 1 := fun x hx => hk x (List.mem_append.mpr (.inl hx))
    have h1 := goes_flush2 (p := p) (w := w) (n₀ := n₀) (ann := ann) (c := c) (q := q) (pairs := y.map (pr env ps)) (fs := ents t y) (es := es) (bs := bs) (r := r) (l := l) (s := s) (n := n) (by cases y <;> first | cases hy | rfl) hb
      (sub_later (env := env) (ps := ps) hb (by omega) hry hky) (hsys _) he (by rw [ents_length]; omega) (fun f hf => ents_int hf) (ents_apart hry)
      (fun e hm f hm' => by
        obtain ⟨x, hx, e1⟩ := ents_hash hm'
        rw [e1]
        exact hn e hm x (List.mem_append.mpr (.inl hx)))
    rw [ents_length, hy] at h1
    have ih := goes_later hf hb hsys (cs := cs) (es := es ++ ents t y) (r := r ++ [D (ents t y) 17]) (n := n + 17) (t := t + 3 * 17) (fun z hz => h17 z (List.mem_cons_of_mem _ hz)) (List.pairwise_append.mp hr).2.1
      (fun x hx => hk x (List.mem_append.mpr (.inr hx))) (by simp [he]) (by rw [List.length_append, ents_length]; omega) (fun e hm x hx => by
        rcases List.mem_append.mp hm with hm | hm
        · exact hn e hm x (List.mem_append.mpr (.inr hx))
        · obtain ⟨z, hz, e1⟩ := ents_hash hm
          rw [e1]
          have := (List.pairwise_append.mp hr).2.2 z hz x hx
          omega)
      (by
        rw [List.flatten_cons, ents_app, hy, List.length_cons] at h
        rw [show subs t (y :: cs) = D (ents t y) 17 :: subs (t + 51) cs from rfl] at h
        rw [List.append_assoc, List.append_assoc, List.singleton_append, show n + 17 + 17 * cs.length = n + 17 * (cs.length + 1) by omega, show t + 3 * 17 + 51 * cs.length = t + 51 * (cs.length + 1) by omega]
        exact h)
    rw [List.flatten_cons, List.map_append, List.append_assoc, List.length_cons, show (cs.length + 1) * 330 + N = (1 + (1 + 17 * 13)) + (5 + 17 * 6) + (cs.length * 330 + N) by omega]
    exact goes_batch hf hy h1 ih
end
theorem goes_display {env : Env} {ps : Pos} {bs : List Obj} {l : Life} {s : Shared} {t : Nat} {x₀ z : List En} {cs : List (List En)} (hb : n₀ ≤ bs.length) (hsys : ∀ k : Nat, (bs.length + (k + 1) == sysModules) = false) (h0 : x₀.length = 17) (hz : 0 < z.length ∧ z.length ≤ 15) (h17 : ∀ y ∈ cs, y.length = 17) (hcs : cs.length < 500)
    (hr : Rise (x₀ ++ (cs.flatten ++ z))) (hk : ∀ x ∈ x₀ ++ (cs.flatten ++ z), x.k < 2 ^ 61 - 1) :
    Goes p w n₀ ann c q (dictDisplay ((x₀ ++ (cs.flatten ++ z)).map (it env ps))) (sh s ⟨bs.toArray, l⟩ t) (.ref bs.length)
      (sh s (hp bs (D (ents t x₀ ++ ents (t + 51) cs.flatten ++ entsS (t + 51 + 51 * cs.length) z) (17 + 17 * cs.length + z.length)) (subs (t + 51) cs ++ [D (entsS (t + 51 + 51 * cs.length) z) z.length]) l) (t + 51 + 51 * cs.length + 3 * z.length))
      (223 + (cs.length * 330 + 0) + (1 + z.length * 13 + (5 + z.length * 6) + 0)) := by
  have hr1 := (List.pairwise_append.mp hr)
  have hr2 := (List.pairwise_append.mp hr1.2.1)
  unfold dictDisplay
  dsimp only
  rw [List.map_append, List.map_append]
  refine goes_bind (a := (some bs.length, z.map (pr env ps))) (s₁ := sh s (hp bs (D (ents t x₀ ++ ents (t + 51) cs.flatten) (17 + 17 * cs.length)) ([] ++ subs (t + 51) cs) l) (t + 51 + 51 * cs.length)) ?_ ?_
  · have hF := goes_flush1 (p := p) (w := w) (n₀ := n₀) (ann := ann) (c := c) (q := q) (env := env) (ps := ps) (xs := x₀) (bs := bs) (l := l) (s := s) (t := t) hb (by omega) hr1.1 (fun x hx => hk x (List.mem_append.mpr (.inl hx)))
    rw [h0] at hF
    refine goes_batch (fun x s => rfl) h0 hF ?_
    refine goes_later (fun x s => rfl) hb hsys h17 hr2.1 (fun x hx => hk x (List.mem_append.mpr (.inr (List.mem_append.mpr (.inl hx))))) ?_ ?_ ?_ ?_
    · intro e
      have := congrArg List.length e
      rw [ents_length, h0] at this
      cases this
    · rw [ents_length, h0]; omega
    · intro e he x hx
      obtain ⟨y, hy, e1⟩ := ents_hash he
      rw [e1]
      have := hr1.2.2 y hy x (List.mem_append.mpr (.inl hx))
      omega
    · have e : z.map (it env ps) = z.map (it env ps) ++ [] := by simp
      rw [e]
      refine goes_gather (fun x s => rfl) (ys := z) (run := []) (by simp; omega) ?_
      rw [List.nil_append, List.forIn_nil]
      exact goes_pure
  · have hZ : z ≠ [] := by intro e; rw [e] at hz; simp at hz
    refine goes_bind (m := 0) (a := some bs.length) (s₁ := sh s (hp bs (D (ents t x₀ ++ ents (t + 51) cs.flatten ++ entsS (t + 51 + 51 * cs.length) z) (17 + 17 * cs.length + z.length)) (subs (t + 51) cs ++ [D (entsS (t + 51 + 51 * cs.length) z) z.length]) l) (t + 51 + 51 * cs.length + 3 * z.length)) ?_ goes_pure
    have h1 := goes_flush2 (p := p) (w := w) (n₀ := n₀) (ann := ann) (c := c) (q := q) (pairs := z.map (pr env ps)) (fs := entsS (t + 51 + 51 * cs.length) z) (es := ents t x₀ ++ ents (t + 51) cs.flatten) (bs := bs) (r := subs (t + 51) cs) (l := l) (s := s) (n := 17 + 17 * cs.length) (by cases z <;> first | exact absurd rfl hZ | rfl) hb
      (sub_last (env := env) (ps := ps) hb hz.2 hr2.2.1 (fun x hx => hk x (List.mem_append.mpr (.inr (List.mem_append.mpr (.inr hx)))))) (hsys _) (by
        intro e
        have := congrArg List.length e
        rw [List.length_append, ents_length, h0] at this
        simp at this) (by
        have : cs.flatten.length = 17 * cs.length := by
          clear hr hk hr1 hr2
          induction cs with
          | nil => rfl
          | cons y ys ih =>
            rw [List.flatten_cons, List.length_append, h17 y List.mem_cons_self, ih (fun z hz => h17 z (List.mem_cons_of_mem _ hz)) (by rw [List.length_cons] at hcs; omega), List.length_cons]; omega
        rw [List.length_append, ents_length, ents_length, entsS_length, this]; omega) (fun f hf => entsS_int hf) (entsS_apart hr2.2.1)
      (fun e hm f hm' => by
        obtain ⟨x, hx, e1⟩ := entsS_hash hm'
        rw [e1]
        rcases List.mem_append.mp hm with hm | hm
        · obtain ⟨y, hy, e2⟩ := ents_hash hm
          rw [e2]
          have := hr1.2.2 y hy x (List.mem_append.mpr (.inr hx))
          omega
        · obtain ⟨y, hy, e2⟩ := ents_hash hm
          rw [e2]
          have := hr2.2.2 y hy x hx
          omega)
    rw [entsS_length] at h1
    exact h1
end
end Mine
end
section
open PySem PySem.W PyProof.Rows
set_option maxRecDepth 1000000
namespace Mine
noncomputable section
abbrev PG : Program := PySem.Challenge.rw_uy0009_01.row.toRowW.1
/-- the parts of the def at that place of the text -/
def fnAt (i : Nat) : Arguments × List Stmt × Scope := match PG.main.body[i]? with
  | some (.FunctionDef _ a b _ _ _ s _ _ _) => (a, b, s)
  | _ => (⟨[], [], none, [], [], none, []⟩, [], PG.main.scope)
/-- the value beside an equation that settles its holes -/
abbrev withEq {α : Sort u} {β : Type} (b : β) {x y : α} (_ : x = y) : β := b
def fA (i : Nat) : Arguments := (fnAt i).1
def fB (i : Nat) : List Stmt := (fnAt i).2.1
def fS (i : Nat) : Scope := (fnAt i).2.2
/-- the entries of the dict that is written at that place of the text -/
def enOf : Option Expr → Expr → En
  | some (.Constant (.int k) _ p), .Constant (.str v) _ q => ⟨k.toNat, v, p, q⟩
  | _, _ => ⟨0, "", default, default⟩
def enAll : List (Option Expr) → List Expr → List En
  | k :: ks, v :: vs => enOf k v :: enAll ks vs
  | _, _ => []
def enAt (i : Nat) : List En := match PG.main.body[i]? with
  | some (.Assign _ (.Dict ks vs _) _) => enAll ks vs
  | _ => []
def eX : List En := enAt 6
def e0 : List En := (eX.drop 0).take 17
def e1 : List En := (eX.drop 17).take 17
def e2 : List En := (eX.drop 34).take 17
def e3 : List En := (eX.drop 51).take 17
def e4 : List En := (eX.drop 68).take 17
def e5 : List En := (eX.drop 85).take 17
def e6 : List En := (eX.drop 102).take 17
def e7 : List En := (eX.drop 119).take 17
def e8 : List En := (eX.drop 136).take 17
def e9 : List En := (eX.drop 153).take 17
def e10 : List En := (eX.drop 170).take 17
def e11 : List En := (eX.drop 187).take 17
def e12 : List En := (eX.drop 204).take 17
def e13 : List En := (eX.drop 221).take 17
def e14 : List En := (eX.drop 238).take 17
def e15 : List En := (eX.drop 255).take 17
def e16 : List En := (eX.drop 272).take 17
def e17 : List En := (eX.drop 289).take 17
def e18 : List En := (eX.drop 306).take 17
def e19 : List En := (eX.drop 323).take 17
def e20 : List En := (eX.drop 340).take 17
def e21 : List En := (eX.drop 357).take 17
def e22 : List En := (eX.drop 374).take 17
def e23 : List En := (eX.drop 391).take 17
def e24 : List En := (eX.drop 408).take 17
def e25 : List En := (eX.drop 425).take 17
def e26 : List En := (eX.drop 442).take 17
def e27 : List En := (eX.drop 459).take 17
def e28 : List En := (eX.drop 476).take 17
def e29 : List En := (eX.drop 493).take 17
def e30 : List En := (eX.drop 510).take 17
def e31 : List En := (eX.drop 527).take 17
def e32 : List En := (eX.drop 544).take 17
def e33 : List En := (eX.drop 561).take 17
def e34 : List En := (eX.drop 578).take 17
def e35 : List En := (eX.drop 595).take 17
def e36 : List En := (eX.drop 612).take 17
def e37 : List En := (eX.drop 629).take 17
def e38 : List En := (eX.drop 646).take 17
def eM : List (List En) := [e1, e2, e3, e4, e5, e6, e7, e8, e9, e10, e11, e12, e13, e14, e15, e16, e17, e18, e19, e20, e21, e22, e23, e24, e25, e26, e27, e28, e29, e30, e31, e32, e33, e34, e35, e36, e37]
def eAll : List En := e0 ++ (eM.flatten ++ e38)
def o11 (P : Params) : Obj := Obj.mk (Value.type "tuple") none (Data.seq #[]) #[]
def o13 (P : Params) : Obj := Obj.mk (Value.type "code") none (Data.fields #[Value.str (Str.ofString "<module>") 182, Value.str (Str.ofString "<module>") 183, Value.str (Str.ofString "/claim/cut.py") 184, Value.int 1 0, Value.int 0 0, Value.int 0 0, Value.int 0 0, Value.int 0 0, Value.ref 11, Value.bool Bool.false, Value.int 181 0, Value.ref 12, Value.none, Value.none, Value.none, Value.none, Value.int 185 0, Value.int 1 0, Value.str (Str.ofString "/claim/cut.py") 186]) #[]
def o14 (P : Params) : Obj := Obj.mk (Value.type "frame") none Data.plain #[some (Value.ref 13), some (Value.ref 3), some (Value.ref 3), none, some (Value.str (Str.ofString "__main__") 164), none, some (Value.ref 0)]
def o15 (P : Params) : Obj := Obj.mk (Value.type "tuple") none (Data.seq #[]) #[]
def o16 (P : Params) : Obj := Obj.mk Value.none none (Data.fields #[]) #[]
def o17 (P : Params) : Obj := Obj.mk (Value.type "tuple") none (Data.seq #[Value.str (Str.ofString "want") 194, Value.str (Str.ofString "got") 195, Value.str (Str.ofString "ws") 196, Value.str (Str.ofString "startpos") 197, Value.str (Str.ofString "endpos") 198, Value.str (Str.ofString "w") 199]) #[]
def o18 (P : Params) : Obj := Obj.mk (Value.type "tuple") none (Data.seq #[]) #[]
def o19 (P : Params) : Obj := Obj.mk Value.none none (Data.func (FuncData.mk (Str.ofString "_ellipsis_match") (Str.ofString "_ellipsis_match") (fA 2) (FuncBody.stmts (fB 2)) (fS 2) 0 [] Value.none Value.none Value.none Value.none none Value.none Value.none 0)) #[]
def o20 (P : Params) : Obj := Obj.mk (Value.type "code") none (Data.fields #[Value.str (Str.ofString "_ellipsis_match") 191, Value.str (Str.ofString "_ellipsis_match") 192, Value.str (Str.ofString "/claim/cut.py") 193, Value.int 3 0, Value.int 2 0, Value.int 0 0, Value.int 0 0, Value.int 3 0, Value.ref 15, Value.bool Bool.true, Value.int 181 0, Value.ref 16, Value.none, Value.ref 17, Value.ref 18, Value.ref 19, Value.int 200 0, Value.int 3 0, Value.str (Str.ofString "/claim/cut.py") 201]) #[]
def o21 (P : Params) : Obj := Obj.mk (Value.type "function") none (Data.func (FuncData.mk (Str.ofString "_ellipsis_match") (Str.ofString "_ellipsis_match") (fA 2) (FuncBody.stmts (fB 2)) (fS 2) 3 [] Value.none Value.none Value.none (Value.str (Str.ofString "cpy313.doctest") 187) none (Value.ref 20) Value.none 0)) #[]
def o22 (P : Params) : Obj := Obj.mk (Value.type "tuple") none (Data.seq #[]) #[]
def o23 (P : Params) : Obj := Obj.mk Value.none none (Data.fields #[]) #[]
def o24 (P : Params) : Obj := Obj.mk (Value.type "tuple") none (Data.seq #[Value.str (Str.ofString "num") 208, Value.str (Str.ofString "val") 209, Value.str (Str.ofString "AP") 210, Value.str (Str.ofString "mod") 211]) #[]
def o25 (P : Params) : Obj := Obj.mk (Value.type "tuple") none (Data.seq #[]) #[]
def o26 (P : Params) : Obj := Obj.mk Value.none none (Data.func (FuncData.mk (Str.ofString "Int2AP") (Str.ofString "Int2AP") (fA 4) (FuncBody.stmts (fB 4)) (fS 4) 0 [] Value.none Value.none Value.none Value.none none Value.none Value.none 0)) #[]
def o27 (P : Params) : Obj := Obj.mk (Value.type "code") none (Data.fields #[Value.str (Str.ofString "Int2AP") 205, Value.str (Str.ofString "Int2AP") 206, Value.str (Str.ofString "/claim/cut.py") 207, Value.int 32 0, Value.int 1 0, Value.int 0 0, Value.int 0 0, Value.int 3 0, Value.ref 22, Value.bool Bool.true, Value.int 181 0, Value.ref 23, Value.none, Value.ref 24, Value.ref 25, Value.ref 26, Value.int 212 0, Value.int 32 0, Value.str (Str.ofString "/claim/cut.py") 213]) #[]
def o28 (P : Params) : Obj := Obj.mk (Value.type "function") none (Data.func (FuncData.mk (Str.ofString "Int2AP") (Str.ofString "Int2AP") (fA 4) (FuncBody.stmts (fB 4)) (fS 4) 3 [] Value.none Value.none Value.none (Value.str (Str.ofString "cpy313.imaplib") 203) none (Value.ref 27) Value.none 0)) #[]
def o68 (P : Params) : Obj := Obj.mk (Value.type "tuple") none (Data.seq #[]) #[]
def o69 (P : Params) : Obj := Obj.mk Value.none none (Data.fields #[]) #[]
def o70 (P : Params) : Obj := Obj.mk (Value.type "tuple") none (Data.seq #[Value.str (Str.ofString "code") 2171, Value.str (Str.ofString "r") 2172]) #[]
def o71 (P : Params) : Obj := Obj.mk (Value.type "tuple") none (Data.seq #[]) #[]
def o72 (P : Params) : Obj := Obj.mk Value.none none (Data.func (FuncData.mk (Str.ofString "map_table_b3") (Str.ofString "map_table_b3") (fA 7) (FuncBody.stmts (fB 7)) (fS 7) 0 [] Value.none Value.none Value.none Value.none none Value.none Value.none 0)) #[]
def o73 (P : Params) : Obj := Obj.mk (Value.type "code") none (Data.fields #[Value.str (Str.ofString "map_table_b3") 2168, Value.str (Str.ofString "map_table_b3") 2169, Value.str (Str.ofString "/claim/cut.py") 2170, Value.int 42 0, Value.int 1 0, Value.int 0 0, Value.int 0 0, Value.int 3 0, Value.ref 68, Value.bool Bool.true, Value.int 181 0, Value.ref 69, Value.none, Value.ref 70, Value.ref 71, Value.ref 72, Value.int 2173 0, Value.int 42 0, Value.str (Str.ofString "/claim/cut.py") 2174]) #[]
def o74 (P : Params) : Obj := Obj.mk (Value.type "function") none (Data.func (FuncData.mk (Str.ofString "map_table_b3") (Str.ofString "map_table_b3") (fA 7) (FuncBody.stmts (fB 7)) (fS 7) 3 [] Value.none Value.none Value.none (Value.str (Str.ofString "cpy313.stringprep") 215) none (Value.ref 73) Value.none 0)) #[]
def o75 (P : Params) : Obj := Obj.mk (Value.type "tuple") none (Data.seq #[]) #[]
def o76 (P : Params) : Obj := Obj.mk Value.none none (Data.fields #[]) #[]
def o77 (P : Params) : Obj := Obj.mk Value.none none (Data.func (FuncData.mk (Str.ofString "_law_grown") (Str.ofString "_law_grown") (fA 9) (FuncBody.stmts (fB 9)) (Scope.mk ScopeKind.function [(Str.ofString "letters", NameKind.local)] Bool.false Bool.false [(Str.ofString "fast", Const.str (Str.ofString "letters")), (Str.ofString "fast", Const.str (Str.ofString "letter"))]) 0 [] Value.none Value.none Value.none Value.none none Value.none Value.none 0)) #[]
def o78 (P : Params) : Obj := Obj.mk (Value.type "code") none (Data.fields #[Value.str (Str.ofString "_law_grown") 2178, Value.str (Str.ofString "_law_grown") 2179, Value.str (Str.ofString "/claim/cut.py") 2180, Value.int 48 0, Value.int 1 0, Value.int 0 0, Value.int 0 0, Value.int 3 0, Value.ref 75, Value.bool Bool.true, Value.int 181 0, Value.ref 76, Value.none, Value.none, Value.none, Value.ref 77, Value.int 2181 0, Value.int 48 0, Value.str (Str.ofString "/claim/cut.py") 2182]) #[]
def o79 (P : Params) : Obj := Obj.mk (Value.type "function") none (Data.func (FuncData.mk (Str.ofString "_law_grown") (Str.ofString "_law_grown") (fA 9) (FuncBody.stmts (fB 9)) (Scope.mk ScopeKind.function [(Str.ofString "letters", NameKind.local)] Bool.false Bool.false [(Str.ofString "fast", Const.str (Str.ofString "letters")), (Str.ofString "fast", Const.str (Str.ofString "letter"))]) 3 [] Value.none Value.none Value.none (Value.str (Str.ofString "law_uy0009_01") 2176) none (Value.ref 78) Value.none 0)) #[]
def o80 (P : Params) : Obj := Obj.mk (Value.type "tuple") none (Data.seq #[]) #[]
def o81 (P : Params) : Obj := Obj.mk Value.none none (Data.fields #[]) #[]
def o82 (P : Params) : Obj := Obj.mk (Value.type "tuple") none (Data.seq #[Value.str (Str.ofString "number") 2187]) #[]
def o83 (P : Params) : Obj := Obj.mk (Value.type "tuple") none (Data.seq #[]) #[]
def o84 (P : Params) : Obj := Obj.mk Value.none none (Data.func (FuncData.mk (Str.ofString "_law_odd_ones") (Str.ofString "_law_odd_ones") (fA 10) (FuncBody.stmts (fB 10)) (fS 10) 0 [] Value.none Value.none Value.none Value.none none Value.none Value.none 0)) #[]
def o85 (P : Params) : Obj := Obj.mk (Value.type "code") none (Data.fields #[Value.str (Str.ofString "_law_odd_ones") 2184, Value.str (Str.ofString "_law_odd_ones") 2185, Value.str (Str.ofString "/claim/cut.py") 2186, Value.int 50 0, Value.int 1 0, Value.int 0 0, Value.int 0 0, Value.int 3 0, Value.ref 80, Value.bool Bool.true, Value.int 181 0, Value.ref 81, Value.none, Value.ref 82, Value.ref 83, Value.ref 84, Value.int 2188 0, Value.int 50 0, Value.str (Str.ofString "/claim/cut.py") 2189]) #[]
def o86 (P : Params) : Obj := Obj.mk (Value.type "function") none (Data.func (FuncData.mk (Str.ofString "_law_odd_ones") (Str.ofString "_law_odd_ones") (fA 10) (FuncBody.stmts (fB 10)) (fS 10) 3 [] Value.none Value.none Value.none (Value.str (Str.ofString "law_uy0009_01") 2176) none (Value.ref 85) Value.none 0)) #[]
def o87 (P : Params) : Obj := Obj.mk (Value.type "tuple") none (Data.seq #[]) #[]
def o88 (P : Params) : Obj := Obj.mk Value.none none (Data.fields #[]) #[]
def o89 (P : Params) : Obj := Obj.mk (Value.type "tuple") none (Data.seq #[Value.str (Str.ofString "place") 2194, Value.str (Str.ofString "size") 2195]) #[]
def o90 (P : Params) : Obj := Obj.mk (Value.type "tuple") none (Data.seq #[]) #[]
def o91 (P : Params) : Obj := Obj.mk Value.none none (Data.func (FuncData.mk (Str.ofString "_law_square") (Str.ofString "_law_square") (fA 11) (FuncBody.stmts (fB 11)) (fS 11) 0 [] Value.none Value.none Value.none Value.none none Value.none Value.none 0)) #[]
def o92 (P : Params) : Obj := Obj.mk (Value.type "code") none (Data.fields #[Value.str (Str.ofString "_law_square") 2191, Value.str (Str.ofString "_law_square") 2192, Value.str (Str.ofString "/claim/cut.py") 2193, Value.int 54 0, Value.int 2 0, Value.int 0 0, Value.int 0 0, Value.int 3 0, Value.ref 87, Value.bool Bool.true, Value.int 181 0, Value.ref 88, Value.none, Value.ref 89, Value.ref 90, Value.ref 91, Value.int 2196 0, Value.int 54 0, Value.str (Str.ofString "/claim/cut.py") 2197]) #[]
def o93 (P : Params) : Obj := Obj.mk (Value.type "function") none (Data.func (FuncData.mk (Str.ofString "_law_square") (Str.ofString "_law_square") (fA 11) (FuncBody.stmts (fB 11)) (fS 11) 3 [] Value.none Value.none Value.none (Value.str (Str.ofString "law_uy0009_01") 2176) none (Value.ref 92) Value.none 0)) #[]
def o94 (P : Params) : Obj := Obj.mk (Value.type "tuple") none (Data.seq #[]) #[]
def o95 (P : Params) : Obj := Obj.mk Value.none none (Data.fields #[]) #[]
def o96 (P : Params) : Obj := Obj.mk (Value.type "tuple") none (Data.seq #[Value.str (Str.ofString "script") 2202, Value.str (Str.ofString "place") 2203, Value.str (Str.ofString "x") 2204, Value.str (Str.ofString "word") 2205, Value.str (Str.ofString "letters") 2206, Value.str (Str.ofString "number") 2207, Value.str (Str.ofString "octet") 2208, Value.str (Str.ofString "figure") 2209, Value.str (Str.ofString "bit") 2210, Value.str (Str.ofString "_") 2211, Value.str (Str.ofString "window") 2212, Value.str (Str.ofString "ones") 2213, Value.str (Str.ofString "rest") 2214, Value.str (Str.ofString "start") 2215, Value.str (Str.ofString "size") 2216, Value.str (Str.ofString "piece") 2217, Value.str (Str.ofString "shape") 2218, Value.str (Str.ofString "answer") 2219, Value.str (Str.ofString "first") 2220, Value.str (Str.ofString "lapping") 2221, Value.str (Str.ofString "lead") 2222, Value.str (Str.ofString "trail") 2223]) #[]
def o97 (P : Params) : Obj := Obj.mk (Value.type "tuple") none (Data.seq #[]) #[]
def o98 (P : Params) : Obj := Obj.mk Value.none none (Data.func (FuncData.mk (Str.ofString "law") (Str.ofString "law") (fA 12) (FuncBody.stmts (fB 12)) (fS 12) 0 [] Value.none Value.none Value.none Value.none none Value.none Value.none 0)) #[]
def o99 (P : Params) : Obj := Obj.mk (Value.type "code") none (Data.fields #[Value.str (Str.ofString "law") 2199, Value.str (Str.ofString "law") 2200, Value.str (Str.ofString "/claim/cut.py") 2201, Value.int 62 0, Value.int 1 0, Value.int 0 0, Value.int 0 0, Value.int 3 0, Value.ref 94, Value.bool Bool.true, Value.int 181 0, Value.ref 95, Value.none, Value.ref 96, Value.ref 97, Value.ref 98, Value.int 2224 0, Value.int 62 0, Value.str (Str.ofString "/claim/cut.py") 2225]) #[]
def o100 (P : Params) : Obj := Obj.mk (Value.type "function") none (Data.func (FuncData.mk (Str.ofString "law") (Str.ofString "law") (fA 12) (FuncBody.stmts (fB 12)) (fS 12) 3 [] Value.none Value.none Value.none (Value.str (Str.ofString "law_uy0009_01") 2176) none (Value.ref 99) Value.none 0)) #[]
def o3a (P : Params) : Obj := Obj.mk (Value.type "dict") none (Data.dict #[DictEntry.mk (PyData.keyHash P (Str.ofString "__name__")) (Value.str (Str.ofString "__name__") 165) (Value.str (Str.ofString "__main__") 164), DictEntry.mk (PyData.keyHash P (Str.ofString "__doc__")) (Value.str (Str.ofString "__doc__") 166) Value.none, DictEntry.mk (PyData.keyHash P (Str.ofString "__package__")) (Value.str (Str.ofString "__package__") 167) Value.none, DictEntry.mk (PyData.keyHash P (Str.ofString "__loader__")) (Value.str (Str.ofString "__loader__") 168) (Value.builtin "__main__.__loader__#opaque"), DictEntry.mk (PyData.keyHash P (Str.ofString "__spec__")) (Value.str (Str.ofString "__spec__") 169) Value.none, DictEntry.mk (PyData.keyHash P (Str.ofString "__annotations__")) (Value.str (Str.ofString "__annotations__") 170) (Value.ref 6), DictEntry.mk (PyData.keyHash P (Str.ofString "__builtins__")) (Value.str (Str.ofString "__builtins__") 171) (Value.ref 4), DictEntry.mk (PyData.keyHash P (Str.ofString "__file__")) (Value.str (Str.ofString "__file__") 173) (Value.str (Str.ofString "/claim/cut.py") 172), DictEntry.mk (PyData.keyHash P (Str.ofString "__cached__")) (Value.str (Str.ofString "__cached__") 174) Value.none] 9) #[]
def o12a (P : Params) : Obj := Obj.mk Value.none none (Data.fields #[]) #[]
def o3b (P : Params) : Obj := Obj.mk (Value.type "dict") none (Data.dict #[DictEntry.mk (PyData.keyHash P (Str.ofString "__name__")) (Value.str (Str.ofString "__name__") 165) (Value.str (Str.ofString "cpy313.stringprep") 215), DictEntry.mk (PyData.keyHash P (Str.ofString "__doc__")) (Value.str (Str.ofString "__doc__") 166) Value.none, DictEntry.mk (PyData.keyHash P (Str.ofString "__package__")) (Value.str (Str.ofString "__package__") 167) Value.none, DictEntry.mk (PyData.keyHash P (Str.ofString "__loader__")) (Value.str (Str.ofString "__loader__") 168) (Value.builtin "__main__.__loader__#opaque"), DictEntry.mk (PyData.keyHash P (Str.ofString "__spec__")) (Value.str (Str.ofString "__spec__") 169) Value.none, DictEntry.mk (PyData.keyHash P (Str.ofString "__annotations__")) (Value.str (Str.ofString "__annotations__") 170) (Value.ref 6), DictEntry.mk (PyData.keyHash P (Str.ofString "__builtins__")) (Value.str (Str.ofString "__builtins__") 171) (Value.ref 4), DictEntry.mk (PyData.keyHash P (Str.ofString "__file__")) (Value.str (Str.ofString "__file__") 173) (Value.str (Str.ofString "/claim/cut.py") 172), DictEntry.mk (PyData.keyHash P (Str.ofString "__cached__")) (Value.str (Str.ofString "__cached__") 174) Value.none, DictEntry.mk (PyData.keyHash P (Str.ofString "ELLIPSIS_MARKER")) (Value.str (Str.ofString "ELLIPSIS_MARKER") 190) (Value.str (Str.ofString "...") 189), DictEntry.mk (PyData.keyHash P (Str.ofString "_ellipsis_match")) (Value.str (Str.ofString "_ellipsis_match") 202) (Value.ref 21), DictEntry.mk (PyData.keyHash P (Str.ofString "Int2AP")) (Value.str (Str.ofString "Int2AP") 214) (Value.ref 28)] 12) #[]
def o12b (P : Params) : Obj := Obj.mk Value.none none (Data.fields #[Value.int 3 0, Value.int 0 0, Value.ref 20, Value.int 32 0, Value.int 0 0, Value.ref 27]) #[]
def o3c (P : Params) : Obj := Obj.mk (Value.type "dict") none (Data.dict #[DictEntry.mk (PyData.keyHash P (Str.ofString "__name__")) (Value.str (Str.ofString "__name__") 165) (Value.str (Str.ofString "cpy313.stringprep") 215), DictEntry.mk (PyData.keyHash P (Str.ofString "__doc__")) (Value.str (Str.ofString "__doc__") 166) Value.none, DictEntry.mk (PyData.keyHash P (Str.ofString "__package__")) (Value.str (Str.ofString "__package__") 167) Value.none, DictEntry.mk (PyData.keyHash P (Str.ofString "__loader__")) (Value.str (Str.ofString "__loader__") 168) (Value.builtin "__main__.__loader__#opaque"), DictEntry.mk (PyData.keyHash P (Str.ofString "__spec__")) (Value.str (Str.ofString "__spec__") 169) Value.none, DictEntry.mk (PyData.keyHash P (Str.ofString "__annotations__")) (Value.str (Str.ofString "__annotations__") 170) (Value.ref 6), DictEntry.mk (PyData.keyHash P (Str.ofString "__builtins__")) (Value.str (Str.ofString "__builtins__") 171) (Value.ref 4), DictEntry.mk (PyData.keyHash P (Str.ofString "__file__")) (Value.str (Str.ofString "__file__") 173) (Value.str (Str.ofString "/claim/cut.py") 172), DictEntry.mk (PyData.keyHash P (Str.ofString "__cached__")) (Value.str (Str.ofString "__cached__") 174) Value.none, DictEntry.mk (PyData.keyHash P (Str.ofString "ELLIPSIS_MARKER")) (Value.str (Str.ofString "ELLIPSIS_MARKER") 190) (Value.str (Str.ofString "...") 189), DictEntry.mk (PyData.keyHash P (Str.ofString "_ellipsis_match")) (Value.str (Str.ofString "_ellipsis_match") 202) (Value.ref 21), DictEntry.mk (PyData.keyHash P (Str.ofString "Int2AP")) (Value.str (Str.ofString "Int2AP") 214) (Value.ref 28), DictEntry.mk (PyData.keyHash P (Str.ofString "b3_exceptions")) (Value.str (Str.ofString "b3_exceptions") 2167) (Value.ref 29)] 13) #[]
def o12c (P : Params) : Obj := Obj.mk Value.none none (Data.fields #[Value.int 3 0, Value.int 0 0, Value.ref 20, Value.int 32 0, Value.int 0 0, Value.ref 27]) #[]
def o3d (P : Params) : Obj := Obj.mk (Value.type "dict") none (Data.dict #[DictEntry.mk (PyData.keyHash P (Str.ofString "__name__")) (Value.str (Str.ofString "__name__") 165) (Value.str (Str.ofString "law_uy0009_01") 2176), DictEntry.mk (PyData.keyHash P (Str.ofString "__doc__")) (Value.str (Str.ofString "__doc__") 166) Value.none, DictEntry.mk (PyData.keyHash P (Str.ofString "__package__")) (Value.str (Str.ofString "__package__") 167) Value.none, DictEntry.mk (PyData.keyHash P (Str.ofString "__loader__")) (Value.str (Str.ofString "__loader__") 168) (Value.builtin "__main__.__loader__#opaque"), DictEntry.mk (PyData.keyHash P (Str.ofString "__spec__")) (Value.str (Str.ofString "__spec__") 169) Value.none, DictEntry.mk (PyData.keyHash P (Str.ofString "__annotations__")) (Value.str (Str.ofString "__annotations__") 170) (Value.ref 6), DictEntry.mk (PyData.keyHash P (Str.ofString "__builtins__")) (Value.str (Str.ofString "__builtins__") 171) (Value.ref 4), DictEntry.mk (PyData.keyHash P (Str.ofString "__file__")) (Value.str (Str.ofString "__file__") 173) (Value.str (Str.ofString "/claim/cut.py") 172), DictEntry.mk (PyData.keyHash P (Str.ofString "__cached__")) (Value.str (Str.ofString "__cached__") 174) Value.none, DictEntry.mk (PyData.keyHash P (Str.ofString "ELLIPSIS_MARKER")) (Value.str (Str.ofString "ELLIPSIS_MARKER") 190) (Value.str (Str.ofString "...") 189), DictEntry.mk (PyData.keyHash P (Str.ofString "_ellipsis_match")) (Value.str (Str.ofString "_ellipsis_match") 202) (Value.ref 21), DictEntry.mk (PyData.keyHash P (Str.ofString "Int2AP")) (Value.str (Str.ofString "Int2AP") 214) (Value.ref 28), DictEntry.mk (PyData.keyHash P (Str.ofString "b3_exceptions")) (Value.str (Str.ofString "b3_exceptions") 2167) (Value.ref 29), DictEntry.mk (PyData.keyHash P (Str.ofString "map_table_b3")) (Value.str (Str.ofString "map_table_b3") 2175) (Value.ref 74), DictEntry.mk (PyData.keyHash P (Str.ofString "_law_grown")) (Value.str (Str.ofString "_law_grown") 2183) (Value.ref 79), DictEntry.mk (PyData.keyHash P (Str.ofString "_law_odd_ones")) (Value.str (Str.ofString "_law_odd_ones") 2190) (Value.ref 86), DictEntry.mk (PyData.keyHash P (Str.ofString "_law_square")) (Value.str (Str.ofString "_law_square") 2198) (Value.ref 93), DictEntry.mk (PyData.keyHash P (Str.ofString "law")) (Value.str (Str.ofString "law") 2226) (Value.ref 100)] 18) #[]
def o12d (P : Params) : Obj := Obj.mk Value.none none (Data.fields #[Value.int 3 0, Value.int 0 0, Value.ref 20, Value.int 32 0, Value.int 0 0, Value.ref 27, Value.int 42 0, Value.int 0 0, Value.ref 73, Value.int 48 0, Value.int 0 0, Value.ref 78, Value.int 50 0, Value.int 0 0, Value.ref 85, Value.int 54 0, Value.int 0 0, Value.ref 92, Value.int 62 0, Value.int 0 0, Value.ref 99]) #[]
def hA (P : Params) : Heap := ⟨⟨[boot_o_0 P, boot_o_1 P, boot_o_2 P, o3a P, boot_o_4 P, boot_o_5 P, boot_o_6 P, boot_o_7 P, boot_o_8 P, boot_o_9 P, boot_o_10 P, o11 P, o12a P, o13 P, o14 P]⟩, {}⟩
def bB (P : Params) : List Obj := [boot_o_0 P, boot_o_1 P, boot_o_2 P, o3b P, boot_o_4 P, boot_o_5 P, boot_o_6 P, boot_o_7 P, boot_o_8 P, boot_o_9 P, boot_o_10 P, o11 P, o12b P, o13 P, o14 P, o15 P, o16 P, o17 P, o18 P, o19 P, o20 P, o21 P, o22 P, o23 P, o24 P, o25 P, o26 P, o27 P, o28 P]
def bC (P : Params) : List Obj := [boot_o_0 P, boot_o_1 P, boot_o_2 P, o3c P, boot_o_4 P, boot_o_5 P, boot_o_6 P, boot_o_7 P, boot_o_8 P, boot_o_9 P, boot_o_10 P, o11 P, o12c P, o13 P, o14 P, o15 P, o16 P, o17 P, o18 P, o19 P, o20 P, o21 P, o22 P, o23 P, o24 P, o25 P, o26 P, o27 P, o28 P]
def ES : List DictEntry := ents 217 e0 ++ ents (217 + 51) eM.flatten ++ entsS (217 + 51 + 51 * 37) e38
def SB : List Obj := [D (ents 268 e1) 17, D (ents 319 e2) 17, D (ents 370 e3) 17, D (ents 421 e4) 17, D (ents 472 e5) 17, D (ents 523 e6) 17, D (ents 574 e7) 17, D (ents 625 e8) 17, D (ents 676 e9) 17, D (ents 727 e10) 17, D (ents 778 e11) 17, D (ents 829 e12) 17, D (ents 880 e13) 17, D (ents 931 e14) 17, D (ents 982 e15) 17, D (ents 1033 e16) 17, D (ents 1084 e17) 17, D (ents 1135 e18) 17, D (ents 1186 e19) 17, D (ents 1237 e20) 17, D (ents 1288 e21) 17, D (ents 1339 e22) 17, D (ents 1390 e23) 17, D (ents 1441 e24) 17, D (ents 1492 e25) 17, D (ents 1543 e26) 17, D (ents 1594 e27) 17, D (ents 1645 e28) 17, D (ents 1696 e29) 17, D (ents 1747 e30) 17, D (ents 1798 e31) 17, D (ents 1849 e32) 17, D (ents 1900 e33) 17, D (ents 1951 e34) 17, D (ents 2002 e35) 17, D (ents 2053 e36) 17, D (ents 2104 e37) 17, D (entsS 2155 e38) 4]
def hC (P : Params) : Heap := hp (bC P) (D ES 650) SB {}
def hF (P : Params) : Heap := ⟨⟨[boot_o_0 P, boot_o_1 P, boot_o_2 P, o3d P, boot_o_4 P, boot_o_5 P, boot_o_6 P, boot_o_7 P, boot_o_8 P, boot_o_9 P, boot_o_10 P, o11 P, o12d P, o13 P, o14 P, o15 P, o16 P, o17 P, o18 P, o19 P, o20 P, o21 P, o22 P, o23 P, o24 P, o25 P, o26 P, o27 P, o28 P, D ES 650, D (ents 268 e1) 17, D (ents 319 e2) 17, D (ents 370 e3) 17, D (ents 421 e4) 17, D (ents 472 e5) 17, D (ents 523 e6) 17, D (ents 574 e7) 17, D (ents 625 e8) 17, D (ents 676 e9) 17, D (ents 727 e10) 17, D (ents 778 e11) 17, D (ents 829 e12) 17, D (ents 880 e13) 17, D (ents 931 e14) 17, D (ents 982 e15) 17, D (ents 1033 e16) 17, D (ents 1084 e17) 17, D (ents 1135 e18) 17, D (ents 1186 e19) 17, D (ents 1237 e20) 17, D (ents 1288 e21) 17, D (ents 1339 e22) 17, D (ents 1390 e23) 17, D (ents 1441 e24) 17, D (ents 1492 e25) 17, D (ents 1543 e26) 17, D (ents 1594 e27) 17, D (ents 1645 e28) 17, D (ents 1696 e29) 17, D (ents 1747 e30) 17, D (ents 1798 e31) 17, D (ents 1849 e32) 17, D (ents 1900 e33) 17, D (ents 1951 e34) 17, D (ents 2002 e35) 17, D (ents 2053 e36) 17, D (ents 2104 e37) 17, D (entsS 2155 e38) 4, o68 P, o69 P, o70 P, o71 P, o72 P, o73 P, o74 P, o75 P, o76 P, o77 P, o78 P, o79 P, o80 P, o81 P, o82 P, o83 P, o84 P, o85 P, o86 P, o87 P, o88 P, o89 P, o90 P, o91 P, o92 P, o93 P, o94 P, o95 P, o96 P, o97 P, o98 P, o99 P, o100 P]⟩, {}⟩
/-- what the walk may lean on: the objects that the defs are -/
def fragG (P : Params) : Frag := by
  refine (fun (_ : ?a2 = fA 2 ∧ ?b2 = fB 2 ∧ ?s2 = fS 2 ∧ ?a4 = fA 4 ∧ ?b4 = fB 4 ∧ ?s4 = fS 4 ∧ ?a7 = fA 7 ∧ ?b7 = fB 7 ∧ ?s7 = fS 7 ∧ ?a9 = fA 9 ∧ ?b9 = fB 9 ∧ ?s9 = fS 9 ∧ ?a10 = fA 10 ∧ ?b10 = fB 10 ∧ ?s10 = fS 10 ∧ ?a11 = fA 11 ∧ ?b11 = fB 11 ∧ ?s11 = fS 11) => (nat_lit 2, Obj.mk Value.none none (Data.dict #[]) #[]) :: (nat_lit 3, Obj.mk (Value.type "dict") none (Data.dict #[DictEntry.mk (PyData.keyHash P (Str.ofString "__name__")) (Value.str (Str.ofString "__name__") 165) (Value.str (Str.ofString "law_uy0009_01") 2176), DictEntry.mk (PyData.keyHash P (Str.ofString "__doc__")) (Value.str (Str.ofString "__doc__") 166) Value.none, DictEntry.mk (PyData.keyHash P (Str.ofString "__package__")) (Value.str (Str.ofString "__package__") 167) Value.none, DictEntry.mk (PyData.keyHash P (Str.ofString "__loader__")) (Value.str (Str.ofString "__loader__") 168) (Value.builtin "__main__.__loader__#opaque"), DictEntry.mk (PyData.keyHash P (Str.ofString "__spec__")) (Value.str (Str.ofString "__spec__") 169) Value.none, DictEntry.mk (PyData.keyHash P (Str.ofString "__annotations__")) (Value.str (Str.ofString "__annotations__") 170) (Value.ref 6), DictEntry.mk (PyData.keyHash P (Str.ofString "__builtins__")) (Value.str (Str.ofString "__builtins__") 171) (Value.ref 4), DictEntry.mk (PyData.keyHash P (Str.ofString "__file__")) (Value.str (Str.ofString "__file__") 173) (Value.str (Str.ofString "/claim/cut.py") 172), DictEntry.mk (PyData.keyHash P (Str.ofString "__cached__")) (Value.str (Str.ofString "__cached__") 174) Value.none, DictEntry.mk (PyData.keyHash P (Str.ofString "ELLIPSIS_MARKER")) (Value.str (Str.ofString "ELLIPSIS_MARKER") 190) (Value.str (Str.ofString "...") 189), DictEntry.mk (PyData.keyHash P (Str.ofString "_ellipsis_match")) (Value.str (Str.ofString "_ellipsis_match") 202) (Value.ref 21), DictEntry.mk (PyData.keyHash P (Str.ofString "Int2AP")) (Value.str (Str.ofString "Int2AP") 214) (Value.ref 28), DictEntry.mk (PyData.keyHash P (Str.ofString "b3_exceptions")) (Value.str (Str.ofString "b3_exceptions") 2167) (Value.ref 29), DictEntry.mk (PyData.keyHash P (Str.ofString "map_table_b3")) (Value.str (Str.ofString "map_table_b3") 2175) (Value.ref 74), DictEntry.mk (PyData.keyHash P (Str.ofString "_law_grown")) (Value.str (Str.ofString "_law_grown") 2183) (Value.ref 79), DictEntry.mk (PyData.keyHash P (Str.ofString "_law_odd_ones")) (Value.str (Str.ofString "_law_odd_ones") 2190) (Value.ref 86), DictEntry.mk (PyData.keyHash P (Str.ofString "_law_square")) (Value.str (Str.ofString "_law_square") 2198) (Value.ref 93), DictEntry.mk (PyData.keyHash P (Str.ofString "law")) (Value.str (Str.ofString "law") 2226) (Value.ref 100)] 18) #[]) :: (nat_lit 6, Obj.mk (Value.type "dict") none (Data.dict #[]) #[]) :: (nat_lit 15, Obj.mk (Value.type "tuple") none (Data.seq #[]) #[]) :: (nat_lit 17, Obj.mk (Value.type "tuple") none (Data.seq #[Value.str (Str.ofString "want") 194, Value.str (Str.ofString "got") 195, Value.str (Str.ofString "ws") 196, Value.str (Str.ofString "startpos") 197, Value.str (Str.ofString "endpos") 198, Value.str (Str.ofString "w") 199]) #[]) :: (nat_lit 18, Obj.mk (Value.type "tuple") none (Data.seq #[]) #[]) :: (nat_lit 20, Obj.mk (Value.type "code") none (Data.fields #[Value.str (Str.ofString "_ellipsis_match") 191, Value.str (Str.ofString "_ellipsis_match") 192, Value.str (Str.ofString "/claim/cut.py") 193, Value.int 3 0, Value.int 2 0, Value.int 0 0, Value.int 0 0, Value.int 3 0, Value.ref 15, Value.bool Bool.true, Value.int 181 0, Value.ref 16, Value.none, Value.ref 17, Value.ref 18, Value.ref 19, Value.int 200 0, Value.int 3 0, Value.str (Str.ofString "/claim/cut.py") 201]) #[]) :: (nat_lit 21, Obj.mk (Value.type "function") none (Data.func (FuncData.mk (Str.ofString "_ellipsis_match") (Str.ofString "_ellipsis_match") ?a2 (FuncBody.stmts ?b2) ?s2 3 [] Value.none Value.none Value.none (Value.str (Str.ofString "cpy313.doctest") 187) none (Value.ref 20) Value.none 0)) #[]) :: (nat_lit 22, Obj.mk (Value.type "tuple") none (Data.seq #[]) #[]) :: (nat_lit 24, Obj.mk (Value.type "tuple") none (Data.seq #[Value.str (Str.ofString "num") 208, Value.str (Str.ofString "val") 209, Value.str (Str.ofString "AP") 210, Value.str (Str.ofString "mod") 211]) #[]) :: (nat_lit 25, Obj.mk (Value.type "tuple") none (Data.seq #[]) #[]) :: (nat_lit 27, Obj.mk (Value.type "code") none (Data.fields #[Value.str (Str.ofString "Int2AP") 205, Value.str (Str.ofString "Int2AP") 206, Value.str (Str.ofString "/claim/cut.py") 207, Value.int 32 0, Value.int 1 0, Value.int 0 0, Value.int 0 0, Value.int 3 0, Value.ref 22, Value.bool Bool.true, Value.int 181 0, Value.ref 23, Value.none, Value.ref 24, Value.ref 25, Value.ref 26, Value.int 212 0, Value.int 32 0, Value.str (Str.ofString "/claim/cut.py") 213]) #[]) :: (nat_lit 28, Obj.mk (Value.type "function") none (Data.func (FuncData.mk (Str.ofString "Int2AP") (Str.ofString "Int2AP") ?a4 (FuncBody.stmts ?b4) ?s4 3 [] Value.none Value.none Value.none (Value.str (Str.ofString "cpy313.imaplib") 203) none (Value.ref 27) Value.none 0)) #[]) :: (nat_lit 29, D ES 650) :: (nat_lit 68, Obj.mk (Value.type "tuple") none (Data.seq #[]) #[]) :: (nat_lit 70, Obj.mk (Value.type "tuple") none (Data.seq #[Value.str (Str.ofString "code") 2171, Value.str (Str.ofString "r") 2172]) #[]) :: (nat_lit 71, Obj.mk (Value.type "tuple") none (Data.seq #[]) #[]) :: (nat_lit 73, Obj.mk (Value.type "code") none (Data.fields #[Value.str (Str.ofString "map_table_b3") 2168, Value.str (Str.ofString "map_table_b3") 2169, Value.str (Str.ofString "/claim/cut.py") 2170, Value.int 42 0, Value.int 1 0, Value.int 0 0, Value.int 0 0, Value.int 3 0, Value.ref 68, Value.bool Bool.true, Value.int 181 0, Value.ref 69, Value.none, Value.ref 70, Value.ref 71, Value.ref 72, Value.int 2173 0, Value.int 42 0, Value.str (Str.ofString "/claim/cut.py") 2174]) #[]) :: (nat_lit 74, Obj.mk (Value.type "function") none (Data.func (FuncData.mk (Str.ofString "map_table_b3") (Str.ofString "map_table_b3") ?a7 (FuncBody.stmts ?b7) ?s7 3 [] Value.none Value.none Value.none (Value.str (Str.ofString "cpy313.stringprep") 215) none (Value.ref 73) Value.none 0)) #[]) :: (nat_lit 75, Obj.mk (Value.type "tuple") none (Data.seq #[]) #[]) :: (nat_lit 78, Obj.mk (Value.type "code") none (Data.fields #[Value.str (Str.ofString "_law_grown") 2178, Value.str (Str.ofString "_law_grown") 2179, Value.str (Str.ofString "/claim/cut.py") 2180, Value.int 48 0, Value.int 1 0, Value.int 0 0, Value.int 0 0, Value.int 3 0, Value.ref 75, Value.bool Bool.true, Value.int 181 0, Value.ref 76, Value.none, Value.none, Value.none, Value.ref 77, Value.int 2181 0, Value.int 48 0, Value.str (Str.ofString "/claim/cut.py") 2182]) #[]) :: (nat_lit 79, Obj.mk (Value.type "function") none (Data.func (FuncData.mk (Str.ofString "_law_grown") (Str.ofString "_law_grown") ?a9 (FuncBody.stmts ?b9) (Scope.mk ScopeKind.function [(Str.ofString "letters", NameKind.local)] Bool.false Bool.false [(Str.ofString "fast", Const.str (Str.ofString "letters")), (Str.ofString "fast", Const.str (Str.ofString "letter"))]) 3 [] Value.none Value.none Value.none (Value.str (Str.ofString "law_uy0009_01") 2176) none (Value.ref 78) Value.none 0)) #[]) :: (nat_lit 80, Obj.mk (Value.type "tuple") none (Data.seq #[]) #[]) :: (nat_lit 82, Obj.mk (Value.type "tuple") none (Data.seq #[Value.str (Str.ofString "number") 2187]) #[]) :: (nat_lit 83, Obj.mk (Value.type "tuple") none (Data.seq #[]) #[]) :: (nat_lit 85, Obj.mk (Value.type "code") none (Data.fields #[Value.str (Str.ofString "_law_odd_ones") 2184, Value.str (Str.ofString "_law_odd_ones") 2185, Value.str (Str.ofString "/claim/cut.py") 2186, Value.int 50 0, Value.int 1 0, Value.int 0 0, Value.int 0 0, Value.int 3 0, Value.ref 80, Value.bool Bool.true, Value.int 181 0, Value.ref 81, Value.none, Value.ref 82, Value.ref 83, Value.ref 84, Value.int 2188 0, Value.int 50 0, Value.str (Str.ofString "/claim/cut.py") 2189]) #[]) :: (nat_lit 86, Obj.mk (Value.type "function") none (Data.func (FuncData.mk (Str.ofString "_law_odd_ones") (Str.ofString "_law_odd_ones") ?a10 (FuncBody.stmts ?b10) ?s10 3 [] Value.none Value.none Value.none (Value.str (Str.ofString "law_uy0009_01") 2176) none (Value.ref 85) Value.none 0)) #[]) :: (nat_lit 87, Obj.mk (Value.type "tuple") none (Data.seq #[]) #[]) :: (nat_lit 89, Obj.mk (Value.type "tuple") none (Data.seq #[Value.str (Str.ofString "place") 2194, Value.str (Str.ofString "size") 2195]) #[]) :: (nat_lit 90, Obj.mk (Value.type "tuple") none (Data.seq #[]) #[]) :: (nat_lit 92, Obj.mk (Value.type "code") none (Data.fields #[Value.str (Str.ofString "_law_square") 2191, Value.str (Str.ofString "_law_square") 2192, Value.str (Str.ofString "/claim/cut.py") 2193, Value.int 54 0, Value.int 2 0, Value.int 0 0, Value.int 0 0, Value.int 3 0, Value.ref 87, Value.bool Bool.true, Value.int 181 0, Value.ref 88, Value.none, Value.ref 89, Value.ref 90, Value.ref 91, Value.int 2196 0, Value.int 54 0, Value.str (Str.ofString "/claim/cut.py") 2197]) #[]) :: (nat_lit 93, Obj.mk (Value.type "function") none (Data.func (FuncData.mk (Str.ofString "_law_square") (Str.ofString "_law_square") ?a11 (FuncBody.stmts ?b11) ?s11 3 [] Value.none Value.none Value.none (Value.str (Str.ofString "law_uy0009_01") 2176) none (Value.ref 92) Value.none 0)) #[]) :: (nat_lit 94, Obj.mk (Value.type "tuple") none (Data.seq #[]) #[]) :: (nat_lit 96, Obj.mk (Value.type "tuple") none (Data.seq #[Value.str (Str.ofString "script") 2202, Value.str (Str.ofString "place") 2203, Value.str (Str.ofString "x") 2204, Value.str (Str.ofString "word") 2205, Value.str (Str.ofString "letters") 2206, Value.str (Str.ofString "number") 2207, Value.str (Str.ofString "octet") 2208, Value.str (Str.ofString "figure") 2209, Value.str (Str.ofString "bit") 2210, Value.str (Str.ofString "_") 2211, Value.str (Str.ofString "window") 2212, Value.str (Str.ofString "ones") 2213, Value.str (Str.ofString "rest") 2214, Value.str (Str.ofString "start") 2215, Value.str (Str.ofString "size") 2216, Value.str (Str.ofString "piece") 2217, Value.str (Str.ofString "shape") 2218, Value.str (Str.ofString "answer") 2219, Value.str (Str.ofString "first") 2220, Value.str (Str.ofString "lapping") 2221, Value.str (Str.ofString "lead") 2222, Value.str (Str.ofString "trail") 2223]) #[]) :: (nat_lit 97, Obj.mk (Value.type "tuple") none (Data.seq #[]) #[]) :: (nat_lit 99, Obj.mk (Value.type "code") none (Data.fields #[Value.str (Str.ofString "law") 2199, Value.str (Str.ofString "law") 2200, Value.str (Str.ofString "/claim/cut.py") 2201, Value.int 62 0, Value.int 1 0, Value.int 0 0, Value.int 0 0, Value.int 3 0, Value.ref 94, Value.bool Bool.true, Value.int 181 0, Value.ref 95, Value.none, Value.ref 96, Value.ref 97, Value.ref 98, Value.int 2224 0, Value.int 62 0, Value.str (Str.ofString "/claim/cut.py") 2225]) #[]) :: (nat_lit 100, Obj.mk (Value.type "function") none (Data.func (FuncData.mk (Str.ofString "law") (Str.ofString "law") (fA 12) (FuncBody.stmts (fB 12)) (fS 12) 3 [] Value.none Value.none Value.none (Value.str (Str.ofString "law_uy0009_01") 2176) none (Value.ref 99) Value.none 0)) #[]) :: []) ⟨?pa2, ?pb2, ?ps2, ?pa4, ?pb4, ?ps4, ?pa7, ?pb7, ?ps7, ?pa9, ?pb9, ?ps9, ?pa10, ?pb10, ?ps10, ?pa11, ?pb11, ?ps11⟩
  case pa2 => (conv => rhs; whnf)
  case pb2 => (conv => rhs; whnf)
  case ps2 => (conv => rhs; whnf)
  case pa4 => (conv => rhs; whnf)
  case pb4 => (conv => rhs; whnf)
  case ps4 => (conv => rhs; whnf)
  case pa7 => (conv => rhs; whnf)
  case pb7 => (conv => rhs; whnf)
  case ps7 => (conv => rhs; whnf)
  case pa9 => (conv => rhs; whnf)
  case pb9 => (conv => rhs; whnf)
  case ps9 => (conv => rhs; whnf)
  case pa10 => (conv => rhs; whnf)
  case pb10 => (conv => rhs; whnf)
  case ps10 => (conv => rhs; whnf)
  case pa11 => (conv => rhs; whnf)
  case pb11 => (conv => rhs; whnf)
  case ps11 => (conv => rhs; whnf)
def stAt (i : Nat) : Stmt := (PG.main.body[i]?).getD (.Pass default)
/-- the text as the walk sees it: without its names' and modules' lines -/
def vw : Program := by
  refine (fun (_ : ?t1 = stAt 1 ∧ ?t2 = stAt 2 ∧ ?t4 = stAt 4 ∧ ?t7 = stAt 7 ∧ ?t9 = stAt 9 ∧ ?t10 = stAt 10 ∧ ?t11 = stAt 11) => { PG with main := { PG.main with body := [?t1, ?t2, ?t4, ?t7, ?t9, ?t10, ?t11, stAt 12] } }) ⟨?p1, ?p2, ?p4, ?p7, ?p9, ?p10, ?p11⟩
  case p1 => (conv => rhs; whnf)
  case p2 => (conv => rhs; whnf)
  case p4 => (conv => rhs; whnf)
  case p7 => (conv => rhs; whnf)
  case p9 => (conv => rhs; whnf)
  case p10 => (conv => rhs; whnf)
  case p11 => (conv => rhs; whnf)
abbrev asK : List Addr := [2, 3, 6, 15, 17, 18, 20, 21, 22, 24, 25, 27, 28, 29, 68, 70, 71, 73, 74, 75, 78, 79, 80, 82, 83, 85, 86, 87, 89, 90, 92, 93, 94, 96, 97, 99, 100]
end
end Mine
end
section
open PySem PySem.W PyProof.Rows
set_option maxRecDepth 1000000
namespace Mine
section
variable {p : Program} {w : World} {n₀ : Nat} {ann : Option Value} {c : Code} {q : Pos} {α β : Type}
theorem zip_items {env : Env} {ps : Pos} : ∀ xs : List En, (evalEachOpt (xs.map fun x => some x.key) env).zip ((evalEach (xs.map fun x => x.val) env).map fun v => do let x ← v; standAt ps; pure x) = xs.map (it env ps)
  | [] => rfl
  | x :: xs => by
    have ih := zip_items (env := env) (ps := ps) xs
    simp only [List.map_cons]
    rw [← ih]
    rfl
theorem goes_at {ps : Pos} {s : Shared} : Goes p w n₀ ann c q (standAt ps) s () s 1 := fun _ _ _ _ _ => ⟨ps, rfl⟩
theorem goes_dict {env : Env} {dp : Pos} {xs : List En} {s s' : Shared} {r : Value} {n : Nat} (h : Goes p w n₀ ann c q (dictDisplay (xs.map (it env dp))) s r s' n) : Goes p w n₀ ann c q (eval (.Dict (xs.map fun x => some x.key) (xs.map fun x => x.val) dp) env) s r s' (1 + n) := by
  have e : eval (.Dict (xs.map fun x => some x.key) (xs.map fun x => x.val) dp) env = (do standAt dp; dictDisplay ((evalEachOpt (xs.map fun x => some x.key) env).zip ((evalEach (xs.map fun x => x.val) env).map fun v => do let x ← v; standAt dp; pure x))) := rfl
  rw [e, zip_items]
  exact goes_bind goes_at h
/-- what is left of the statement behind its value -/
def tailOf (id : Str) (np : Pos) (env : Env) (v : Value) : Sem Flow := assignStores env v none ((assignEach [.Name id np] env).map (·.2))
theorem seg_dict {env : Env} {dp ap np pos : Pos} {id : Str} {xs : List En} {s s' : Shared} {v : Value} {n N : Nat} {r : Flow × Shared × Code × Pos} (h : Goes p w n₀ ann c q (dictDisplay (xs.map (it env dp))) s v s' n)
    (k : ∀ pos', segRun treeTable p w n₀ ann 1 N s' ⟨(tailOf id np env v).wrap doneF deadEnd _root_.id _root_.id, c, pos', [topFrame q]⟩ = some r) :
    segRun treeTable p w n₀ ann 1 (1 + (1 + n) + N) s (pieceOf (.Assign [.Name id np] (.Dict (xs.map fun x => some x.key) (xs.map fun x => x.val) dp) ap) env c pos [topFrame q]) = some r := by
  have e : exec (.Assign [.Name id np] (.Dict (xs.map fun x => some x.key) (xs.map fun x => x.val) dp) ap) env = ((standAt ap >>= fun _ => eval (.Dict (xs.map fun x => some x.key) (xs.map fun x => x.val) dp) env) >>= tailOf id np env) := rfl
  have g := goes_bind (goes_at (p := p) (w := w) (n₀ := n₀) (ann := ann) (c := c) (q := q) (ps := ap) (s := s)) (goes_dict h) (f := fun _ => eval (.Dict (xs.map fun x => some x.key) (xs.map fun x => x.val) dp) env)
  obtain ⟨pos', g'⟩ := g (fun a => (tailOf id np env a).wrap doneF deadEnd _root_.id _root_.id) (fun e => (Sem.raise e : Sem Flow).wrap doneF deadEnd _root_.id _root_.id) _root_.id _root_.id pos
  refine seg_go (s' := s') (t' := ⟨(tailOf id np env v).wrap doneF deadEnd _root_.id _root_.id, c, pos', [topFrame q]⟩) ?_ (k pos')
  show segGo treeTable p w n₀ ann 1 _ s ⟨(exec _ env).wrap doneF deadEnd _root_.id _root_.id, c, pos, [topFrame q]⟩ = _
  rw [e, Sem.bind_eq_wrap', Sem.wrap_wrap]
  exact g'
end
end Mine
end
section
open PySem PySem.W PyProof.Rows
set_option maxRecDepth 1000000
namespace Mine
noncomputable section
def envG : Env := { scope := PG.main.scope, locals := mainNs, globals := mainNs, cells := [], code := .ref 13, frame := some 14 }
def bdG : List Stmt := behindTheImports PG
abbrev cG : Code := .body bdG envG
abbrev pos0 : Pos := ⟨0, 0, 0, 0⟩
abbrev pDict : Pos := ⟨41, 0, 41, 13⟩
def dSt : Stmt := .Assign [.Name "b3_exceptions" pDict] (.Dict (eAll.map fun x => some x.key) (eAll.map fun x => x.val) ⟨41, 16, 41, 8704⟩) ⟨41, 0, 41, 8704⟩
theorem bd_split : bdG = bdG.take 6 ++ (dSt :: (bdG.drop 7 ++ [])) := by kernel_rfl
theorem g_pre (w : World) (os : OsState) : topGo treeTable PG w 11 (some (.ref 6)) 12 ⟨boot_heap w.params, ⟨[]⟩, boot_drawn, boot_toks, os⟩ (topStub PG) = some (⟨hA w.params, ⟨[]⟩, {}, 187, os⟩, ⟨denote treeTable cG, cG, pos0, [topFrame pos0]⟩) := by kernel_rfl
theorem g_block (w : World) (os : OsState) : segRun treeTable PG w 11 (some (.ref 6)) 1 1 ⟨hA w.params, ⟨[]⟩, {}, 187, os⟩ (blockOf bdG envG cG pos0 [topFrame pos0]) = some (.next, ⟨hA w.params, ⟨[]⟩, {}, 187, os⟩, cG, pos0) := by kernel_rfl
theorem g_one (w : World) (os : OsState) : segRun treeTable PG w 11 (some (.ref 6)) 1 103 ⟨hA w.params, ⟨[]⟩, {}, 187, os⟩ (piecesOf (bdG.take 6) envG cG pos0 [topFrame pos0]) = some (.next, ⟨⟨(bB w.params).toArray, {}⟩, ⟨[]⟩, {}, 217, os⟩, cG, ⟨40, 0, 40, 8⟩) := by kernel_rfl
/-- keys that rise -/
def asc : Nat → List En → Bool
  | _, [] => true
  | a, x :: r => Nat.blt a x.k && asc x.k r
theorem asc_spec : ∀ {a : Nat} {l : List En}, asc a l = true → (∀ x ∈ l, a < x.k) ∧ l.Pairwise fun x y => x.k < y.k
  | a, [], _ => ⟨fun x h => (nomatch h), List.Pairwise.nil⟩
  | a, x :: r, h => by
    unfold asc at h
    rw [Bool.and_eq_true] at h
    have h1 : a < x.k := Nat.lt_of_lt_of_le (Nat.lt_succ_self a) (Nat.le_of_ble_eq_true h.1)
    obtain ⟨h2, h3⟩ := asc_spec h.2
    refine ⟨fun y hy => ?_, List.pairwise_cons.mpr ⟨h2, h3⟩⟩
    rcases List.mem_cons.mp hy with rfl | hy
    · exact h1
    · exact Nat.lt_trans h1 (h2 y hy)
theorem all_asc : asc 0 eAll = true := by kernel_rfl
theorem all_rise : Rise eAll := (asc_spec all_asc).2.imp fun h => Nat.ne_of_lt h
theorem all_small : ∀ x ∈ eAll, x.k < 2 ^ 61 - 1 := by
  have h : (eAll.all fun x => Nat.blt x.k (2 ^ 61 - 1)) = true := by kernel_rfl
  intro x hx
  exact Nat.lt_of_lt_of_le (Nat.lt_succ_self _) (Nat.le_of_ble_eq_true (List.all_eq_true.mp h x hx))
theorem all_17 : ∀ y ∈ eM, y.length = 17 := by
  have h : (eM.all fun y => Nat.beq y.length 17) = true := by kernel_rfl
  intro y hy
  exact Nat.eq_of_beq_eq_true (List.all_eq_true.mp h y hy)
theorem g_tail (w : World) (os : OsState) (pos' : Pos) : segRun treeTable PG w 11 (some (.ref 6)) 1 8 ⟨hp (bB w.params) (D ES 650) SB {}, ⟨[]⟩, {}, 2167, os⟩ ⟨(tailOf "b3_exceptions" pDict envG (.ref 29)).wrap doneF deadEnd id id, cG, pos', [topFrame pos0]⟩ = some (.next, ⟨hC w.params, ⟨[]⟩, {}, 2168, os⟩, cG, pDict) := by kernel_rfl
theorem b_len (P : Params) : (bB P).length = 29 := rfl
theorem g_disp (w : World) (os : OsState) : Goes PG w 11 (some (.ref 6)) cG pos0 (dictDisplay (eAll.map (it envG ⟨41, 16, 41, 8704⟩))) ⟨⟨(bB w.params).toArray, {}⟩, ⟨[]⟩, {}, 217, os⟩ (.ref 29) ⟨hp (bB w.params) (D ES 650) SB {}, ⟨[]⟩, {}, 2167, os⟩ 12515 := by
  have h := goes_display (p := PG) (w := w) (n₀ := 11) (ann := some (.ref 6)) (c := cG) (q := pos0) (env := envG) (ps := ⟨41, 16, 41, 8704⟩) (bs := bB w.params) (l := {}) (s := ⟨⟨(bB w.params).toArray, {}⟩, ⟨[]⟩, {}, 217, os⟩) (t := 217) (x₀ := e0) (z := e38) (cs := eM)
    (by rw [b_len]; omega) (fun k => by rw [b_len, beq_eq_false_iff_ne]; show (29 + (k + 1) : Nat) ≠ 1; omega) rfl ⟨by decide, by decide⟩ all_17 (by decide) all_rise all_small
  have e1 : hp (bB w.params) (D (ents 217 e0 ++ ents (217 + 51) eM.flatten ++ entsS (217 + 51 + 51 * eM.length) e38) (17 + 17 * eM.length + e38.length)) (subs (217 + 51) eM ++ [D (entsS (217 + 51 + 51 * eM.length) e38) e38.length]) {} = hp (bB w.params) (D ES 650) SB {} := by kernel_rfl
  rw [e1, b_len] at h
  exact h
theorem g_dict (w : World) (os : OsState) : segRun treeTable PG w 11 (some (.ref 6)) 1 (1 + (1 + 12515) + 8) ⟨⟨(bB w.params).toArray, {}⟩, ⟨[]⟩, {}, 217, os⟩ (pieceOf dSt envG cG ⟨40, 0, 40, 8⟩ [topFrame pos0]) = some (.next, ⟨hC w.params, ⟨[]⟩, {}, 2168, os⟩, cG, pDict) := by
  unfold dSt
  exact seg_dict (n := 12515) (N := 8) (xs := eAll) (g_disp w os) (g_tail w os)
theorem g_rest (w : World) (os : OsState) : segRun treeTable PG w 11 (some (.ref 6)) 1 175 ⟨hC w.params, ⟨[]⟩, {}, 2168, os⟩ (piecesOf (bdG.drop 7) envG cG pDict [topFrame pos0]) = some (.next, ⟨hF w.params, ⟨[]⟩, {}, 2227, os⟩, cG, ⟨62, 0, 109, 15⟩) := by kernel_rfl
theorem g_fin (w : World) (os : OsState) : topRun treeTable PG w 11 (some (.ref 6)) 2 ⟨hF w.params, ⟨[]⟩, {}, 2227, os⟩ ⟨doneF .next, cG, ⟨62, 0, 109, 15⟩, [topFrame pos0]⟩ = some ⟨hF w.params, ⟨[]⟩, {}, 2227, os⟩ := by kernel_rfl
theorem g_run (w : World) (os : OsState) : topRun treeTable PG w 11 (some (.ref 6)) (12 + (1 + (103 + ((1 + (1 + 12515) + 8) + (175 + 2))))) ⟨boot_heap w.params, ⟨[]⟩, boot_drawn, boot_toks, os⟩ (topStub PG) = some ⟨hF w.params, ⟨[]⟩, {}, 2227, os⟩ := by
  refine go_top (g_pre w os) (piece_block (g_block w os) ?_)
  have k := piece_app (g_one w os) (piece_cons (g_dict w os) (piece_app (g_rest w os) (piece_nil (g_fin w os))))
  rw [← bd_split] at k
  exact k
end
end Mine
end
section
open PySem PySem.W PyProof.Rows
set_option maxRecDepth 1000000
namespace Mine
noncomputable section
theorem hasK : ∀ P, asK = (fragG P).map (·.1) := fun _ => by kernel_rfl
abbrev HK : Hook := kHook fragG asK hasK
abbrev looseG : List Str := [Str.ofString "b3_exceptions"]
abbrev XtG : Shared → Bool := fun s => xlAt vw [] s && recOk (RowW.records PySem.Challenge.rw_uy0009_01.row.toRowW) s
theorem g_open : ∀ w : World, (fencedOpening treeTable PG w 30000).map (fun s => (s.heap, s.gens, s.drawn, s.toks)) = some (boot_heap w.params, Array.mk [], boot_drawn, boot_toks) := boot_open (by kernel_rfl) (by decide) (fun _ => by kernel_rfl)
theorem g_size (w : World) : ((boot_heap w.params).isNs mainGlobals && (Array.mk [] : Array GenState).size == 0, (boot_heap w.params).objs.size, (boot_heap w.params).nsMap mainGlobals "__annotations__") = (true, 11, some (.ref 6)) := by kernel_rfl
theorem g_look1 (w : World) : (fun os : OsState => (staticsOk (importedModules PG.main.body) (boot_heap w.params) (hF w.params) && namesBound PG (hF w.params) && gensDone ⟨hF w.params, ⟨[]⟩, {}, 2227, os⟩ && laidKept (boot_heap w.params) (hF w.params))) = fun _ => true := by kernel_rfl
theorem g_look2 (w : World) : (fun os : OsState => HK.obs ⟨hF w.params, ⟨[]⟩, {}, 2227, os⟩) = fun _ => HK.val w := by kernel_rfl
theorem g_look3 (w : World) : (fun os : OsState => openSeen vw looseG (importedModules PG.main.body) XtG true ⟨hF w.params, ⟨[]⟩, {}, 2227, os⟩) = fun _ => openGood vw looseG := by kernel_rfl
theorem g_left : LeftO PG vw looseG XtG HK.obs HK.val 30000 :=
  LeftO.of_pieces (H₀ := boot_heap) (H₁ := hF) (gs₀ := ⟨[]⟩) (gs₁ := ⟨[]⟩) (d₀ := boot_drawn) (d₁ := {}) (k₀ := boot_toks) (k₁ := 2227) (m₀ := 11) (ann := some (.ref 6)) (M := 12 + (1 + (103 + ((1 + (1 + 12515) + 8) + (175 + 2)))))
    g_open g_size g_run (by decide) (fun w => funext fun os => by
      rw [Prod.mk.injEq, Prod.mk.injEq]
      exact ⟨congrFun (g_look1 w) os, congrFun (g_look3 w) os, congrFun (g_look2 w) os⟩)
end
end Mine
end
section
open PySem PySem.W PyProof.Rows
set_option maxRecDepth 1000000
namespace Mine
theorem hd {d : DefRec} {kwd : List (Str × Expr)} (hdef : defOf vw (Str.ofString "law") = some (d, kwd)) (hp : PG.theDef (Str.ofString "law") = some (d.params, d.body, d.scope)) (hk : kwWritten? d.params.kwonlyargs d.params.kw_defaults = some kwd)
    (walk : WalkO vw looseG (XL vw []) HK.says PySem.Challenge.rw_uy0009_01.row.toRowW d kwd fun f vs => PySem.call f vs) : PySem.Challenge.rw_uy0009_01.Holds := by
  w_on
  o_law
  refine holds_open (q := vw) (loose := looseG) (Xt := XtG) (XP := XL vw []) (Yf := HK.obs) (Ya := HK.val) (YP := HK.says) (N := 30000) g_left HK.of HK.keeps (fun s e => xl_of s (Bool.and_eq_true_iff.mp e).1) XL.keeps hdef hp hk (fun s e => recFacts_of (Bool.and_eq_true_iff.mp e).2) (by rfl) (by first | assumption | decide +kernel) (by decide +kernel) ⟨rfl, rfl, rfl, rfl, rfl, by decide +kernel⟩ ?hw walk
  case hw => w_witness2
end Mine
end
section
open PySem PySem.W PyProof.Rows PySem.Calls
set_option maxRecDepth 1000000
namespace Mine
theorem ents_mem : ∀ {t : Nat} {l : List En} {e : DictEntry}, e ∈ ents t l → ∃ x ∈ l, ∃ ti v, e = ⟨x.k, .int x.k ti, v⟩
  | _, [], _, h => absurd h List.not_mem_nil
  | t, x :: l, e, h => by
    rcases List.mem_cons.mp h with rfl | h
    · exact ⟨x, List.mem_cons_self, _, _, rfl⟩
    · obtain ⟨y, hy, r⟩ := ents_mem h
      exact ⟨y, List.mem_cons_of_mem _ hy, r⟩
theorem entsS_mem : ∀ {t : Nat} {l : List En} {e : DictEntry}, e ∈ entsS t l → ∃ x ∈ l, ∃ ti v, e = ⟨x.k, .int x.k ti, v⟩
  | _, [], _, h => absurd h List.not_mem_nil
  | t, x :: l, e, h => by
    rcases List.mem_cons.mp h with rfl | h
    · exact ⟨x, List.mem_cons_self, _, _, rfl⟩
    · obtain ⟨y, hy, r⟩ := entsS_mem h
      exact ⟨y, List.mem_cons_of_mem _ hy, r⟩
theorem es_mem {e : DictEntry} (h : e ∈ ES) : ∃ x ∈ eAll, ∃ ti v, e = ⟨x.k, .int x.k ti, v⟩ := by
  unfold ES at h
  rcases List.mem_append.mp h with h | h
  · rcases List.mem_append.mp h with h | h
    · obtain ⟨x, hx, r⟩ := ents_mem h
      exact ⟨x, List.mem_append.mpr (.inl hx), r⟩
    · obtain ⟨x, hx, r⟩ := ents_mem h
      exact ⟨x, List.mem_append.mpr (.inr (List.mem_append.mpr (.inl hx))), r⟩
  · obtain ⟨x, hx, r⟩ := entsS_mem h
    exact ⟨x, List.mem_append.mpr (.inr (List.mem_append.mpr (.inr hx))), r⟩
theorem hashInt_id {k : Int} (h0 : 0 ≤ k) (h1 : k < 2 ^ 61 - 1) : hashInt k = k := by
  unfold hashInt rawHash
  have e2 : ((k.natAbs : Int) % ((2 ^ 61 - 1 : Nat) : Int)) = k := by omega
  have e3 : ((k.natAbs % (2 ^ 61 - 1) : Nat) : Int) = k := by omega
  have e1 : (k == -1) = false := by simp; omega
  simp [e1, e3, if_neg (show ¬ k < 0 by omega)]
  omega
section
variable {prog : Program} {w : World} {A : Around} {E : Value → Shared → Prop} {s : Shared} {h₀ h : Heap} {L : Addr} {m : Str → Option Value} {t : Tok}
theorem b3_map (F : Fr h₀ L h m) (X : (fragG w.params).In h₀) : h.MapOf (intKind prog w) 29 (fun k => findBy Value.isInt ES.toArray k) :=
  ⟨_, _, _, (X.keeps F.keep) 29 (D ES 650) (by kernel_rfl), ⟨rfl, rfl, rfl⟩, rfl, fun e he => by
    obtain ⟨x, hx, ti, v, rfl⟩ := es_mem (Array.mem_toList_iff.mpr he)
    exact ⟨x.k, intKind_is prog w x.k ti, (hashInt_id (k := x.k) (by omega) (by have := all_small x hx; omega)).symm⟩, fun _ => rfl⟩
theorem b3_method {pl : Sem Bool} {Q : Value × List Value → Shared → Prop} (F : Fr h₀ L s.heap m) (X : (fragG w.params).In h₀) (h : Q (.builtin "dict.get", [.ref 29]) s) : wpAny (model prog w) A (getMethod (.ref 29) (Str.ofString "get") pl) Q E s :=
  have hm := b3_map (prog := prog) F X
  getMethod_builtin hm.typeIs PySem.F.plainAttrs_dict PySem.F.slot_dict_get PySem.F.type_dict_get hm.noDict h
theorem b3_get {k : Int} {x : Option Value} {Q : Value → Shared → Prop} (F : Fr h₀ L s.heap m) (X : (fragG w.params).In h₀) (hl : findBy Value.isInt ES.toArray k = x) (h : Q (x.getD .none) { s with toks := s.toks + 1 }) :
    wpAny (model prog w) A (call (.builtin "dict.get") [.ref 29, .int k t]) Q E s :=
  have hm := b3_map (prog := prog) F X
  call_meetsIn PySem.F.slot_dict_get hm.typeIs PySem.F.entry_dict_get (PySem.F.args_dict_get_2 _ _) (meets_dict_get (intKind prog w) 29 (intKind_is prog w k t) rfl) ⟨_, hm, by rw [hl]; exact h⟩
theorem b3_hp : findBy Value.isInt ES.toArray 13259 = some (.str (Str.ofString "hp") 764) := by kernel_rfl
theorem b3_ph : findBy Value.isInt ES.toArray 13271 = some (.str (Str.ofString "ph") 773) := by kernel_rfl
end
end Mine
end
section
open PySem PySem.W PyProof.Rows
set_option maxRecDepth 100000
set_option maxHeartbeats 8000000
namespace Mine
theorem filledK : PySem.Challenge.rw_uy0009_01 = PySem.Challenge.rw_uy0009_01 ∧ fragG = fragG := by k_fill; exact ⟨rfl, rfl⟩
section
variable (w : World) (loose : List Str) (mean : ExcName → Option Value) (mg mb : Str → Option Value)
/-- the contract of a def: it needs r frames' room; from these values it hands back that one, and leaves all else as it stood -/
abbrev Ct (r : Nat) (f : Addr) (pre : Prop) (vs : List Value) (R : Tok → Value) : Prop :=
  ∀ (news : List (Addr × Obj)) (dp un : Nat) (gd : Option (List Code)) (cn : Str) (cs : Scope) (a : Addr) (ccd : Value) (cl : List (Str × Addr)) (outer : List Env) (A₀ : Around) (base h₀ : Heap) (L : Addr) (m : Str → Option Value) (s : Shared) (Q E : Value → Shared → Prop),
    Below A₀ base outer h₀ → Fr h₀ L s.heap m → (fragG w.params).In h₀ → News h₀ L s.heap news → Top vw loose mean mg mb h₀ → cs.kind = .function →
    pre → dp + r < recursionLimit → un + 8 * r < cLine → CbRet h₀ L m news s Q R →
      wpAny (model PySem.Challenge.rw_uy0009_01.row.prog w) (ktrTop dp un gd cn cs L a ccd cl outer) (call (.ref f) vs) Q E s

theorem Ct.use {w : World} {loose : List Str} {mean : ExcName → Option Value} {mg mb : Str → Option Value} {r : Nat} {f : Addr} {pre : Prop} {vs : List Value} {R : Tok → Value} (C : Ct w loose mean mg mb r f pre vs R)
    {news : List (Addr × Obj)} {dp un : Nat} {gd : Option (List Code)} {cn : Str} {cs : Scope} {a : Addr} {ccd : Value} {cl : List (Str × Addr)} {outer : List Env} {A₀ : Around} {base h₀ : Heap} {L : Addr} {m : Str → Option Value} {s : Shared} {Q E : Value → Shared → Prop}
    (B : Below A₀ base outer h₀) (F : Fr h₀ L s.heap m) (X : (fragG w.params).In h₀) (N : News h₀ L s.heap news) (T : Top vw loose mean mg mb h₀) (hk : cs.kind = .function)
    (hp : pre) (hd : dp + r < recursionLimit) (hu : un + 8 * r < cLine) (ret : CbRet h₀ L m news s Q R) :
    wpAny (model PySem.Challenge.rw_uy0009_01.row.prog w) (ktrTop dp un gd cn cs L a ccd cl outer) (call (.ref f) vs) Q E s :=
  C news dp un gd cn cs a ccd cl outer A₀ base h₀ L m s Q E B F X N T hk hp hd hu ret

local macro_rules | `(tactic| walk_at "exec While Compare cons nil") => `(tactic| k_dflt (k_extra "exec While Compare cons nil"))
def OddInv (n x : Int) : Prop := 0 ≤ x ∧ oddOnes x.toNat = oddOnes n.toNat
theorem odd_start {n : Int} (h : 0 ≤ n) : OddInv n n := ⟨h, rfl⟩
theorem odd_turn {n x : Int} (h : OddInv n x) (h3 : x.fmod 4 = 3) : OddInv n (x.fdiv 4) := by
  obtain ⟨h0, e⟩ := h
  rw [Int.fmod_eq_emod_of_nonneg _ (by omega)] at h3
  rw [Int.fdiv_eq_ediv_of_nonneg _ (by omega)]
  refine ⟨by omega, ?_⟩
  rw [← e, oddOnes.eq_def x.toNat, if_pos (by omega)]
  congr 1; omega
theorem odd_less {n x : Int} (h : OddInv n x) (h3 : x.fmod 4 = 3) : (x.fdiv 4).toNat < x.toNat := by
  obtain ⟨h0, e⟩ := h
  rw [Int.fmod_eq_emod_of_nonneg _ (by omega)] at h3
  rw [Int.fdiv_eq_ediv_of_nonneg _ (by omega)]
  omega
theorem odd_end {n x : Int} (h : OddInv n x) (h3 : x.fmod 4 ≠ 3) : (x.fmod 2 == 1) = oddOnes n.toNat := by
  obtain ⟨h0, e⟩ := h
  rw [Int.fmod_eq_emod_of_nonneg _ (by omega)] at h3
  rw [Int.fmod_eq_emod_of_nonneg _ (by omega), ← e, oddOnes.eq_def x.toNat, if_neg (by omega)]
  rw [Bool.eq_iff_iff]; simp only [beq_iff_eq]; omega
theorem ct_odd (n : Int) (t : Tok) : Ct w loose mean mg mb 1 86 (0 ≤ n) [.int n t] (fun _ => .bool (oddOnes n.toNat)) := by
  intro news dp un gd cn cs a ccd cl outer A₀ base h₀ L m s Q E B F X N T hk hpre hd hu hret
  refine wpAny_call ?_
  k_dflt cell_enter
  k_with_none
  k_with "exec While Compare cons nil" => k_while (fun _ number => OddInv n number) (fun _ number => number.toNat) "number"
  k_with "state" => first | exact odd_start hpre | exact odd_turn (by assumption) (by assumption)
  k_with "measure" => exact odd_less (by assumption) (by assumption)
  k_steps
  exact cb_retB (Q := Q) hret (odd_end (by assumption) (by assumption)) (by assumption) (by assumption)
local macro_rules | `(tactic| walk_at "call ref") => `(tactic| (k_here; k_dflt (
  refine' Ct.use (ct_odd _ _ _ _ _ _ _) ?k1 ?k2 ?k3 ?k4 ?k5 ?k6 ?k7 ?k8 ?k9 ?_;
  (case k1 => k_asm); (case k2 => k_asm); (case k3 => k_asm); (case k4 => k_asm); (case k5 => k_asm); (case k6 => first | exact rfl | assumption); (case k7 => k_extra "pre"); (case k8 => ktr_room); (case k9 => ktr_units);
  k_whole; intro t' h' tk' F' N'; (try dsimp only))))

def SqInv (p z x y : Int) : Prop := 0 ≤ x ∧ 0 < y ∧ square x.toNat y.toNat = square p.toNat z.toNat
theorem sq_start {p z : Int} (h : 0 ≤ p ∧ 0 < z) : SqInv p z p z := ⟨h.1, h.2, rfl⟩
theorem sq_turn {p z x y : Int} (h : SqInv p z x y) (h2 : y.fmod 2 = 0) (h1 : x.fmod 2 ≠ 1) : SqInv p z (x.fdiv 2) (y.fdiv 2) := by
  obtain ⟨hx, hy, e⟩ := h
  rw [Int.fmod_eq_emod_of_nonneg _ (by omega)] at h1 h2
  rw [Int.fdiv_eq_ediv_of_nonneg _ (by omega), Int.fdiv_eq_ediv_of_nonneg _ (by omega)]
  refine ⟨by omega, by omega, ?_⟩
  rw [← e, square.eq_def x.toNat, dif_pos (by omega), if_neg (by omega)]
  congr 1 <;> omega
theorem sq_less {p z x y : Int} (h : SqInv p z x y) (h2 : y.fmod 2 = 0) : (y.fdiv 2).toNat < y.toNat := by
  obtain ⟨hx, hy, e⟩ := h
  rw [Int.fmod_eq_emod_of_nonneg _ (by omega)] at h2
  rw [Int.fdiv_eq_ediv_of_nonneg _ (by omega)]
  omega
theorem sq_odd {p z x y : Int} (h : SqInv p z x y) (h2 : y.fmod 2 = 0) (h1 : x.fmod 2 = 1) : false = square p.toNat z.toNat := by
  obtain ⟨hx, hy, e⟩ := h
  rw [Int.fmod_eq_emod_of_nonneg _ (by omega)] at h1 h2
  rw [← e, square.eq_def x.toNat, dif_pos (by omega), if_pos (by omega)]
theorem sq_one {p z x y : Int} (h : SqInv p z x y) (h1 : y = 1) : oddOnes x.toNat = square p.toNat z.toNat := by
  obtain ⟨hx, hy, e⟩ := h
  rw [← e, h1, square.eq_def x.toNat, dif_neg (by omega), if_pos (by omega)]
theorem sq_pre {p z x y : Int} (h : SqInv p z x y) : 0 ≤ x.fdiv 2 := by
  obtain ⟨hx, hy, e⟩ := h
  rw [Int.fdiv_eq_ediv_of_nonneg _ (by omega)]
  omega
theorem sq_pre2 {p z x y : Int} (h : SqInv p z x y) : 0 ≤ x.fdiv 2 + 2 := by
  have := sq_pre h
  omega
theorem sq_end {p z x y : Int} (h : SqInv p z x y) (h2 : y.fmod 2 ≠ 0) (h1 : y ≠ 1) : square p.toNat z.toNat = ((y == 3) && (x.fmod 2 == 1) && oddOnes (x.fdiv 2).toNat && oddOnes (x.fdiv 2 + 2).toNat) := by
  obtain ⟨hx, hy, e⟩ := h
  rw [Int.fmod_eq_emod_of_nonneg _ (by omega)] at h2 ⊢
  rw [Int.fdiv_eq_ediv_of_nonneg _ (by omega)]
  rw [← e, square.eq_def x.toNat, dif_neg (by omega), if_neg (by omega)]
  have e1 : (y.toNat == 3) = (y == 3) := by rw [Bool.eq_iff_iff]; simp only [beq_iff_eq]; omega
  have e2 : (x.toNat % 2 == 1) = (x % 2 == 1) := by rw [Bool.eq_iff_iff]; simp only [beq_iff_eq]; omega
  have e3 : x.toNat / 2 = (x / 2).toNat := by omega
  have e4 : x.toNat / 2 + 2 = (x / 2 + 2).toNat := by omega
  rw [e1, e2, e4, e3]
theorem sq_e1 {p z x y : Int} (h : SqInv p z x y) (h2 : y.fmod 2 ≠ 0) (h1 : y ≠ 1) (h3 : y = 3) (hx : x.fmod 2 = 1) (ho : oddOnes (x.fdiv 2).toNat = true) : oddOnes (x.fdiv 2 + 2).toNat = square p.toNat z.toNat := by
  rw [sq_end h h2 h1, hx, ho, h3]; rfl
theorem sq_e2 {p z x y : Int} (h : SqInv p z x y) (h2 : y.fmod 2 ≠ 0) (h1 : y ≠ 1) (hx : x.fmod 2 ≠ 1) : (x.fmod 2 == 1) = square p.toNat z.toNat := by
  rw [sq_end h h2 h1, beq_false_of_ne hx]; simp
theorem sq_e3 {p z x y : Int} (h : SqInv p z x y) (h2 : y.fmod 2 ≠ 0) (h1 : y ≠ 1) (h3 : y ≠ 3) : (y == 3) = square p.toNat z.toNat := by
  rw [sq_end h h2 h1, beq_false_of_ne h3]; rfl
theorem sq_e4 {p z x y : Int} (h : SqInv p z x y) (h2 : y.fmod 2 ≠ 0) (h1 : y ≠ 1) (ho : oddOnes (x.fdiv 2).toNat = false) : oddOnes (x.fdiv 2).toNat = square p.toNat z.toNat := by
  rw [sq_end h h2 h1, ho]; simp
theorem ct_square (p z : Int) (t u : Tok) : Ct w loose mean mg mb 2 93 (0 ≤ p ∧ 0 < z) [.int p t, .int z u] (fun _ => .bool (square p.toNat z.toNat)) := by
  intro news dp un gd cn cs a ccd cl outer A₀ base h₀ L m s Q E B F X N T hk hpre hd hu hret
  refine wpAny_call ?_
  k_dflt cell_enter
  k_with_none
  k_with "exec While Compare cons nil" => k_while (fun _ place size => SqInv p z place size) (fun _ _ size => size.toNat) "place" "size"
  k_with "state" => first | exact sq_start hpre | exact sq_turn (by assumption) (by assumption) (by assumption)
  k_with "measure" => exact sq_less (by assumption) (by assumption)
  k_with "pre" => first | exact And.left (by assumption) | exact sq_pre (by assumption) | exact sq_pre2 (by assumption)
  k_steps
  · exact cb_retB (Q := Q) hret (sq_odd (by assumption) (by assumption) (by assumption)) (by assumption) (by assumption)
  · exact cb_retB (Q := Q) hret (sq_one (by assumption) (by assumption)) (by assumption) (by assumption)
  all_goals (
    refine cb_retB (Q := Q) hret ?_ (by assumption) (by assumption)
    first
    | exact sq_e1 (by assumption) (by assumption) (by assumption) (by assumption) (by assumption) (by assumption)
    | exact sq_e2 (by assumption) (by assumption) (by assumption) (by assumption)
    | exact sq_e3 (by assumption) (by assumption) (by assumption) (by assumption)
    | exact sq_e4 (by assumption) (by assumption) (by assumption) (by assumption)
    | exact sq_e4 (by assumption) (by assumption) (by assumption) (by simp_all; done))
end
end Mine
end
section
open PySem PySem.W PyProof.Rows
set_option maxRecDepth 100000
set_option maxHeartbeats 1000000
namespace Mine
section
variable (w : World) (loose : List Str) (mean : ExcName → Option Value) (mg mb : Str → Option Value)
local macro_rules | `(tactic| walk_at "call builtin:str.split") => `(tactic| k_dflt (k_extra "call builtin:str.split"))
local macro_rules | `(tactic| walk_at "pyIter ref") => `(tactic| k_dflt (k_extra "pyIter ref"))
local macro_rules | `(tactic| walk_at "call builtin:len") => `(tactic| k_dflt (k_extra "call builtin:len"))
local macro_rules | `(tactic| walk_at "truthy str") => `(tactic| (refine P.truthy_str (by omega) ?_))
local macro_rules | `(tactic| walk_at "subscriptTail") => `(tactic| k_dflt (k_extra "subscriptTail"))
local macro_rules | `(tactic| walk_at "delItem ref int") => `(tactic| k_dflt (k_extra "delItem"))
local macro_rules | `(tactic| walk_at "call builtin:str.find") => `(tactic| (refine call_find4 ?_))
local macro_rules | `(tactic| walk_at "exec For Name Name cons nil") => `(tactic| k_dflt (k_extra "exec For Name Name cons nil"))
local macro_rules | `(tactic| walk_at "EmPost") => `(tactic| (dsimp only [EmPost]))
local macro_rules | `(tactic| walk_at "EmEnd") => `(tactic| k_dflt (k_extra "EmEnd"))
theorem ct_em (x y : Str) (t u : Tok) : Ct w loose mean mg mb 1 21 (x.length ≤ 1000 ∧ y.length ≤ 1000) [.str x t, .str y u] (fun _ => .bool (em x y)) := by
  intro news dp un gd cn cs a ccd cl outer A₀ base h₀ L m s Q E B F X N T hk hpre hd hu hret
  obtain ⟨hx, hy⟩ := hpre
  refine wpAny_call ?_
  k_dflt cell_enter
  k_with_none
  k_with "call builtin:str.split" => (
    have hc : Txt.contains x dots = true := by unfold Txt.contains; simp_all
    refine split_em (by assumption) (by assumption) hc (by rw [sizeLine_eq]; omega) ?_
    intro D p tp mid q tq h' k es hp hq F' N' lt
    have hap : ∀ z ∈ news, z.1 ≠ D := fun z hz => Nat.ne_of_lt (lt z hz)
    have hlen : mid.length + 2 ≤ 1000 := mid_short hx es
    have hall := all_mid hx es
    have hr0 : (strValues mid ++ [Value.str q tq]).length + 1 ≤ sizeLine := by simp [strValues, sizeLine_eq]; omega
    have hr1 : (strValues mid).length + 1 ≤ sizeLine := by simp [strValues, sizeLine_eq]; omega
    have hr2 : (Value.str p tp :: strValues mid).length + 1 ≤ sizeLine := by simp [strValues, sizeLine_eq]; omega
    have hl2 : (Value.str p tp :: (strValues mid ++ [Value.str q tq])).length = mid.length + 2 := by simp [strValues])
  k_with "call builtin:len" => (refine len_own (by assumption) (by first | exact sub_self _ | exact sub_tail _ _) hl2 (by omega) ?_; intro tn tkn)
  k_with "subscriptTail" => (with_reducible refine item_first (by assumption) (by first | exact sub_self _ | exact sub_tail _ _) ?_)
  k_with "subscriptTail" => (with_reducible refine item_last (vs := Value.str p tp :: strValues mid) (v := Value.str q tq) (by assumption) (by first | exact sub_self _ | exact sub_tail _ _) (List.cons_append).symm ?_)
  k_with "subscriptTail" => (with_reducible refine item_last (vs := strValues mid) (v := Value.str q tq) (by assumption) (by first | exact sub_self _ | exact sub_tail _ _) rfl ?_)
  k_with "delItem" => (with_reducible refine erase_first (by assumption) (by assumption) (by first | exact sub_self _ | exact sub_tail _ _) hap (by assumption) ?_; intro h' F' N')
  k_with "delItem" => (with_reducible refine erase_last (vs := Value.str p tp :: strValues mid) (v := Value.str q tq) (by assumption) (by assumption) (by first | exact sub_self _ | exact sub_tail _ _) (List.cons_append).symm hap (by assumption) ?_; intro h' F' N')
  k_with "delItem" => (with_reducible refine erase_last (vs := strValues mid) (v := Value.str q tq) (by assumption) (by assumption) (by first | exact sub_self _ | exact sub_tail _ _) rfl hap (by assumption) ?_; intro h' F' N')
  k_with "exec For Name Name cons nil" => (refine for_own (by assumption) ?_ (by rfl) (by rfl) (by intro _; rfl) (by passes_own))
  k_with "pyIter ref" => (
    refine em_iter (y := y) (R := em x y) (l := mid) rfl (by assumption) (by assumption) (by first | exact sub_self _ | exact sub_tail _ _) rfl hap (by rfl) (em_c1 hc es (by assumption) (by assumption) (by assumption) (by assumption) (by assumption)) hall.2 ?turn1 ?done1
    case' turn1 => intro q2 tq2 r2 sp2 ts2 h2 tk2 own2 hq2 hem F2 N2
    case' done1 => intro m2 h2 tk2 hR F2 N2)
  k_with "pyIter ref" => (
    refine em_iter (y := y) (R := em x y) (l := mid ++ [(q, tq)]) rfl (by assumption) (by assumption) (by first | exact sub_self _ | exact sub_tail _ _) (by simp [strValues]) hap (by rfl) (em_c2 hc es (by assumption) (by assumption) (by assumption) (by assumption)) (by intro z hz; rcases List.mem_append.mp hz with h | h; exact hall.2 z h; rw [List.mem_singleton.mp h]; exact hall.1.2) ?turn2 ?done2
    case' turn2 => intro q2 tq2 r2 sp2 ts2 h2 tk2 own2 hq2 hem F2 N2
    case' done2 => intro m2 h2 tk2 hR F2 N2)
  k_with "pyIter ref" => (
    refine em_iter (y := y) (R := em x y) (l := (p, tp) :: mid) rfl (by assumption) (by assumption) (by first | exact sub_self _ | exact sub_tail _ _) rfl hap (by rfl) (em_c3 hc es (by assumption) (by assumption) (by assumption) (by assumption)) (by intro z hz; rcases List.mem_cons.mp hz with h | h; rw [h]; exact hall.1.1; exact hall.2 z h) ?turn3 ?done3
    case' turn3 => intro q2 tq2 r2 sp2 ts2 h2 tk2 own2 hq2 hem F2 N2
    case' done3 => intro m2 h2 tk2 hR F2 N2)
  k_with "pyIter ref" => (
    refine em_iter (y := y) (R := em x y) (l := (p, tp) :: (mid ++ [(q, tq)])) rfl (by assumption) (by assumption) (by first | exact sub_self _ | exact sub_tail _ _) (by simp [strValues]) hap (by rfl) (em_c4 hc es (by assumption) (by assumption)) (by intro z hz; rcases List.mem_cons.mp hz with h | h; rw [h]; exact hall.1.1; rcases List.mem_append.mp h with h | h; exact hall.2 z h; rw [List.mem_singleton.mp h]; exact hall.1.2) ?turn4 ?done4
    case' turn4 => intro q2 tq2 r2 sp2 ts2 h2 tk2 own2 hq2 hem F2 N2
    case' done4 => intro m2 h2 tk2 hR F2 N2)
  k_with "EmEnd" => (refine em_end (by assumption) (by assumption) (by first | exact sub_self _ | exact sub_tail _ _) (em_step hem (by assumption)) (by rfl) ?_; intro z h1 h2; simp only [if_neg h1, if_neg h2])
  k_steps
  all_goals (
    refine cb_retB (Q := Q) hret ?_ (by assumption) (by first | assumption | exact cb_drop (by assumption) (sub_tail _ _) | exact cb_drop (by assumption) (fun p h => List.mem_append.mpr (.inl h)) | exact cb_drop (by assumption) (fun p h => List.mem_cons_of_mem _ (List.mem_cons_of_mem _ h)))
    first
    | exact em_e0 (by assumption)
    | exact (em_stop hem (by assumption))
    | exact hR.symm
    | exact em_f1 hc es (by assumption) (by assumption)
    | exact em_f2 hc es (by assumption) (by assumption) (by assumption) (by assumption)
    | exact em_f3 hc es (by assumption) (by assumption) (by assumption)
    | exact em_f4 hc es (by assumption) (by assumption) (by assumption) (by assumption) (by assumption)
    | exact em_f5 hc es (by assumption) (by assumption) (by assumption) (by assumption)
    | exact em_f6 hc es (by assumption) (by assumption) (by assumption) (by assumption)
)
end
end Mine
end
section
open PySem PySem.W PyProof.Rows
set_option maxRecDepth 100000
set_option maxHeartbeats 1000000
namespace Mine
section
variable (w : World) (loose : List Str) (mean : ExcName → Option Value) (mg mb : Str → Option Value)
local macro_rules | `(tactic| walk_at "getMethod ref") => `(tactic| (k_here; k_dflt (refine b3_method (by k_asm) (by k_asm) ?_)))
local macro_rules | `(tactic| walk_at "call builtin:dict.get") => `(tactic| (k_here; k_dflt (first | refine b3_get (by k_asm) (by k_asm) b3_hp ?_ | refine b3_get (by k_asm) (by k_asm) b3_ph ?_); (try dsimp only [Option.getD])))
theorem ct_maph (t : Tok) : Ct w loose mean mg mb 1 74 True [.str (Str.ofString "㏋") t] (fun t => .str (Str.ofString "hp") t) := by
  intro news dp un gd cn cs a ccd cl outer A₀ base h₀ L m s Q E B F X N T hk hpre hd hu hret
  refine wpAny_call ?_
  k_dflt cell_enter
  k_with_none
  k_steps
  exact hret _ _ _ (by assumption) (by assumption)
theorem ct_mapp (t : Tok) : Ct w loose mean mg mb 1 74 True [.str (Str.ofString "㏗") t] (fun t => .str (Str.ofString "ph") t) := by
  intro news dp un gd cn cs a ccd cl outer A₀ base h₀ L m s Q E B F X N T hk hpre hd hu hret
  refine wpAny_call ?_
  k_dflt cell_enter
  k_with_none
  k_steps
  exact hret _ _ _ (by assumption) (by assumption)
local macro_rules | `(tactic| walk_at "call ref") => `(tactic| (k_here; k_dflt (
  refine' Ct.use (ct_maph _ _ _ _ _ _) ?k1 ?k2 ?k3 ?k4 ?k5 ?k6 ?k7 ?k8 ?k9 ?_;
  (case k1 => k_asm); (case k2 => k_asm); (case k3 => k_asm); (case k4 => k_asm); (case k5 => k_asm); (case k6 => first | exact rfl | assumption); (case k7 => first | exact trivial | k_extra "pre"); (case k8 => ktr_room); (case k9 => ktr_units);
  k_whole; intro t' h' tk' F' N'; (try dsimp only))))
local macro_rules | `(tactic| walk_at "call ref") => `(tactic| (k_here; k_dflt (
  refine' Ct.use (ct_mapp _ _ _ _ _ _) ?k1 ?k2 ?k3 ?k4 ?k5 ?k6 ?k7 ?k8 ?k9 ?_;
  (case k1 => k_asm); (case k2 => k_asm); (case k3 => k_asm); (case k4 => k_asm); (case k5 => k_asm); (case k6 => first | exact rfl | assumption); (case k7 => first | exact trivial | k_extra "pre"); (case k8 => ktr_room); (case k9 => ktr_units);
  k_whole; intro t' h' tk' F' N'; (try dsimp only))))

theorem gr_h {c : Nat} (h : ((⟨#[c]⟩ : Str) == Str.ofString "h") = true) : gr c = Str.ofString "hp" := by
  have e : (⟨#[c]⟩ : Str) = Str.ofString "h" := by simpa using h
  have e2 : Str.ofString "h" = ⟨#[104]⟩ := by decide +kernel
  rw [e2] at e
  injection e with e
  have : c = 104 := by simpa using e
  unfold gr; rw [if_pos this]
theorem gr_p {c : Nat} (h : ((⟨#[c]⟩ : Str) == Str.ofString "h") = false) : gr c = Str.ofString "ph" := by
  unfold gr
  rw [if_neg]
  intro e
  subst e
  rw [show (⟨#[104]⟩ : Str) = Str.ofString "h" by decide +kernel] at h
  simp at h
theorem gr_len (c : Nat) : (gr c).length = 2 := by
  unfold gr
  split <;> decide +kernel
theorem gr_room {x : Str} (h : x.length ≤ 64) : (((ls x).map gr).map (·.length)).sum + ((ls x).map gr).length * 64 ≤ 16777216 := by
  have e : ∀ l : List Nat, ((l.map gr).map (·.length)).sum = 2 * l.length := by
    intro l
    induction l with
    | nil => rfl
    | cons a r ih => simp only [List.map_cons, List.sum_cons, gr_len, ih, List.length_cons]; omega
  rw [e, List.length_map, ls_length]
  omega
local macro_rules | `(tactic| walk_at "call builtin:str.join") => `(tactic| k_dflt (k_extra "call builtin:str.join"))
local macro_rules | `(tactic| walk_at "eval ListComp") => `(tactic| k_dflt (k_extra "eval ListComp"))
local macro_rules | `(tactic| walk_at "CompEnd") => `(tactic| k_dflt (k_extra "CompEnd"))
theorem ct_grown (x : Str) (t : Tok) : Ct w loose mean mg mb 2 79 (x.length ≤ 64) [.str x t] (fun t => .str (grown x) t) := by
  intro news dp un gd cn cs a ccd cl outer A₀ base h₀ L m s Q E B F X N T hk hpre hd hu hret
  refine wpAny_call ?_
  k_dflt cell_enter
  k_with_none
  k_with "eval ListComp" => (
    refine listcomp_str (xt := x) (tx := t) (news := news) gr (by rfl) (by decide) (by rfl) (by decide) (by rfl) (by intro _; rfl) (by rfl) (by rw [sizeLine_eq]; omega) (ld (by assumption) (by rfl) ⟨_, _, rfl, rfl, by assumption, by assumption⟩) ?turn ?fin
    case' turn => intro c tc I oI C oC D m2 ys h2 tk2 E2 hc hC hm F2 N2 off2 ne2
    case' fin => intro ys D h2 tk2 hys F2 N2 o1)
  k_with "CompEnd" => exact ⟨_, _, news, rfl, by assumption, by assumption, off2, trivial, rfl, _, by rw [gr_h (by assumption)]⟩
  k_with "CompEnd" => exact ⟨_, _, news, rfl, by assumption, by assumption, off2, trivial, rfl, _, by rw [gr_p (by assumption)]⟩
  k_with "call builtin:str.join" => (
    refine join_listC (items := ys.toArray) ⟨_, (N2 _ (.head _)).1, rfl, _, rfl⟩ (by simpa using hys) (by decide +kernel) (gr_room hpre) ?_
    intro t9 k9)
  k_steps
  exact hret _ _ _ (by assumption) (by first | assumption | exact cb_drop (by assumption) (sub_tail _ _))
end
end Mine
end
section
open PySem PySem.W PyProof.Rows
set_option maxRecDepth 100000
set_option maxHeartbeats 1000000
namespace Mine
section
variable (w : World) (loose : List Str) (mean : ExcName → Option Value) (mg mb : Str → Option Value)
local macro_rules | `(tactic| walk_at "exec While Name cons nil") => `(tactic| k_dflt (k_extra "exec While Name cons nil"))
local macro_rules | `(tactic| walk_at "subscriptTail Name Slice bytes ref") => `(tactic| k_dflt (k_extra "subscriptTail Name Slice bytes ref"))
local macro_rules | `(tactic| walk_at "binaryOp Add bytes bytes") => `(tactic| k_dflt (k_extra "binaryOp Add bytes bytes"))
theorem ct_ap (n : Int) (t : Tok) : Ct w loose mean mg mb 1 28 (n.natAbs < 2 ^ 100) [.int n t] (fun t => .bytes (ap n.natAbs).toArray t) := by
  intro news dp un gd cn cs a ccd cl outer A₀ base h₀ L m s Q E B F X N T hk hpre hd hu hret
  refine wpAny_call ?_
  k_dflt cell_enter
  k_with_none
  k_with "exec While Name cons nil" => k_while (fun _ num val => ApInv n num val) (fun _ num _ => num.toNat) "num" "val"
  k_with "subscriptTail Name Slice bytes ref" => (
    rename ApInv n _ _ => hI
    (with_reducible rename Fr _ _ _ _ => F')
    (with_reducible rename News _ _ _ _ => N')
    refine KBc.slice_K (s := ⟨_, _, _, _, _⟩) F' N' rfl (by constructor) (by constructor) (by decide) ?_
    intro h8 t8 k8 F8 N8 _
    rw [ap_pick hI.1]
    clear F' N')
  k_with "binaryOp Add bytes bytes" => (refine KBy.add_bytes (by have := ap_size hI hpre; simp only [List.size_toArray, List.length_cons, List.length_nil]; omega) ?_; intro t9 k9)
  k_with "state" => first | exact ap_start n _ (by omega) | exact ap_turn (by assumption) (by assumption)
  k_with "measure" => first | exact ap_less (by assumption) (by assumption)
  k_steps
  rename ApInv n _ _ => hI
  first | rw [ap_end hI (by assumption)]
  exact hret _ _ _ (by assumption) (by assumption)
end
end Mine
end
section
open PySem PySem.W PyProof.Rows
set_option maxRecDepth 100000
set_option maxHeartbeats 16000000
open Mine
local macro_rules | `(tactic| walk_at "call ref") => `(tactic| (k_here; k_dflt (
  refine' Ct.use (ct_square _ _ _ _ _ _ _ _ _) ?k1 ?k2 ?k3 ?k4 ?k5 ?k6 ?k7 ?k8 ?k9 ?_;
  (case k1 => k_asm); (case k2 => k_asm); (case k3 => k_asm); (case k4 => k_asm); (case k5 => k_asm); (case k6 => first | exact rfl | assumption); (case k7 => k_extra "pre"); (case k8 => first | ktr_room | decide); (case k9 => first | ktr_units | decide);
  k_whole; intro t' h' tk' F' N'; (try dsimp only))))
local macro_rules | `(tactic| walk_at "call ref") => `(tactic| (k_here; k_dflt (
  refine' Ct.use (ct_em _ _ _ _ _ _ _ _ _) ?k1 ?k2 ?k3 ?k4 ?k5 ?k6 ?k7 ?k8 ?k9 ?_;
  (case k1 => k_asm); (case k2 => k_asm); (case k3 => k_asm); (case k4 => k_asm); (case k5 => k_asm); (case k6 => first | exact rfl | assumption); (case k7 => k_extra "pre"); (case k8 => first | ktr_room | decide); (case k9 => first | ktr_units | decide);
  k_whole; intro t' h' tk' F' N'; (try dsimp only))))
local macro_rules | `(tactic| walk_at "call ref") => `(tactic| (k_here; k_dflt (
  refine' Ct.use (ct_grown _ _ _ _ _ _ _) ?k1 ?k2 ?k3 ?k4 ?k5 ?k6 ?k7 ?k8 ?k9 ?_;
  (case k1 => k_asm); (case k2 => k_asm); (case k3 => k_asm); (case k4 => k_asm); (case k5 => k_asm); (case k6 => first | exact rfl | assumption); (case k7 => k_extra "pre"); (case k8 => first | ktr_room | decide); (case k9 => first | ktr_units | decide);
  k_whole; intro t' h' tk' F' N'; (try dsimp only))))
local macro_rules | `(tactic| walk_at "call ref") => `(tactic| (k_here; k_dflt (
  refine' Ct.use (ct_ap _ _ _ _ _ _ _) ?k1 ?k2 ?k3 ?k4 ?k5 ?k6 ?k7 ?k8 ?k9 ?_;
  (case k1 => k_asm); (case k2 => k_asm); (case k3 => k_asm); (case k4 => k_asm); (case k5 => k_asm); (case k6 => first | exact rfl | assumption); (case k7 => k_extra "pre"); (case k8 => first | ktr_room | decide); (case k9 => first | ktr_units | decide);
  k_whole; intro t' h' tk' F' N'; (try dsimp only))))

local macro_rules | `(tactic| walk_at "StPost") => `(tactic| (dsimp only [StPost]))
local macro_rules | `(tactic| walk_at "exec For Name Tuple cons nil") => `(tactic| k_dflt (k_extra "exec For Name Tuple cons nil"))
local macro_rules | `(tactic| walk_at "subscriptTail Name Slice str ref") => `(tactic| k_dflt (k_extra "subscriptTail"))
local macro_rules | `(tactic| walk_at "subscriptTail Name Slice bytes ref") => `(tactic| (k_dflt (k_extra "bytes cut")))
local macro_rules | `(tactic| walk_at "exec While Compare cons nil") => `(tactic| k_dflt (k_extra "exec While Compare cons nil"))
local macro_rules | `(tactic| walk_at "exec For Name Call cons nil") => `(tactic| k_dflt (k_extra "exec For Name Call cons nil"))
local macro_rules | `(tactic| walk_at "binaryOp Add str str") => `(tactic| k_dflt (refine add_lim (by repeat (first | with_reducible assumption | with_reducible exact lim_dots | with_reducible apply lim_app)) (by repeat (first | with_reducible assumption | with_reducible exact lim_dots | with_reducible apply lim_app)) (by decide) ?_; intro _ _))
local macro_rules | `(tactic| walk_at "exec Return some") => `(tactic| (k_dflt (k_extra "no return")))
local macro_rules | `(tactic| walk_at "binaryOp Mult str int") => `(tactic| k_dflt (k_extra "mul"))
local macro_rules | `(tactic| walk_at "subscriptTail Name Constant str int") => `(tactic| k_dflt (k_extra "sign"))
local macro_rules | `(tactic| walk_at "StEnd") => `(tactic| k_dflt (
    (with_reducible rename Fr _ _ _ _ => F')
    (with_reducible rename News _ _ _ _ => N')
    exact st_end () F' N' (by first | exact sub_self _ | exact sub_tail _ _ | exact fun p hp => List.mem_cons_of_mem _ (List.mem_cons_of_mem _ hp)) trivial (by
      intro zz z1 z2
      simp only [List.contains_cons, List.contains_nil, Bool.or_false, Bool.or_eq_false_iff, beq_eq_false_iff_ne, ne_eq] at z2
      simp [z1, z2])))
local macro_rules | `(tactic| walk_at "StEnd") => `(tactic| k_dflt (k_extra "StEnd"))
theorem PySem.Challenge.cw_uy0009_01_holds : PySem.Challenge.rw_uy0009_01.Holds :=
  Mine.hd (by rfl) (by rfl) (by rfl) (by
  k_with_none
  k_with "pyIter ref" => k_state (fun pre p => PlaceInv pre p) "place"
  k_with "pyIter bytes" => k_state (fun pre l k => LetInv pre l k) "letters" "number"
  k_with "exec For Name Tuple cons nil" => (refine for_own (by assumption) ?_ (by rfl) (by rfl) (by intro _; rfl) (by passes_own))
  k_with "pyIter ref" => (
    have hc := octet_in kEq
    refine fig_iter (d := (kN - 65).toNat) (by omega) (And.right (And.right kInv)) rfl (by assumption) (by assumption) (sub_self _) (allLt_ne (by show _ ∧ _ ∧ AllLt _ _; assumption)) (by rfl) ?turnF ?doneF
    case' turnF => intro f tf l tl k u h3 tk3 own3 hf hl F3 N3
    case' doneF => intro l tl u h3 tk3 hl F3 N3)
  k_with "subscriptTail" => (
    (with_reducible rename Fr _ _ _ _ => F')
    (with_reducible rename News _ _ _ _ => N')
    with_reducible refine sl_ss (s := ⟨_, _, _, _, _⟩) (grown_win _ _ 2 hl) (by decide) (by have := bit_in ((kN - 65).fdiv f); omega) F' N' ?goF
    case' goF => (
      intro z h4 t4 tk4 hz0 F4 N4
      have hz : ls z = win (2 * k + (kN - 65).toNat / f.toNat % 2) 2 := by
        rw [hz0, bit_of hc hf]; congr 1; omega
      clear hz0))
  k_with "StEnd" => (
    refine st_end (m' := ?mm1) (news' := ?nn1) (z, t4) ?e1 ?e2 ?e3 ?e4 ?e5
    case' e1 => assumption
    case' e2 => assumption
    case' e3 => exact sub_self _
    case' e4 => exact hz
    case' e5 => (
      intro zz h1 h2
      have h3 : zz ≠ Str.ofString "bit" := by simpa using h2
      by_cases h4 : zz = Str.ofString "letters"
      · simp only [if_pos h4]
      · simp only [if_neg h4, if_neg h3, if_neg h1]))
  k_with "bytes cut" => (
    (with_reducible rename Fr _ _ _ _ => F')
    (with_reducible rename News _ _ _ _ => N')
    have hnum := number_ok (by assumption) (by assumption)
    refine KBc.slice_K (s := ⟨_, _, _, _, _⟩) F' N' rfl (by constructor) (by constructor) (ap_room (by rw [place_abs (by have := place_end (by assumption); omega)]; have := place_end (by assumption); omega)) ?goB
    case' goB => (
      intro h8 t8 k8 F8 N8 hB
      have hA := ap_first hB
      clear hB F' N'))
  k_with "exec For Name Call cons nil" => (refine for_own (by assumption) ?_ (by rfl) (by rfl) (by intro _; rfl) (by passes_own))
  k_with "pyIter ref" => (k_of "start" => (
    (with_reducible rename Fr _ _ _ _ => F0)
    (with_reducible rename News _ _ _ _ => N0)
    refine iter_range_junk (x := Str.ofString "start") (n := 8) [Str.ofString "size", Str.ofString "piece", Str.ofString "shape", Str.ofString "answer", Str.ofString "first", Str.ofString "lapping", Str.ofString "lead", Str.ofString "trail"] rfl (by assumption) (by decide) (by decide) (by k_dflt exact F0) (by k_dflt exact N0) ?turnS ?doneS
    case' turnS => intro kS tS uS hS tkS ownS hkS FS NS
    case' doneS => intro uS hS tkS FS NS))
  k_with "pyIter ref" => (k_of "size" => (
    (with_reducible rename Fr _ _ _ _ => F0)
    (with_reducible rename News _ _ _ _ => N0)
    refine iter_range_junk (x := Str.ofString "size") (n := 8) [Str.ofString "piece", Str.ofString "shape", Str.ofString "answer", Str.ofString "first", Str.ofString "lapping", Str.ofString "lead", Str.ofString "trail"] rfl (by assumption) (by decide) (by decide) (by k_dflt exact F0) (by k_dflt exact N0) ?turnY ?doneY
    case' turnY => intro kY tY uY hY tkY ownY hkY FY NY
    case' doneY => intro uY hY tkY FY NY))
  k_with "pyIter ref" => (k_of "size" => (
    (with_reducible rename Fr _ _ _ _ => F0)
    (with_reducible rename News _ _ _ _ => N0)
    refine iter_range_junk (x := Str.ofString "size") (n := 8) [Str.ofString "piece", Str.ofString "shape", Str.ofString "answer", Str.ofString "first", Str.ofString "lapping", Str.ofString "lead", Str.ofString "trail"] rfl (by assumption) (by decide) (by decide) (by k_dflt exact F0) (by k_dflt exact N0) ?turnZ ?doneZ
    case' turnZ => (intro kZ tZ uZ hZ tkZ ownZ hkZ FZ NZ; have hbZ := bit_in kZ; have hcZ := bit_in (kZ.fdiv 2))
    case' doneZ => intro uZ hZ tkZ FZ NZ))
  k_with "exec While Compare cons nil" => k_while_given ["place"] (fun place _ ones rest => OnesInv place ones rest) (fun _ _ _ rest => rest.toNat) "ones" "rest"
  k_with "measure" => exact ones_less (by assumption) (by assumption)
  k_with "pyIter ref" => (
    refine iter_range_text (x := Str.ofString "_") (n := 5) (Str.ofString "letters") (GrowN _) rfl (by assumption) (by decide) (by decide) (by assumption) (by assumption) (by k_dflt exact rfl) (growN_start hnum.2) ?turnG ?doneG
    case' turnG => intro i5 k5 t5 l5 tl5 u5 h5 tk5 own5 hi5 hl5 F5 N5
    case' doneG => intro l5 tl5 u5 h5 tk5 hl5 F5 N5)
  k_with "sign" => (refine it_win hw (by decide) ?_)
  k_with "StEnd" => (
    have hl5' := growN_turn hl5
    refine st_end_text (l := grown l5) (t := ?tt6) (m' := ?mm6) (news' := ?nn6) ?f1 ?f2 ?f3 ?f4 hl5' ?f5
    case' f1 => assumption
    case' f2 => assumption
    case' f3 => exact sub_self _
    case' f4 => rfl
    case' f5 => (intro zz h1 h2 h3; simp only [if_neg h3, if_neg h1, List.contains_nil, Bool.false_eq_true, if_false]))
  k_with "subscriptTail" => (
    (with_reducible rename Fr _ _ _ _ => F')
    (with_reducible rename News _ _ _ _ => N')
    with_reducible refine sl_ss (s := ⟨_, _, _, _, _⟩) (growN_end hl5) (by decide) (mod32 _) F' N' ?goW
    case' goW => (
      intro win0 h6 t6 tk6 hw0 F6 N6
      have hp0 := place_end (by assumption)
      have hw := win_window (by omega) hw0
      have hlw := lim_win24 hw
      clear hw0))
  k_with "subscriptTail" => (
    (with_reducible rename Fr _ _ _ _ => F')
    (with_reducible rename News _ _ _ _ => N')
    have hp0' := hp0
    have hw' := hw
    first
    | (with_reducible refine sl_ss (s := ⟨_, _, _, _, _⟩) hw' (by decide) (by omega) F' N' ?_)
    | (with_reducible refine sl_ns (s := ⟨_, _, _, _, _⟩) hw' (by decide) (by omega) F' N' ?_)
    | (with_reducible refine sl_sn (s := ⟨_, _, _, _, _⟩) hw' (by decide) (by omega) F' N' ?_)

    clear hw' hp0' F' N'
    intro zX hX tX tkX hzX FX NX
    have hlX := lim_win hzX (by omega))
  k_with "mul" => (first | refine mul01 (bit_in _) ?_ | refine mul12 (bit_in _) ?_; intro zM tM kM hzM hlM)
  k_with "state" => first | exact place_start | exact place_turn (by assumption) | exact let_start | exact let_turn (by assumption) hc hl | exact ones_start (by have := place_end (by assumption); omega) | exact ones_turn (by assumption)
  k_with "pre" => first | exact growN_pre hl5 hi5 | exact (by rw [place_abs (by have := place_end (by assumption); omega)]; have := place_end (by assumption); omega) | exact (by have := len_of_ls hl; rw [win_length] at this; omega) | exact ⟨by omega, by omega⟩ | (exact ⟨lim_to (by repeat (first | with_reducible assumption | with_reducible exact lim_dots | with_reducible apply lim_app)) (by decide), lim_to (by repeat (first | with_reducible assumption | with_reducible exact lim_dots | with_reducible apply lim_app)) (by decide)⟩)
  k_with "no return" => (exfalso; exact (by assumption : _ ≠ _) (number_ok (by assumption) (by assumption)).1)
  k_with "no return" => (exfalso; first
      | ((with_reducible rename ((sign _ == _) != _) = true => cX); with_reducible exact sign_ok (by with_reducible assumption) (by with_reducible assumption) cX)
      | (with_reducible rename (em (Str.ofString "..." ++ (_ : Str) ++ (_ : Str) ++ Str.ofString "...") _ != square _ _) = true => cX; with_reducible exact ne_no cX (shape2' (by k_dflt omega) (win_cast (by with_reducible assumption) (by k_dflt omega) (by k_dflt omega)) (win_cast (by with_reducible assumption) (by k_dflt omega) (by k_dflt omega))))
      | (with_reducible rename (em ((_ : Str) ++ (_ : Str) ++ Str.ofString "...") _ != square _ _) = true => cX; with_reducible exact ne_no cX (shape0' (by k_dflt omega) (win_cast (by with_reducible assumption) (by k_dflt omega) (by k_dflt omega)) (win_cast (by with_reducible assumption) (by k_dflt omega) rfl) (by k_dflt omega)))
      | (with_reducible rename (em ((_ : Str) ++ Str.ofString "..." ++ (_ : Str)) _ != square _ _) = true => cX; with_reducible exact ne_no cX (shape1' (by k_dflt omega) (win_cast (by with_reducible assumption) (by k_dflt omega) (by k_dflt omega)) (win_cast (by with_reducible assumption) (by k_dflt omega) (by k_dflt omega))))
      | (with_reducible rename (em ((_ : Str) ++ (_ : Str) ++ Str.ofString "..." ++ (_ : Str) ++ (_ : Str)) _ != false) = true => cX; with_reducible exact ne_no cX (last_a' hw hkZ (by with_reducible assumption) (by with_reducible assumption) (win_cast (by with_reducible assumption) (by k_dflt omega) (by k_dflt omega)) (win_cast (by with_reducible assumption) (by k_dflt omega) (by k_dflt omega)) (win_cast (by with_reducible assumption) (by k_dflt omega) (by k_dflt omega))))
      | (with_reducible rename (em (Str.ofString "..." ++ (_ : Str) ++ (_ : Str) ++ (_ : Str) ++ Str.ofString "...") _ != true) = true => cX; with_reducible exact ne_no cX (last_b' hkZ (by with_reducible assumption) (win_cast (by with_reducible assumption) (by k_dflt omega) (by k_dflt omega)) (win_cast (by with_reducible assumption) (by k_dflt omega) (by k_dflt omega)) hw))
      | (with_reducible rename (em ((_ : Str) ++ (_ : Str) ++ Str.ofString "..." ++ (_ : Str) ++ (_ : Str)) _ != true) = true => cX; with_reducible exact ne_no cX (last_c' hkZ (by with_reducible assumption) (by with_reducible assumption) (win_cast (by with_reducible assumption) (by k_dflt omega) (by k_dflt omega)) (win_cast (by with_reducible assumption) (by k_dflt omega) (by k_dflt omega)) hw))
      | (with_reducible rename (em ((_ : Str) ++ (_ : Str)) _ != square _ _) = true => cX; with_reducible exact ne_no cX (last_d1' (k := kZ) (by k_dflt omega) (by with_reducible assumption) (win_cast (by with_reducible assumption) (by k_dflt omega) (by k_dflt omega)) (win_cast (by with_reducible assumption) (by k_dflt omega) (by k_dflt omega))))
      | (with_reducible rename (em ((_ : Str) ++ (_ : Str)) _ != (_ == (1 : Int))) = true => cX; with_reducible exact ne_no cX (last_d2' hw hkZ (by with_reducible assumption) (by with_reducible assumption) (win_cast (by with_reducible assumption) (by k_dflt omega) (by k_dflt omega)) (win_cast (by with_reducible assumption) (by k_dflt omega) (by k_dflt omega))))
      | (with_reducible rename (em ((_ : Str) ++ (_ : Str)) _ != false) = true => cX; with_reducible exact ne_no cX (last_d' hw hkZ (by k_dflt omega) (by with_reducible assumption) (win_cast (by with_reducible assumption) (by k_dflt omega) (by k_dflt omega)) (win_cast (by with_reducible assumption) (by k_dflt omega) (by k_dflt omega))))
      | (with_reducible rename (em _ _ != square _ _) = true => cX; with_reducible exact ne_no cX (shape3 (by k_dflt omega) (win_cast (by with_reducible assumption) (by k_dflt omega) (by k_dflt omega)) (win_cast (by with_reducible assumption) (by k_dflt omega) (by k_dflt omega))))
      | (with_reducible rename (em _ _ != false) = true => cX; with_reducible exact ne_no cX (last_e' hw (k := kZ) (win_cast (by with_reducible assumption) (by k_dflt omega) (by k_dflt omega)) (win_cast (by with_reducible assumption) (by k_dflt omega) (by k_dflt omega))))
)
  w_strict (
    k_go0
    (all_goals try k_fold)
    k_steps))
end
