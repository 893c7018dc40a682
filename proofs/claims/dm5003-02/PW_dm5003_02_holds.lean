import PyProof.Rows.All
import Wide.All
import OpenK.AllK
import Wide.FinOn
import PySem.Challenge.RW_dm5003_02
set_option Elab.async false
set_option linter.unusedVariables false
set_option linter.unusedSimpArgs false
set_option maxRecDepth 100000
set_option maxHeartbeats 8000000
section
namespace Mine

def hexd (n : Nat) : Nat := if n < 10 then 48 + n else 55 + n
def plainB (c : Nat) : Bool := c == 9 || (32 ≤ c && c ≤ 126 && c != 61)
def piece (c : Nat) : List Nat := if plainB c || 256 ≤ c then [c] else [61, hexd (c / 16), hexd (c % 16)]
def tr (c : Nat) : List Nat := if c == 10 || c == 13 then [c] else piece c
def enc (t : List Nat) : List Nat := t.flatMap tr

def joinL (e : List Nat) : List (List Nat) → List Nat
  | [] => []
  | [x] => x
  | x :: y :: r => x ++ e ++ joinL e (y :: r)

/-- the lines of a text: state (rows done, row at hand, a CR has just ended a row) -/
abbrev LSt := List (List Nat) × List Nat × Bool
def lstep (p : Nat → Bool) (s : LSt) (c : Nat) : LSt :=
  if s.2.2 && c == 10 then (s.1, s.2.1, false)
  else if p c then (s.1 ++ [s.2.1], [], c == 13)
  else (s.1, s.2.1 ++ [c], false)
def lfold (p : Nat → Bool) (t : List Nat) : LSt := t.foldl (lstep p) ([], [], false)
def lend (s : LSt) : List (List Nat) := if s.2.1 = [] then s.1 else s.1 ++ [s.2.1]
def linesL (p : Nat → Bool) (t : List Nat) : List (List Nat) := lend (lfold p t)

def isWs (c : Nat) : Bool := c == 32 || c == 9
def lastWs (l : List Nat) : Bool := l.getLast?.any isWs
def quoteL (c : Nat) : List Nat := [61, hexd (c / 16), hexd (c % 16)]

def wrapF (L : Nat) : Nat → List Nat → List (List Nat) × List Nat
  | 0, rem => ([], rem)
  | f + 1, rem =>
    if rem.length ≤ L then ([], rem)
    else if rem.getD (L - 3) 0 = 61 then (rem.take (L - 2) :: (wrapF L f (rem.drop (L - 3))).1, (wrapF L f (rem.drop (L - 3))).2)
    else if rem.getD (L - 2) 0 = 61 then (rem.take (L - 1) :: (wrapF L f (rem.drop (L - 2))).1, (wrapF L f (rem.drop (L - 2))).2)
    else ((rem.take (L - 1) ++ [61]) :: (wrapF L f (rem.drop (L - 1))).1, (wrapF L f (rem.drop (L - 1))).2)

def tailQ (L : Nat) (e : List Nat) (rem : List Nat) : List Nat :=
  if rem.length + 2 ≤ L then quoteL (rem.getLast?.getD 0)
  else if rem.length + 1 = L then [rem.getLast?.getD 0] ++ ([61] ++ e)
  else ([61] ++ e) ++ quoteL (rem.getLast?.getD 0)
def tailItem (L : Nat) (e : List Nat) (rem : List Nat) : List Nat :=
  if lastWs rem then rem.dropLast ++ tailQ L e rem else rem
def lineItems (L : Nat) (e : List Nat) (line : List Nat) : List (List Nat) :=
  (wrapF L line.length line).1 ++ [tailItem L e (wrapF L line.length line).2]

def isNl (c : Nat) : Bool := c == 10 || c == 13
def isBrk (c : Nat) : Bool := c == 10 || c == 13 || c == 0x2028 || c == 0x2029
def lastNl (t : List Nat) : Bool := t.getLast?.any isNl

/-- what body_encode gives -/
def benc (L : Nat) (e : List Nat) (t : List Nat) : List Nat :=
  joinL e ((linesL isBrk (enc t)).flatMap (lineItems L e) ++ if lastNl t then [[]] else [])

/-! ### pieces -/
/-- one sign that is no '=', or '=' and two that are none -/
def Good (p : List Nat) : Prop := (∃ c, p = [c] ∧ c ≠ 61 ∧ isNl c = false) ∨ ∃ n, n < 256 ∧ p = quoteL n
def AllGood (ps : List (List Nat)) : Prop := ∀ p ∈ ps, Good p

theorem hexd_rng {n : Nat} (h : n < 16) : 48 ≤ hexd n ∧ hexd n ≤ 70 ∧ hexd n ≠ 61 := by unfold hexd; split <;> omega
theorem piece_good (c : Nat) : Good (piece c) := by
  unfold piece
  split
  · rename_i h
    refine .inl ⟨c, rfl, ?_⟩
    simp only [plainB, isNl, Bool.or_eq_true, Bool.and_eq_true, beq_iff_eq, decide_eq_true_eq, bne_iff_ne, Bool.or_eq_false_iff, beq_eq_false_iff_ne] at h ⊢
    omega
  · rename_i h
    refine .inr ⟨c, ?_, rfl⟩
    simp only [plainB, Bool.or_eq_true, decide_eq_true_eq, not_or] at h
    omega
theorem Good.size {p : List Nat} (h : Good p) : p.length = 1 ∨ p.length = 3 := by
  rcases h with ⟨c, rfl, _⟩ | ⟨n, _, rfl⟩ <;> simp [quoteL]
theorem Good.cases {p : List Nat} (h : Good p) : (∃ c, p = [c] ∧ c ≠ 61 ∧ isNl c = false) ∨ ∃ a b, p = [61, a, b] ∧ a ≠ 61 ∧ b ≠ 61 ∧ (48 ≤ a ∧ a ≤ 70) ∧ (48 ≤ b ∧ b ≤ 70) := by
  rcases h with h | ⟨n, hn, rfl⟩
  · exact .inl h
  · have h1 := hexd_rng (n := n / 16) (by omega)
    have h2 := hexd_rng (n := n % 16) (by omega)
    exact .inr ⟨_, _, rfl, h1.2.2, h2.2.2, ⟨h1.1, h1.2.1⟩, ⟨h2.1, h2.2.1⟩⟩
theorem AllGood.tail {p : List Nat} {ps : List (List Nat)} (h : AllGood (p :: ps)) : AllGood ps := fun q hq => h q (.tail _ hq)
theorem AllGood.head {p : List Nat} {ps : List (List Nat)} (h : AllGood (p :: ps)) : Good p := h p (.head _)
theorem AllGood.append {ps qs : List (List Nat)} (h : AllGood ps) (h' : AllGood qs) : AllGood (ps ++ qs) := fun q hq =>
  (List.mem_append.mp hq).elim (h q) (h' q)

/-- neither of the last two signs is '=' -/
def Tame (l : List Nat) : Prop := ∀ i : Nat, i + 2 ≥ l.length → i < l.length → l.getD i 0 ≠ 61
theorem tame_nil : Tame [] := fun _ _ h => absurd h (Nat.not_lt_zero _)
theorem getD_append_l {a b : List Nat} {i : Nat} (h : i < a.length) : (a ++ b).getD i 0 = a.getD i 0 := by
  simp only [List.getD_eq_getElem?_getD, List.getElem?_append_left h]
theorem getD_append_r {a b : List Nat} {i : Nat} (h : a.length ≤ i) : (a ++ b).getD i 0 = b.getD (i - a.length) 0 := by
  simp only [List.getD_eq_getElem?_getD, List.getElem?_append_right h]
theorem Tame.add {l p : List Nat} (h : Tame l) (hp : Good p) : Tame (l ++ p) := by
  intro i h1 h2
  rw [List.length_append] at h1 h2
  rcases hp.cases with ⟨c, rfl, hc, _⟩ | ⟨a, b, rfl, ha, hb, _⟩
  · simp only [List.length_cons, List.length_nil] at h1 h2
    by_cases hi : i < l.length
    · rw [getD_append_l hi]; exact h i (by omega) hi
    · rw [getD_append_r (by omega)]
      have : i - l.length = 0 := by omega
      rw [this]; exact hc
  · simp only [List.length_cons, List.length_nil] at h1 h2
    rw [getD_append_r (by omega)]
    have : i - l.length = 1 ∨ i - l.length = 2 := by omega
    rcases this with e | e <;> rw [e]
    · exact ha
    · exact hb

/-! ### the greedy writer -/
def fill (L : Nat) : List Nat → List (List Nat) → List Nat × List (List Nat)
  | acc, [] => (acc, [])
  | acc, p :: ps => if acc.length + p.length < L then fill L (acc ++ p) ps else (acc, p :: ps)
def sendF (L : Nat) : Nat → List (List Nat) → List (List Nat) × List (List Nat)
  | 0, h => ([], h)
  | f + 1, h =>
    if h.flatten.length ≤ L then ([], h)
    else (((fill L [] h).1 ++ [61]) :: (sendF L f (fill L [] h).2).1, (sendF L f (fill L [] h).2).2)
/-- the rows that are sent and what is held -/
def send (L : Nat) (h : List (List Nat)) : List (List Nat) × List (List Nat) := sendF L h.length h

theorem fill_flat (L : Nat) : ∀ (ps : List (List Nat)) (acc : List Nat), (fill L acc ps).1 ++ (fill L acc ps).2.flatten = acc ++ ps.flatten
  | [], acc => by simp [fill]
  | p :: ps, acc => by
    unfold fill
    split
    · rw [fill_flat L ps (acc ++ p)]; simp
    · simp
theorem fill_le (L : Nat) : ∀ (ps : List (List Nat)) (acc : List Nat), acc.length < L → (fill L acc ps).1.length < L
  | [], acc, h => by simpa [fill] using h
  | p :: ps, acc, h => by
    unfold fill
    split
    · rename_i h'; exact fill_le L ps (acc ++ p) (by rw [List.length_append]; exact h')
    · exact h
theorem fill_good (L : Nat) : ∀ (ps : List (List Nat)) (acc : List Nat), AllGood ps → AllGood (fill L acc ps).2
  | [], acc, h => by simpa [fill] using h
  | p :: ps, acc, h => by
    unfold fill
    split
    · exact fill_good L ps _ h.tail
    · exact h
theorem fill_tame (L : Nat) : ∀ (ps : List (List Nat)) (acc : List Nat), AllGood ps → Tame acc → Tame (fill L acc ps).1
  | [], acc, _, h => by simpa [fill] using h
  | p :: ps, acc, hg, h => by
    unfold fill
    split
    · exact fill_tame L ps _ hg.tail (h.add hg.head)
    · exact h
/-- where the filling stops short, the next piece does not fit -/
theorem fill_next (L : Nat) : ∀ (ps : List (List Nat)) (acc : List Nat), (fill L acc ps).2 = [] ∨ ∃ p qs, (fill L acc ps).2 = p :: qs ∧ p ∈ ps ∧ L ≤ (fill L acc ps).1.length + p.length
  | [], acc => by simp [fill]
  | p :: ps, acc => by
    unfold fill
    split
    · rcases fill_next L ps (acc ++ p) with h | ⟨q, qs, e, hq, hl⟩
      · exact .inl h
      · exact .inr ⟨q, qs, e, .tail _ hq, hl⟩
    · rename_i h
      exact .inr ⟨p, ps, rfl, .head _, by simp only; omega⟩
theorem fill_more (L : Nat) {acc : List Nat} {ps : List (List Nat)} (hL : 4 ≤ L) (hg : AllGood ps) (ha : acc.length < L) (hs : L ≤ acc.length + ps.flatten.length) :
    ∃ p qs, (fill L acc ps).2 = p :: qs ∧ Good p ∧ L ≤ (fill L acc ps).1.length + p.length := by
  rcases fill_next L ps acc with h | ⟨p, qs, e, hp, hl⟩
  · exfalso
    have h1 := congrArg List.length (fill_flat L ps acc)
    have h2 := fill_le L ps acc ha
    rw [h, List.length_append, List.length_append] at h1
    simp only [List.flatten_nil, List.length_nil] at h1
    omega
  · exact ⟨p, qs, e, hg p hp, hl⟩
theorem fill_len (L : Nat) : ∀ (ps : List (List Nat)) (acc : List Nat), (fill L acc ps).2.length ≤ ps.length
  | [], acc => by simp [fill]
  | p :: ps, acc => by
    unfold fill
    split
    · have := fill_len L ps (acc ++ p); simp only [List.length_cons]; omega
    · exact Nat.le_refl _
theorem wrapF_succ (L f : Nat) (rem : List Nat) : wrapF L (f + 1) rem =
    if rem.length ≤ L then ([], rem)
    else if rem.getD (L - 3) 0 = 61 then (rem.take (L - 2) :: (wrapF L f (rem.drop (L - 3))).1, (wrapF L f (rem.drop (L - 3))).2)
    else if rem.getD (L - 2) 0 = 61 then (rem.take (L - 1) :: (wrapF L f (rem.drop (L - 2))).1, (wrapF L f (rem.drop (L - 2))).2)
    else ((rem.take (L - 1) ++ [61]) :: (wrapF L f (rem.drop (L - 1))).1, (wrapF L f (rem.drop (L - 1))).2) := rfl
theorem fill_less (L : Nat) {ps : List (List Nat)} (hL : 4 ≤ L) (hg : AllGood ps) (hs : ps ≠ []) : (fill L [] ps).2.length < ps.length := by
  cases ps with
  | nil => exact absurd rfl hs
  | cons p qs =>
    have h1 := hg.head.size
    unfold fill
    rw [if_pos (by simp only [List.length_nil]; omega)]
    have := fill_len L qs ([] ++ p)
    simp only [List.length_cons]; omega

/-- the fuel does not matter -/
theorem sendF_fuel (L : Nat) (hL : 4 ≤ L) : ∀ (f g : Nat) (h : List (List Nat)), AllGood h → h.length ≤ f → h.length ≤ g → sendF L f h = sendF L g h
  | 0, g, h, _, hf, _ => by
    have : h = [] := by cases h <;> simp at hf ⊢
    subst this
    cases g <;> simp [sendF]
  | f + 1, 0, h, _, _, hg => by
    have : h = [] := by cases h <;> simp at hg ⊢
    subst this
    simp [sendF]
  | f + 1, g + 1, h, hh, hf, hg => by
    unfold sendF
    split
    · rfl
    · rename_i hs
      have hne : h ≠ [] := by intro e; subst e; simp at hs
      have h1 := fill_less L hL hh hne
      rw [sendF_fuel L hL f g _ (fill_good L h [] hh) (by omega) (by omega)]
theorem send_of_le {L : Nat} {h : List (List Nat)} (hs : h.flatten.length ≤ L) : send L h = ([], h) := by
  unfold send
  cases h with
  | nil => simp [sendF]
  | cons p ps => simp only [List.length_cons, sendF]; rw [if_pos hs]
theorem send_of_lt {L : Nat} {h : List (List Nat)} (hL : 4 ≤ L) (hh : AllGood h) (hs : L < h.flatten.length) :
    send L h = (((fill L [] h).1 ++ [61]) :: (send L (fill L [] h).2).1, (send L (fill L [] h).2).2) := by
  have hne : h ≠ [] := by intro e; subst e; simp at hs
  have h1 := fill_less L hL hh hne
  unfold send
  cases h with
  | nil => exact absurd rfl hne
  | cons p ps =>
    simp only [List.length_cons, sendF]
    rw [if_neg (by omega)]
    rw [sendF_fuel L hL ps.length _ _ (fill_good L _ [] hh) (by simp only [List.length_cons] at h1; omega) (Nat.le_refl _)]

/-- one turn of the code's loop is one row of the writer's -/
theorem wrap_step {L : Nat} {h : List (List Nat)} (hL : 4 ≤ L) (hh : AllGood h) (hs : L < h.flatten.length) (f : Nat) :
    wrapF L (f + 1) h.flatten = (((fill L [] h).1 ++ [61]) :: (wrapF L f (fill L [] h).2.flatten).1, (wrapF L f (fill L [] h).2.flatten).2) := by
  obtain ⟨p, qs, e, hp, hl⟩ := fill_more L (acc := []) hL hh (by simp only [List.length_nil]; omega) (by simp only [List.length_nil]; omega)
  have hlt := fill_le L h [] (by simp only [List.length_nil]; omega)
  have ht := fill_tame L h [] hh tame_nil
  have hf := fill_flat L h []
  rw [List.nil_append] at hf
  generalize hr : (fill L [] h).1 = r at *
  generalize hq : (fill L [] h).2 = rest at *
  subst e
  have hz := hp.size
  rw [wrapF_succ, if_neg (by omega), ← hf]
  have hcase : r.length = L - 1 ∨ (p.length = 3 ∧ (r.length = L - 2 ∨ r.length = L - 3)) := by omega
  have take1 : ∀ (rest : List Nat), (r ++ 61 :: rest).take (r.length + 1) = r ++ [61] := fun rest => by
    rw [List.take_append, List.take_of_length_le (by omega)]; simp
  rcases hcase with h1 | ⟨h3, h1 | h1⟩
  · have n1 : (r ++ (p :: qs).flatten).getD (L - 3) 0 ≠ 61 := by rw [getD_append_l (by omega)]; exact ht _ (by omega) (by omega)
    have n2 : (r ++ (p :: qs).flatten).getD (L - 2) 0 ≠ 61 := by rw [getD_append_l (by omega)]; exact ht _ (by omega) (by omega)
    rw [if_neg n1, if_neg n2, ← h1, List.take_left, List.drop_left]
  · rcases hp.cases with ⟨c, rfl, _⟩ | ⟨a, b, rfl, ha, hb, _⟩
    · simp at h3
    have n1 : (r ++ ([61, a, b] :: qs).flatten).getD (L - 3) 0 ≠ 61 := by rw [getD_append_l (by omega)]; exact ht _ (by omega) (by omega)
    have n2 : (r ++ ([61, a, b] :: qs).flatten).getD (L - 2) 0 = 61 := by rw [getD_append_r (by omega), h1, Nat.sub_self]; rfl
    rw [if_neg n1, if_pos n2]
    have e1 : L - 1 = r.length + 1 := by omega
    have e2 : L - 2 = r.length := by omega
    rw [e1, e2, List.drop_left]
    have := take1 ([a, b] ++ qs.flatten)
    simp only [List.flatten_cons, List.cons_append, List.nil_append] at this ⊢
    rw [this]
  · rcases hp.cases with ⟨c, rfl, _⟩ | ⟨a, b, rfl, ha, hb, _⟩
    · simp at h3
    have n1 : (r ++ ([61, a, b] :: qs).flatten).getD (L - 3) 0 = 61 := by rw [getD_append_r (by omega), h1, Nat.sub_self]; rfl
    rw [if_pos n1]
    have e1 : L - 2 = r.length + 1 := by omega
    have e2 : L - 3 = r.length := by omega
    rw [e1, e2, List.drop_left]
    have := take1 ([a, b] ++ qs.flatten)
    simp only [List.flatten_cons, List.cons_append, List.nil_append] at this ⊢
    rw [this]

theorem wrap_le {L f : Nat} {rem : List Nat} (h : rem.length ≤ L) : wrapF L f rem = ([], rem) := by
  cases f with
  | zero => rfl
  | succ f => unfold wrapF; rw [if_pos h]

theorem flatten_len_ge {ps : List (List Nat)} (h : AllGood ps) : ps.length ≤ ps.flatten.length := by
  induction ps with
  | nil => simp
  | cons p qs ih =>
    have := ih h.tail
    have := h.head.size
    simp only [List.length_cons, List.flatten_cons, List.length_append]; omega
theorem wrap_send {L : Nat} (hL : 4 ≤ L) : ∀ (f : Nat) (h : List (List Nat)), AllGood h → h.length ≤ f → wrapF L f h.flatten = ((send L h).1, (send L h).2.flatten)
  | 0, h, _, hf => by
    have : h = [] := by cases h <;> simp at hf ⊢
    subst this
    rw [send_of_le (by simp)]; rfl
  | f + 1, h, hh, hf => by
    by_cases hs : h.flatten.length ≤ L
    · rw [send_of_le hs, wrap_le hs]
    · have hs' : L < h.flatten.length := by omega
      have hne : h ≠ [] := by intro e; subst e; simp at hs
      have h1 := fill_less L hL hh hne
      rw [wrap_step hL hh hs', send_of_lt hL hh hs', wrap_send hL f _ (fill_good L h [] hh) (by omega)]
end Mine
end
section
namespace Mine
/-! ### rows of a line -/
def white (h : List (List Nat)) : Bool := h.getLast? == some [32] || h.getLast? == some [9]
def tailRows (L : Nat) (h : List (List Nat)) : List (List Nat) :=
  if white h then
    if h.flatten.length + 2 ≤ L then [h.dropLast.flatten ++ quoteL ((h.getLast?.getD []).headD 0)]
    else if h.flatten.length + 1 = L then [h.dropLast.flatten ++ (h.getLast?.getD []) ++ [61], []]
    else [h.dropLast.flatten ++ [61], quoteL ((h.getLast?.getD []).headD 0)]
  else [h.flatten]
def rowsOf (L : Nat) (ps : List (List Nat)) : List (List Nat) := (send L ps).1 ++ tailRows L (send L ps).2

theorem tailRows_ne (L : Nat) (h : List (List Nat)) : tailRows L h ≠ [] := by unfold tailRows; (repeat' split) <;> simp
theorem rowsOf_ne (L : Nat) (h : List (List Nat)) : rowsOf L h ≠ [] := by unfold rowsOf; simp [tailRows_ne]

theorem joinL_cons (e x : List Nat) {l : List (List Nat)} (h : l ≠ []) : joinL e (x :: l) = x ++ e ++ joinL e l := by
  cases l with
  | nil => exact absurd rfl h
  | cons y r => rfl
theorem joinL_append (e : List Nat) : ∀ {a b : List (List Nat)}, a ≠ [] → b ≠ [] → joinL e (a ++ b) = joinL e a ++ e ++ joinL e b
  | [], _, h, _ => absurd rfl h
  | [x], b, _, hb => by rw [List.singleton_append, joinL_cons e x hb]; rfl
  | x :: y :: r, b, _, hb => by
    have ih := joinL_append e (a := y :: r) (b := b) (by simp) hb
    rw [List.cons_append, joinL_cons e x (by simp), ih, joinL_cons e x (by simp)]
    simp [List.append_assoc]
theorem joinL_last (e : List Nat) (a : List (List Nat)) {b b' : List (List Nat)} (hb : b ≠ []) (hb' : b' ≠ []) (h : joinL e b = joinL e b') : joinL e (a ++ b) = joinL e (a ++ b') := by
  by_cases ha : a = []
  · subst ha; exact h
  · rw [joinL_append e ha hb, joinL_append e ha hb', h]
theorem joinL_flatMap {α : Type} (e : List Nat) (f g : α → List (List Nat)) : ∀ (l : List α), (∀ a ∈ l, f a ≠ []) → (∀ a ∈ l, g a ≠ []) → (∀ a ∈ l, joinL e (f a) = joinL e (g a)) → ∀ r : List (List Nat), joinL e (l.flatMap f ++ r) = joinL e (l.flatMap g ++ r)
  | [], _, _, _, _ => rfl
  | a :: l, hf, hg, h, r => by
    have ih := joinL_flatMap e f g l (fun b hb => hf b (.tail _ hb)) (fun b hb => hg b (.tail _ hb)) (fun b hb => h b (.tail _ hb)) r
    have hn : (l.flatMap f ++ r = []) ↔ (l.flatMap g ++ r = []) := by
      cases l with
      | nil => simp
      | cons b l' =>
        have h1 := hf b (by simp)
        have h2 := hg b (by simp)
        simp [h1, h2]
    rw [List.flatMap_cons, List.flatMap_cons, List.append_assoc, List.append_assoc]
    by_cases hx : l.flatMap f ++ r = []
    · rw [hx, hn.mp hx, List.append_nil, List.append_nil]; exact h a (.head _)
    · rw [joinL_append e (hf a (.head _)) hx, joinL_append e (hg a (.head _)) (fun x => hx (hn.mpr x)), h a (.head _), ih]

theorem send_good {L : Nat} (hL : 4 ≤ L) {h : List (List Nat)} (hh : AllGood h) : AllGood (send L h).2 ∧ (send L h).2.flatten.length ≤ L := by
  have : ∀ n, ∀ h : List (List Nat), h.length ≤ n → AllGood h → AllGood (send L h).2 ∧ (send L h).2.flatten.length ≤ L := by
    intro n
    induction n with
    | zero =>
      intro h hn hh
      have : h = [] := by cases h <;> simp at hn ⊢
      subst this
      rw [send_of_le (by simp)]; exact ⟨hh, by simp⟩
    | succ n ih =>
      intro h hn hh
      by_cases hs : h.flatten.length ≤ L
      · rw [send_of_le hs]; exact ⟨hh, hs⟩
      · have hne : h ≠ [] := by intro e; subst e; simp at hs
        rw [send_of_lt hL hh (by omega)]
        have := fill_less L hL hh hne
        exact ih _ (by omega) (fill_good L h [] hh)
  exact this h.length h (Nat.le_refl _) hh

theorem quoteL_last (n : Nat) (h : n < 256) : isWs ((quoteL n).getLast?.getD 0) = false := by
  have h2 := hexd_rng (n := n % 16) (by omega)
  simp only [quoteL, List.getLast?_cons_cons, List.getLast?_singleton, Option.getD_some, isWs, Bool.or_eq_false_iff, beq_eq_false_iff_ne]
  omega
theorem white_snoc (g : List (List Nat)) (p : List Nat) : white (g ++ [p]) = (p == [32] || p == [9]) := by
  simp [white]
theorem white_iff {h : List (List Nat)} (hh : AllGood h) : lastWs h.flatten = white h := by
  rcases List.eq_nil_or_concat h with rfl | ⟨g, p, rfl⟩
  · rfl
  · rw [List.concat_eq_append, white_snoc]
    have hp : Good p := hh p (by simp)
    rcases hp.cases with ⟨c, rfl, _⟩ | ⟨a, b, rfl, _, _, _, hb⟩
    · simp [lastWs, isWs]
    · simp only [lastWs, List.flatten_append, List.flatten_cons, List.flatten_nil, List.append_nil, List.getLast?_append, List.getLast?_cons_cons, List.getLast?_singleton, Option.some_or, Option.any_some, isWs]
      simp
      omega
theorem tail_item {L : Nat} {e : List Nat} {h : List (List Nat)} (hh : AllGood h) : tailItem L e h.flatten = joinL e (tailRows L h) := by
  unfold tailItem tailRows
  rw [white_iff hh]
  by_cases hw : white h = true
  · rw [if_pos hw, if_pos hw]
    rcases List.eq_nil_or_concat h with rfl | ⟨g, p, rfl⟩
    · simp [white] at hw
    · rw [List.concat_eq_append] at *
      rw [white_snoc] at hw
      have hp : ∃ c, p = [c] := by
        simp only [Bool.or_eq_true, beq_iff_eq] at hw
        rcases hw with rfl | rfl <;> exact ⟨_, rfl⟩
      obtain ⟨c, rfl⟩ := hp
      unfold tailQ
      have e1 : (g ++ [[c]]).flatten = g.flatten ++ [c] := by simp
      rw [e1]
      simp only [List.dropLast_concat, List.getLast?_append, List.getLast?_singleton, Option.some_or, Option.getD_some, List.headD_cons]
      by_cases c1 : (g.flatten ++ [c]).length + 2 ≤ L
      · rw [if_pos c1, if_pos c1]; rfl
      · rw [if_neg c1, if_neg c1]
        by_cases c2 : (g.flatten ++ [c]).length + 1 = L
        · rw [if_pos c2, if_pos c2]; simp [joinL]
        · rw [if_neg c2, if_neg c2]; simp [joinL]
  · rw [if_neg hw, if_neg hw]; rfl
theorem line_items {L : Nat} (hL : 4 ≤ L) (e : List Nat) {ps : List (List Nat)} (hp : AllGood ps) : joinL e (lineItems L e ps.flatten) = joinL e (rowsOf L ps) := by
  unfold lineItems rowsOf
  rw [wrap_send hL _ ps hp (flatten_len_ge hp)]
  refine joinL_last e _ (by simp) (tailRows_ne L _) ?_
  exact tail_item (send_good hL hp).1

/-! ### lines -/
def pieces (l : List Nat) : List (List Nat) := l.map piece
theorem pieces_good (l : List Nat) : AllGood (pieces l) := fun p hp => by
  obtain ⟨c, _, rfl⟩ := List.mem_map.mp hp
  exact piece_good c
def encp (l : List Nat) : List Nat := (pieces l).flatten
theorem encp_snoc (l : List Nat) (c : Nat) : encp (l ++ [c]) = encp l ++ piece c := by simp [encp, pieces]
def mapSt (s : LSt) : LSt := (s.1.map encp, encp s.2.1, s.2.2)

theorem lstep_plain {p : Nat → Bool} {s : LSt} {c : Nat} (hp : p c = false) (hc : c ≠ 10) : lstep p s c = (s.1, s.2.1 ++ [c], false) := by
  unfold lstep
  have : (s.2.2 && c == 10) = false := by simp [hc]
  rw [this, hp]; rfl
theorem lstep_plains {p : Nat → Bool} : ∀ (l : List Nat) (s : LSt), l ≠ [] → (∀ c ∈ l, p c = false ∧ c ≠ 10) → l.foldl (lstep p) s = (s.1, s.2.1 ++ l, false)
  | [], _, h, _ => absurd rfl h
  | [c], s, _, h => lstep_plain (h c (.head _)).1 (h c (.head _)).2
  | c :: d :: r, s, _, h => by
    rw [List.foldl_cons, lstep_plain (h c (.head _)).1 (h c (.head _)).2, lstep_plains (d :: r) _ (by simp) fun x hx => h x (.tail _ hx)]
    simp
theorem piece_ne (c : Nat) : piece c ≠ [] := by unfold piece; split <;> simp [quoteL]
/-- p agrees with isBrk on what an encoded text holds -/
def BrkOk (p : Nat → Bool) : Prop := ∀ c, (c = 9 ∨ c = 10 ∨ c = 13 ∨ (32 ≤ c ∧ c ≤ 126) ∨ 256 ≤ c) → p c = isBrk c
theorem brkOk_self : BrkOk isBrk := fun _ _ => rfl
theorem piece_signs {c d : Nat} (h : d ∈ piece c) (hn : isNl c = false) : (d = 9 ∨ (32 ≤ d ∧ d ≤ 126) ∨ 256 ≤ d) ∧ isBrk d = (isBrk c) := by
  unfold piece at h
  simp only [isNl, Bool.or_eq_false_iff, beq_eq_false_iff_ne] at hn
  split at h
  · rename_i h'
    rw [List.mem_singleton] at h
    subst h
    simp only [plainB, Bool.or_eq_true, Bool.and_eq_true, beq_iff_eq, decide_eq_true_eq, bne_iff_ne] at h'
    exact ⟨by omega, rfl⟩
  · rename_i h'
    simp only [plainB, Bool.or_eq_true, decide_eq_true_eq, not_or] at h'
    have h1 := hexd_rng (n := c / 16) (by omega)
    have h2 := hexd_rng (n := c % 16) (by omega)
    have hc : isBrk c = false := by
      simp only [isBrk, Bool.or_eq_false_iff, beq_eq_false_iff_ne]; omega
    rw [hc]
    have hd : 48 ≤ d ∧ d ≤ 70 := by
      rcases List.mem_cons.mp h with rfl | h
      · omega
      rcases List.mem_cons.mp h with rfl | h
      · omega
      rw [List.mem_singleton] at h
      subst h
      omega
    refine ⟨by omega, ?_⟩
    simp only [isBrk, Bool.or_eq_false_iff, beq_eq_false_iff_ne]; omega
theorem lstep_enc {p : Nat → Bool} (hp : BrkOk p) (s : LSt) (c : Nat) : (tr c).foldl (lstep p) (mapSt s) = mapSt (lstep isBrk s c) := by
  unfold tr
  by_cases hn : c = 10 ∨ c = 13
  · have hb : isBrk c = true := by simp only [isBrk, Bool.or_eq_true, beq_iff_eq]; omega
    have hpc : p c = true := (hp c (by omega)).trans hb
    rw [if_pos (by simpa using hn)]
    show lstep p (mapSt s) c = _
    unfold lstep
    rw [hpc, hb]
    simp only [mapSt]
    split
    · rfl
    · simp [encp, pieces]
  · have hn' : isNl c = false := by simp only [isNl, Bool.or_eq_false_iff, beq_eq_false_iff_ne]; omega
    rw [if_neg (by simpa using hn)]
    by_cases hb : isBrk c = true
    · -- a break above 255
      have hc : c = 0x2028 ∨ c = 0x2029 := by simp only [isBrk, Bool.or_eq_true, beq_iff_eq] at hb; omega
      have hpc : p c = true := (hp c (by omega)).trans hb
      have he : piece c = [c] := by
        unfold piece; rw [if_pos (by simp only [Bool.or_eq_true, decide_eq_true_eq]; omega)]
      rw [he]
      show lstep p (mapSt s) c = _
      unfold lstep
      rw [hpc, hb]
      have h10 : (c == 10) = false := by rw [beq_eq_false_iff_ne]; omega
      simp only [h10, Bool.and_false, mapSt, Bool.false_eq_true, if_false, if_true]
      simp [encp, pieces]
    · have hb' : isBrk c = false := by simpa using hb
      rw [lstep_plains _ _ (piece_ne c) ?_, lstep_plain hb' (by omega)]
      · simp only [mapSt, encp_snoc]
      · intro d hd
        obtain ⟨h1, h2⟩ := piece_signs hd hn'
        refine ⟨(hp d (by omega)).trans (h2.trans hb'), by omega⟩
theorem lfold_enc {p : Nat → Bool} (hp : BrkOk p) (t : List Nat) : lfold p (enc t) = mapSt (lfold isBrk t) := by
  unfold lfold enc
  have : ∀ (t : List Nat) (s : LSt), (t.flatMap tr).foldl (lstep p) (mapSt s) = mapSt (t.foldl (lstep isBrk) s) := by
    intro t
    induction t with
    | nil => intro s; rfl
    | cons c r ih => intro s; rw [List.flatMap_cons, List.foldl_append, lstep_enc hp, ih, List.foldl_cons]
  exact this t ([], [], false)
theorem encp_nil {l : List Nat} : encp l = [] ↔ l = [] := by
  cases l with
  | nil => simp [encp, pieces]
  | cons c r => simp [encp, pieces, piece_ne c]
theorem lines_enc {p : Nat → Bool} (hp : BrkOk p) (t : List Nat) : linesL p (enc t) = (linesL isBrk t).map encp := by
  unfold linesL
  rw [lfold_enc hp]
  unfold lend
  show (if encp _ = [] then _ else _) = _
  simp only [encp_nil, mapSt]
  split <;> simp

/-- the rows of a text as the law sees them -/
def rowsL (t : List Nat) : List (List Nat) := linesL isBrk t ++ if lastNl t then [[]] else []
def bodyRows (L : Nat) (t : List Nat) : List (List Nat) := (rowsL t).flatMap fun l => rowsOf L (pieces l)
theorem rowsOf_nil (L : Nat) : rowsOf L [] = [[]] := by
  unfold rowsOf; rw [send_of_le (by simp)]; simp [tailRows, white]
theorem benc_rows {L : Nat} (hL : 4 ≤ L) (e t : List Nat) : benc L e t = joinL e (bodyRows L t) := by
  unfold benc bodyRows rowsL
  rw [lines_enc brkOk_self, List.flatMap_append]
  have h1 : ((if lastNl t then [[]] else [] : List (List Nat)).flatMap fun l => rowsOf L (pieces l)) = if lastNl t then [[]] else [] := by
    split
    · simp [pieces, rowsOf_nil]
    · rfl
  rw [h1, List.flatMap_map]
  refine joinL_flatMap e _ _ _ (fun a _ => by simp [lineItems]) (fun a _ => rowsOf_ne _ _) (fun a _ => ?_) _
  exact line_items hL e (pieces_good a)
end Mine
end
section
namespace Mine
/-! ### splitting at a separator -/
def splitG (y : List Nat) : Nat → List Nat → List Nat → List (List Nat)
  | _, cur, [] => [cur]
  | k + 1, cur, _ :: r => splitG y k cur r
  | 0, cur, c :: r => if y.isPrefixOf (c :: r) then cur :: splitG y (y.length - 1) [] r else splitG y 0 (cur ++ [c]) r
def splitL (y x : List Nat) : List (List Nat) := splitG y 0 [] x

theorem splitG_skip (y : List Nat) : ∀ (z : List Nat) (cur r : List Nat), splitG y z.length cur (z ++ r) = splitG y 0 cur r
  | [], _, _ => rfl
  | _ :: z, cur, r => by
    show splitG y (z.length) cur (z ++ r) = _
    exact splitG_skip y z cur r
theorem splitG_run (y : List Nat) : ∀ (p cur rest : List Nat), (∀ i, i < p.length → y.isPrefixOf ((p ++ rest).drop i) = false) → splitG y 0 cur (p ++ rest) = splitG y 0 (cur ++ p) rest
  | [], cur, rest, _ => by simp
  | c :: p, cur, rest, h => by
    have h0 := h 0 (by simp)
    rw [List.drop_zero] at h0
    show (if y.isPrefixOf (c :: p ++ rest) = true then cur :: splitG y (y.length - 1) [] (p ++ rest) else splitG y 0 (cur ++ [c]) (p ++ rest)) = _
    rw [h0]
    simp only [Bool.false_eq_true, if_false]
    rw [splitG_run y p (cur ++ [c]) rest fun i hi => by simpa using h (i + 1) (by simpa using hi)]
    simp
theorem splitG_at {y : List Nat} (hy : y ≠ []) (cur rest : List Nat) : splitG y 0 cur (y ++ rest) = cur :: splitL y rest := by
  cases y with
  | nil => exact absurd rfl hy
  | cons z ys =>
    show (if (z :: ys).isPrefixOf (z :: (ys ++ rest)) = true then cur :: splitG (z :: ys) (ys.length + 1 - 1) [] (ys ++ rest) else _) = _
    rw [if_pos (by rw [← List.cons_append]; simp [List.isPrefixOf_iff_prefix])]
    rw [show ys.length + 1 - 1 = ys.length from by omega, splitG_skip]
    rfl
theorem splitL_cons {y : List Nat} (hy : y ≠ []) {p rest : List Nat} (h : ∀ i, i < p.length → y.isPrefixOf ((p ++ (y ++ rest)).drop i) = false) : splitL y (p ++ (y ++ rest)) = p :: splitL y rest := by
  unfold splitL
  rw [splitG_run y p [] _ h, splitG_at hy]
  rfl
theorem splitL_last {y p : List Nat} (h : ∀ i, i < p.length → y.isPrefixOf (p.drop i) = false) : splitL y p = [p] := by
  unfold splitL
  have := splitG_run y p [] [] (by simpa using h)
  rw [List.append_nil] at this
  rw [this]; rfl
/-- parts in which the separator does not begin, wherever they are followed by it or by the end -/
def Apart (y p : List Nat) : Prop := ∀ r i, i < p.length → y.isPrefixOf ((p ++ r).drop i) = false ∨ (r ≠ [] ∧ ¬ y <+: r)
theorem splitL_joinL {y : List Nat} (hy : y ≠ []) : ∀ (ps : List (List Nat)), ps ≠ [] → (∀ p ∈ ps, Apart y p) → splitL y (joinL y ps) = ps
  | [], h, _ => absurd rfl h
  | [p], _, h => splitL_last fun i hi => by
    rcases h p (.head _) [] i hi with h1 | h1
    · rw [List.append_nil] at h1; exact h1
    · exact absurd rfl h1.1
  | p :: q :: r, _, h => by
    show splitL y (p ++ y ++ joinL y (q :: r)) = _
    rw [List.append_assoc, splitL_cons hy fun i hi => ?_, splitL_joinL hy (q :: r) (by simp) fun x hx => h x (.tail _ hx)]
    rcases h p (.head _) (y ++ joinL y (q :: r)) i hi with h1 | h1
    · exact h1
    · exact absurd (List.prefix_append _ _) h1.2
theorem apart_of_head {z : Nat} {ys p : List Nat} (h : z ∉ p) : Apart (z :: ys) p := fun r i hi => .inl (by
  have e : (p ++ r).drop i = p[i] :: (p ++ r).drop (i + 1) := by
    rw [List.drop_eq_getElem_cons (by rw [List.length_append]; omega)]
    rw [List.getElem_append_left hi]
  rw [e]
  simp only [List.isPrefixOf, Bool.and_eq_false_iff, beq_eq_false_iff_ne]
  exact .inl fun e => h (e ▸ List.getElem_mem hi))

/-! ### rows hold no line end -/
def NoNl (l : List Nat) : Prop := ∀ c ∈ l, isNl c = false
theorem NoNl.append {a b : List Nat} (h : NoNl a) (h' : NoNl b) : NoNl (a ++ b) := fun c hc => (List.mem_append.mp hc).elim (h c) (h' c)
theorem good_noNl {p : List Nat} (h : Good p) : NoNl p := by
  rcases h.cases with ⟨c, rfl, _, h⟩ | ⟨a, b, rfl, _, _, h1, h2⟩
  · intro d hd; rw [List.mem_singleton] at hd; subst hd; exact h
  · intro d hd
    simp only [List.mem_cons, List.not_mem_nil, or_false] at hd
    simp only [isNl, Bool.or_eq_false_iff, beq_eq_false_iff_ne]
    omega
theorem flatten_noNl {h : List (List Nat)} (hh : AllGood h) : NoNl h.flatten := fun c hc => by
  obtain ⟨p, hp, hc⟩ := List.mem_flatten.mp hc
  exact good_noNl (hh p hp) c hc
theorem eq_noNl : NoNl [61] := by intro c hc; rw [List.mem_singleton] at hc; subst hc; rfl
theorem fill_noNl (L : Nat) : ∀ (ps : List (List Nat)) (acc : List Nat), AllGood ps → NoNl acc → NoNl (fill L acc ps).1
  | [], acc, _, h => by simpa [fill] using h
  | p :: ps, acc, hg, h => by
    unfold fill
    split
    · exact fill_noNl L ps _ hg.tail (h.append (good_noNl hg.head))
    · exact h
theorem send_noNl {L : Nat} (hL : 4 ≤ L) : ∀ (n : Nat) {h : List (List Nat)}, h.length ≤ n → AllGood h → ∀ r ∈ (send L h).1, NoNl r
  | 0, h, hn, hh => by
    have : h = [] := by cases h <;> simp at hn ⊢
    subst this
    rw [send_of_le (by simp)]; simp
  | n + 1, h, hn, hh => by
    by_cases hs : h.flatten.length ≤ L
    · rw [send_of_le hs]; simp
    · have hne : h ≠ [] := by intro e; subst e; simp at hs
      have h1 := fill_less L hL hh hne
      rw [send_of_lt hL hh (by omega)]
      intro r hr
      rcases List.mem_cons.mp hr with rfl | hr
      · exact (fill_noNl L h [] hh (fun _ h => (nomatch h))).append eq_noNl
      · exact send_noNl hL n (by omega) (fill_good L h [] hh) r hr
theorem white_split {h : List (List Nat)} (hw : white h = true) : ∃ g c, h = g ++ [[c]] ∧ (c = 32 ∨ c = 9) := by
  rcases List.eq_nil_or_concat h with rfl | ⟨g, p, rfl⟩
  · simp [white] at hw
  · rw [List.concat_eq_append] at hw
    rw [white_snoc] at hw
    simp only [Bool.or_eq_true, beq_iff_eq] at hw
    rcases hw with rfl | rfl
    · exact ⟨g, 32, by simp, .inl rfl⟩
    · exact ⟨g, 9, by simp, .inr rfl⟩
theorem tailRows_white {L : Nat} {g : List (List Nat)} {c : Nat} (hc : c = 32 ∨ c = 9) : tailRows L (g ++ [[c]]) =
    if g.flatten.length + 3 ≤ L then [g.flatten ++ quoteL c]
    else if g.flatten.length + 2 = L then [g.flatten ++ [c] ++ [61], []]
    else [g.flatten ++ [61], quoteL c] := by
  have hw : white (g ++ [[c]]) = true := by rw [white_snoc]; rcases hc with rfl | rfl <;> rfl
  unfold tailRows
  rw [if_pos hw]
  simp only [List.flatten_append, List.flatten_cons, List.flatten_nil, List.append_nil, List.length_append, List.length_cons, List.length_nil, List.dropLast_concat,
    List.getLast?_append, List.getLast?_singleton, Option.some_or, Option.getD_some, List.headD_cons, Nat.zero_add, Nat.add_assoc]
theorem tailRows_plain {L : Nat} {h : List (List Nat)} (hw : white h = false) : tailRows L h = [h.flatten] := by
  unfold tailRows
  rw [hw]; rfl
theorem quoteL_noNl {c : Nat} (hc : c < 256) : NoNl (quoteL c) := good_noNl (.inr ⟨c, hc, rfl⟩)
theorem tailRows_noNl {L : Nat} {h : List (List Nat)} (hh : AllGood h) : ∀ r ∈ tailRows L h, NoNl r := by
  by_cases hw : white h = true
  · obtain ⟨g, c, rfl, hc⟩ := white_split hw
    have hg : NoNl g.flatten := flatten_noNl fun p hp => hh p (List.mem_append_left _ hp)
    have hq : NoNl (quoteL c) := quoteL_noNl (by omega)
    have h1 : NoNl [c] := by intro d hd; rw [List.mem_singleton] at hd; subst hd; rcases hc with rfl | rfl <;> rfl
    rw [tailRows_white hc]
    intro r hr
    split at hr
    · rw [List.mem_singleton] at hr; subst hr; exact hg.append hq
    · split at hr
      · rcases List.mem_cons.mp hr with rfl | hr
        · exact (hg.append h1).append eq_noNl
        · rw [List.mem_singleton] at hr; subst hr; exact fun _ h => (nomatch h)
      · rcases List.mem_cons.mp hr with rfl | hr
        · exact hg.append eq_noNl
        · rw [List.mem_singleton] at hr; subst hr; exact hq
  · rw [tailRows_plain (by simpa using hw)]
    intro r hr
    rw [List.mem_singleton] at hr; subst hr
    exact flatten_noNl hh
theorem rowsOf_noNl {L : Nat} (hL : 4 ≤ L) {h : List (List Nat)} (hh : AllGood h) : ∀ r ∈ rowsOf L h, NoNl r := by
  intro r hr
  rcases List.mem_append.mp hr with hr | hr
  · exact send_noNl hL _ (Nat.le_refl _) hh r hr
  · exact tailRows_noNl (send_good hL hh).1 r hr

/-- the line ends that the laws use -/
def EolOk (e : List Nat) : Prop := e = [10] ∨ e = [13, 10] ∨ e = [13]
theorem EolOk.cons {e : List Nat} (h : EolOk e) : ∃ z ys, e = z :: ys ∧ isNl z = true := by
  rcases h with rfl | rfl | rfl
  · exact ⟨_, _, rfl, rfl⟩
  · exact ⟨_, _, rfl, rfl⟩
  · exact ⟨_, _, rfl, rfl⟩
theorem split_rows {e : List Nat} (he : EolOk e) {rows : List (List Nat)} (hne : rows ≠ []) (h : ∀ r ∈ rows, NoNl r) : splitL e (joinL e rows) = rows := by
  obtain ⟨z, ys, rfl, hz⟩ := he.cons
  refine splitL_joinL (by simp) rows hne fun p hp => apart_of_head fun hm => ?_
  have := h p hp z hm
  rw [hz] at this; cases this

/-! ### the writer sees each sign once -/
theorem fill_append (L : Nat) (qs : List (List Nat)) : ∀ (ps : List (List Nat)) (acc : List Nat), (fill L acc ps).2 ≠ [] → fill L acc (ps ++ qs) = ((fill L acc ps).1, (fill L acc ps).2 ++ qs)
  | [], acc, h => by simp [fill] at h
  | p :: ps, acc, h => by
    unfold fill at h ⊢
    rw [List.cons_append]
    simp only
    split
    · rename_i h'
      rw [if_pos h'] at h
      exact fill_append L qs ps _ h
    · rfl
theorem send_append {L : Nat} (hL : 4 ≤ L) : ∀ (n : Nat) {ps qs : List (List Nat)}, ps.length ≤ n → AllGood ps → AllGood qs →
    send L (ps ++ qs) = ((send L ps).1 ++ (send L ((send L ps).2 ++ qs)).1, (send L ((send L ps).2 ++ qs)).2)
  | 0, ps, qs, hn, _, _ => by
    have : ps = [] := by cases ps <;> simp at hn ⊢
    subst this
    rw [send_of_le (h := []) (by simp)]; simp
  | n + 1, ps, qs, hn, hp, hq => by
    by_cases hs : ps.flatten.length ≤ L
    · rw [send_of_le hs]; simp
    · have hne : ps ≠ [] := by intro e; subst e; simp at hs
      have h1 := fill_less L hL hp hne
      obtain ⟨p, r, e, _, _⟩ := fill_more L (acc := []) hL hp (by simp only [List.length_nil]; omega) (by simp only [List.length_nil]; omega)
      have hf := fill_append L qs ps [] (by rw [e]; simp)
      have hlen : L < (ps ++ qs).flatten.length := by rw [List.flatten_append, List.length_append]; omega
      rw [send_of_lt hL (hp.append hq) hlen, send_of_lt hL hp (by omega), hf]
      simp only
      rw [send_append hL n (by omega) (fill_good L ps [] hp) hq]
      rfl

/-- the writer's state behind a text: what is sent, what is held -/
def sentOf (L : Nat) (s : LSt) : List (List Nat) := (s.1.flatMap fun l => rowsOf L (pieces l)) ++ (send L (pieces s.2.1)).1
def heldOf (L : Nat) (s : LSt) : List (List Nat) := (send L (pieces s.2.1)).2
theorem pieces_snoc (l : List Nat) (c : Nat) : pieces (l ++ [c]) = pieces l ++ [piece c] := by simp [pieces]
theorem pieces_append (l r : List Nat) : pieces (l ++ r) = pieces l ++ pieces r := by simp [pieces]
theorem held_good {L : Nat} (hL : 4 ≤ L) (s : LSt) : AllGood (heldOf L s) ∧ (heldOf L s).flatten.length ≤ L := send_good hL (pieces_good _)
/-- a plain sign -/
theorem write_plain {L : Nat} (hL : 4 ≤ L) (s : LSt) (c : Nat) (hb : isBrk c = false) :
    sentOf L (lstep isBrk s c) = sentOf L s ++ (send L (heldOf L s ++ [piece c])).1 ∧ heldOf L (lstep isBrk s c) = (send L (heldOf L s ++ [piece c])).2 := by
  have hc : c ≠ 10 := by rintro rfl; simp [isBrk] at hb
  rw [lstep_plain hb hc]
  unfold sentOf heldOf
  simp only [pieces_snoc]
  rw [send_append hL _ (Nat.le_refl _) (pieces_good _) (fun p hp => by rw [List.mem_singleton] at hp; subst hp; exact piece_good c)]
  simp [List.append_assoc]
/-- a line end that is not the LF behind a CR -/
theorem write_nl {L : Nat} (s : LSt) (c : Nat) (hb : isBrk c = true) (hj : (s.2.2 && c == 10) = false) :
    sentOf L (lstep isBrk s c) = sentOf L s ++ tailRows L (heldOf L s) ∧ heldOf L (lstep isBrk s c) = [] := by
  unfold lstep
  rw [hj, hb]
  simp only [Bool.false_eq_true, if_false, if_true]
  unfold sentOf heldOf
  simp only
  rw [show pieces ([] : List Nat) = [] from rfl, send_of_le (h := []) (by simp)]
  simp [rowsOf, List.append_assoc]
/-- the LF behind a CR -/
theorem write_joined {L : Nat} (s : LSt) (c : Nat) (hj : (s.2.2 && c == 10) = true) : sentOf L (lstep isBrk s c) = sentOf L s ∧ heldOf L (lstep isBrk s c) = heldOf L s := by
  unfold lstep
  rw [hj]
  simp only [if_true]
  exact ⟨rfl, rfl⟩
/-- what the fold knows of the text: octets alone -/
structure Seen (t : List Nat) (s : LSt) : Prop where
  is : s = lfold isBrk t
  cr : s.2.2 = (t.getLast? == some 13)
  nl : lastNl t = true → s.2.1 = []
  no : t ≠ [] → lastNl t = false → s.2.1 ≠ []
theorem lfold_snoc (p : Nat → Bool) (t : List Nat) (c : Nat) : lfold p (t ++ [c]) = lstep p (lfold p t) c := by unfold lfold; rw [List.foldl_append]; rfl
theorem lastNl_snoc (t : List Nat) (c : Nat) : lastNl (t ++ [c]) = isNl c := by simp [lastNl]
theorem Seen.nil : Seen [] ([], [], false) := ⟨rfl, rfl, fun h => by simp [lastNl] at h, fun h => absurd rfl h⟩
theorem brk_octet {c : Nat} (h : c < 256) : isBrk c = isNl c := by
  have h1 : (c == 0x2028) = false := by rw [beq_eq_false_iff_ne]; omega
  have h2 : (c == 0x2029) = false := by rw [beq_eq_false_iff_ne]; omega
  simp only [isBrk, isNl, h1, h2, Bool.or_false]
theorem Seen.snoc {t : List Nat} {s : LSt} (h : Seen t s) {c : Nat} (hc : c < 256) : Seen (t ++ [c]) (lstep isBrk s c) := by
  have hb := brk_octet hc
  refine ⟨by rw [lfold_snoc, h.is], ?_, ?_, ?_⟩
  · rw [List.getLast?_append, List.getLast?_singleton, Option.some_or]
    unfold lstep
    by_cases h1 : (s.2.2 && c == 10) = true
    · rw [if_pos h1]
      simp only [Bool.and_eq_true, beq_iff_eq] at h1
      obtain ⟨_, rfl⟩ := h1
      rfl
    · rw [if_neg h1]
      split
      · simp
      · rename_i h2
        have : c ≠ 13 := by rintro rfl; exact h2 rfl
        simp [this]
  · intro hn
    rw [lastNl_snoc] at hn
    unfold lstep
    by_cases h1 : (s.2.2 && c == 10) = true
    · rw [if_pos h1]
      simp only [Bool.and_eq_true, beq_iff_eq] at h1
      have h2 := h.cr
      rw [h1.1] at h2
      refine h.nl ?_
      have : t.getLast? = some 13 := by simpa using h2.symm
      simp [lastNl, this, isNl]
    · rw [if_neg h1, hb, hn]; rfl
  · intro _ hn
    rw [lastNl_snoc] at hn
    have hc10 : c ≠ 10 := by rintro rfl; simp [isNl] at hn
    rw [lstep_plain (hb.trans hn) hc10]
    simp
theorem rows_seen {L : Nat} {t : List Nat} {s : LSt} (h : Seen t s) (hne : t ≠ []) : bodyRows L t = sentOf L s ++ (if lastNl t then [[]] else tailRows L (heldOf L s)) := by
  unfold bodyRows rowsL linesL
  rw [← h.is]
  unfold sentOf heldOf
  by_cases hn : lastNl t = true
  · have hc := h.nl hn
    unfold lend
    rw [if_pos hc, if_pos hn, if_pos hn, hc, show pieces ([] : List Nat) = [] from rfl, send_of_le (h := []) (by simp)]
    simp [pieces, rowsOf_nil]
  · have hc := h.no hne (by simpa using hn)
    unfold lend
    rw [if_neg hc, if_neg hn, if_neg hn]
    simp [rowsOf, List.append_assoc]
theorem foldl_plain {s : LSt} (k : Nat) : ∀ n, n ≠ 0 → (List.replicate n k).foldl (lstep isBrk) s = (s.1, s.2.1 ++ List.replicate n k, false) ∨ isBrk k = true ∨ k = 10 := by
  intro n hn
  by_cases h : isBrk k = true ∨ k = 10
  · exact .inr h
  · refine .inl (lstep_plains _ _ (by simpa using hn) fun c hc => ?_)
    obtain ⟨_, rfl⟩ := List.mem_replicate.mp hc
    exact ⟨by simpa using fun e => h (.inl e), fun e => h (.inr e)⟩
/-- more k's behind a text -/
theorem rows_more {L : Nat} (hL : 4 ≤ L) {t : List Nat} {s : LSt} (h : Seen t s) {n : Nat} (hn : n ≠ 0) :
    bodyRows L (t ++ List.replicate n 107) = sentOf L s ++ rowsOf L (heldOf L s ++ List.replicate n [107]) := by
  have e : lfold isBrk (t ++ List.replicate n 107) = (s.1, s.2.1 ++ List.replicate n 107, false) := by
    unfold lfold
    rw [List.foldl_append]
    show (List.replicate n 107).foldl (lstep isBrk) (lfold isBrk t) = _
    rw [← h.is]
    rcases foldl_plain (s := s) 107 n hn with h1 | h1 | h1
    · exact h1
    · simp [isBrk] at h1
    · cases h1
  have hl : lastNl (t ++ List.replicate n 107) = false := by
    obtain ⟨m, rfl⟩ := Nat.exists_eq_succ_of_ne_zero hn
    rw [List.replicate_succ', ← List.append_assoc, lastNl_snoc]; rfl
  unfold bodyRows rowsL linesL
  rw [e, hl]
  unfold lend
  have hne : s.2.1 ++ List.replicate n 107 ≠ [] := by simp [hn]
  rw [if_neg hne]
  simp only [Bool.false_eq_true, if_false, List.append_nil, List.flatMap_append, List.flatMap_cons, List.flatMap_nil]
  have hp : pieces (s.2.1 ++ List.replicate n 107) = pieces s.2.1 ++ List.replicate n [107] := by
    rw [pieces_append]
    have : pieces (List.replicate n 107) = List.replicate n [107] := by simp [pieces, piece, plainB]
    rw [this]
  have hg : AllGood (List.replicate n [107]) := fun p hp => by
    obtain ⟨_, rfl⟩ := List.mem_replicate.mp hp
    exact .inl ⟨107, rfl, by decide, rfl⟩
  rw [hp]
  unfold rowsOf sentOf heldOf
  rw [send_append hL _ (Nat.le_refl _) (pieces_good _) hg]
  simp [rowsOf, List.append_assoc]
end Mine
end
section
namespace Mine
/-! ### the shape of a line's rows -/
/-- behind each '=' a sign that is no line end -/
def EqOk (p : List Nat) : Prop := ∀ i : Nat, p[i]? = some 61 → ∃ d, p[i + 1]? = some d ∧ isNl d = false
theorem EqOk.nil : EqOk [] := fun i h => by simp at h
theorem EqOk.append {a b : List Nat} (ha : EqOk a) (hb : EqOk b) : EqOk (a ++ b) := fun i h => by
  by_cases hi : i < a.length
  · rw [List.getElem?_append_left hi] at h
    obtain ⟨d, h1, h2⟩ := ha i h
    have hi' : i + 1 < a.length := (List.getElem?_eq_some_iff.mp h1).1
    exact ⟨d, by rw [List.getElem?_append_left hi']; exact h1, h2⟩
  · rw [List.getElem?_append_right (by omega)] at h
    obtain ⟨d, h1, h2⟩ := hb _ h
    exact ⟨d, by rw [List.getElem?_append_right (by omega), show i + 1 - a.length = i - a.length + 1 from by omega]; exact h1, h2⟩
theorem EqOk.free {p : List Nat} (h : 61 ∉ p) : EqOk p := fun i hi => absurd (List.mem_of_getElem? hi) h
theorem EqOk.good {p : List Nat} (h : Good p) : EqOk p := by
  rcases h.cases with ⟨c, rfl, hc, _⟩ | ⟨a, b, rfl, ha, hb, h1, h2⟩
  · exact .free (by simp; exact fun e => hc e.symm)
  · intro i hi
    match i, hi with
    | 0, _ => exact ⟨a, rfl, by simp only [isNl, Bool.or_eq_false_iff, beq_eq_false_iff_ne]; omega⟩
    | 1, hi => exact absurd (Option.some.inj hi) ha
    | 2, hi => exact absurd (Option.some.inj hi) hb
    | i + 3, hi => simp at hi
theorem EqOk.flatten {ps : List (List Nat)} (h : AllGood ps) : EqOk ps.flatten := by
  induction ps with
  | nil => exact .nil
  | cons p r ih => rw [List.flatten_cons]; exact (EqOk.good h.head).append (ih h.tail)
theorem EqOk.last {p : List Nat} (h : EqOk p) : p.getLast? ≠ some 61 := fun e => by
  rw [List.getLast?_eq_getElem?] at e
  obtain ⟨d, h1, _⟩ := h _ e
  have := (List.getElem?_eq_some_iff.mp h1).1
  have := (List.getElem?_eq_some_iff.mp e).1
  omega
theorem fill_eqOk (L : Nat) : ∀ (ps : List (List Nat)) (acc : List Nat), AllGood ps → EqOk acc → EqOk (fill L acc ps).1
  | [], acc, _, h => by simpa [fill] using h
  | p :: ps, acc, hg, h => by
    unfold fill
    split
    · exact fill_eqOk L ps _ hg.tail (h.append (EqOk.good hg.head))
    · exact h
theorem send_shape {L : Nat} (hL : 4 ≤ L) : ∀ (n : Nat) {h : List (List Nat)}, h.length ≤ n → AllGood h →
    ∃ soft : List (List Nat), (send L h).1 = soft.map (· ++ [61]) ∧ soft.flatten ++ (send L h).2.flatten = h.flatten ∧ ∀ s ∈ soft, EqOk s
  | 0, h, hn, hh => by
    have : h = [] := by cases h <;> simp at hn ⊢
    subst this
    rw [send_of_le (by simp)]; exact ⟨[], rfl, rfl, fun _ h => nomatch h⟩
  | n + 1, h, hn, hh => by
    by_cases hs : h.flatten.length ≤ L
    · rw [send_of_le hs]; exact ⟨[], rfl, rfl, fun _ h => nomatch h⟩
    · have hne : h ≠ [] := by intro e; subst e; simp at hs
      have h1 := fill_less L hL hh hne
      obtain ⟨soft, e1, e2, e3⟩ := send_shape hL n (h := (fill L [] h).2) (by omega) (fill_good L h [] hh)
      rw [send_of_lt hL hh (by omega)]
      refine ⟨(fill L [] h).1 :: soft, by rw [e1]; rfl, ?_, ?_⟩
      · have := fill_flat L h []
        rw [List.nil_append] at this
        rw [List.flatten_cons, List.append_assoc, e2, this]
      · intro s hs
        rcases List.mem_cons.mp hs with rfl | hs
        · exact fill_eqOk L h [] hh .nil
        · exact e3 s hs
theorem quoteL_eqOk {c : Nat} (hc : c < 256) : EqOk (quoteL c) := EqOk.good (.inr ⟨c, hc, rfl⟩)
/-- a row that is to be broken, and the last -/
structure Shape (rows soft : List (List Nat)) (last : List Nat) : Prop where
  is : rows = soft.map (· ++ [61]) ++ [last]
  soft : ∀ s ∈ soft, EqOk s
  last : EqOk last
/-- what a line is without its soft breaks: itself, or its last blank quoted -/
theorem rows_shape {L : Nat} (hL : 4 ≤ L) {ps : List (List Nat)} (hp : AllGood ps) : ∃ soft last, Shape (rowsOf L ps) soft last ∧
    (soft.flatten ++ last = ps.flatten ∨ ∃ X c, (c = 32 ∨ c = 9) ∧ ps.flatten = X ++ [c] ∧ soft.flatten ++ last = X ++ quoteL c) := by
  obtain ⟨soft, e1, e2, e3⟩ := send_shape hL ps.length (Nat.le_refl _) hp
  have hh := (send_good hL hp).1
  unfold rowsOf
  rw [e1]
  generalize (send L ps).2 = h at *
  by_cases hw : white h = true
  · obtain ⟨g, c, rfl, hc⟩ := white_split hw
    have hg : EqOk g.flatten := EqOk.flatten fun p hp => hh p (List.mem_append_left _ hp)
    have hq : EqOk (quoteL c) := quoteL_eqOk (by omega)
    have h1 : EqOk [c] := .free (by simp; omega)
    have e4 : ps.flatten = soft.flatten ++ g.flatten ++ [c] := by rw [← e2]; simp
    rw [tailRows_white hc]
    split
    · exact ⟨soft, g.flatten ++ quoteL c, ⟨rfl, e3, hg.append hq⟩, .inr ⟨_, c, hc, e4, by simp⟩⟩
    · split
      · refine ⟨soft ++ [g.flatten ++ [c]], [], ⟨by simp, ?_, .nil⟩, .inl (by rw [e4]; simp)⟩
        intro s hs
        rcases List.mem_append.mp hs with hs | hs
        · exact e3 s hs
        · rw [List.mem_singleton.mp hs]; exact hg.append h1
      · refine ⟨soft ++ [g.flatten], quoteL c, ⟨by simp, ?_, hq⟩, .inr ⟨_, c, hc, e4, by simp⟩⟩
        intro s hs
        rcases List.mem_append.mp hs with hs | hs
        · exact e3 s hs
        · rw [List.mem_singleton.mp hs]; exact hg
  · rw [tailRows_plain (by simpa using hw)]
    exact ⟨soft, h.flatten, ⟨rfl, e3, EqOk.flatten hh⟩, .inl e2⟩
/-! ### a writing read back -/
def unhex (n : Nat) : Nat := if n < 58 then n - 48 else n - 55
def unq : List Nat → List Nat
  | [] => []
  | [c] => [c]
  | [c, d] => [c, d]
  | c :: a :: b :: r => if c = 61 then (unhex a * 16 + unhex b) :: unq r else c :: unq (a :: b :: r)
theorem unhex_hexd {n : Nat} (h : n < 16) : unhex (hexd n) = n := by unfold unhex hexd; split <;> split <;> omega
theorem unq_plain {c : Nat} (h : c ≠ 61) : ∀ r, unq (c :: r) = c :: unq r
  | [] => rfl
  | [d] => by simp [unq]
  | a :: b :: r => by show (if c = 61 then _ else _) = _; rw [if_neg h]
theorem unq_quote {c : Nat} (h : c < 256) (r : List Nat) : unq (quoteL c ++ r) = c :: unq r := by
  show (if 61 = 61 then (unhex (hexd (c / 16)) * 16 + unhex (hexd (c % 16))) :: unq r else _) = _
  rw [if_pos rfl, unhex_hexd (by omega), unhex_hexd (by omega)]
  congr 1; omega
theorem unq_piece (c : Nat) (r : List Nat) : unq (piece c ++ r) = c :: unq r := by
  unfold piece
  split
  · rename_i h
    refine unq_plain ?_ r
    rintro rfl
    simp [plainB] at h
  · rename_i h
    simp only [Bool.or_eq_true, decide_eq_true_eq, not_or] at h
    exact unq_quote (by omega) r
theorem unq_pieces (l r : List Nat) : unq (encp l ++ r) = l ++ unq r := by
  induction l with
  | nil => rfl
  | cons c l ih =>
    show unq ((piece c ++ encp l) ++ r) = _
    rw [List.append_assoc, unq_piece, ih]; rfl
theorem piece_white {c d : Nat} {X : List Nat} (hd : d = 32 ∨ d = 9) (h : piece c = X ++ [d]) : X = [] ∧ c = d := by
  unfold piece at h
  split at h
  · cases X with
    | nil => exact ⟨rfl, by simpa using h⟩
    | cons a r => simp at h
  · rename_i hc
    exfalso
    simp only [Bool.or_eq_true, decide_eq_true_eq, not_or] at hc
    have h2 := hexd_rng (n := c % 16) (by omega)
    have := congrArg List.getLast? h
    simp only [List.getLast?_append, List.getLast?_singleton, Option.some_or, List.getLast?_cons_cons, Option.some.injEq] at this
    omega
theorem encp_white {l X : List Nat} {d : Nat} (hd : d = 32 ∨ d = 9) (h : encp l = X ++ [d]) : ∃ l', l = l' ++ [d] ∧ X = encp l' := by
  rcases List.eq_nil_or_concat l with rfl | ⟨l', c, rfl⟩
  · simp [encp, pieces] at h
  · rw [List.concat_eq_append] at *
    rw [encp_snoc] at h
    have hp := piece_ne c
    rcases List.eq_nil_or_concat (piece c) with e | ⟨Y, x, e⟩
    · exact absurd e hp
    · rw [List.concat_eq_append] at e
      rw [e, ← List.append_assoc] at h
      obtain ⟨h1, h2⟩ := List.append_inj' h rfl
      have hx : x = d := by simpa using h2
      subst hx
      obtain ⟨rfl, rfl⟩ := piece_white hd e
      exact ⟨l', rfl, by rw [← h1]; simp⟩
/-- soft breaks taken off, each line read back -/
def deco : List Nat → List (List Nat) → List (List Nat)
  | _, [] => []
  | acc, r :: rs => if r.getLast? = some 61 then deco (acc ++ r.dropLast) rs else unq (acc ++ r) :: deco [] rs
theorem deco_shape {rows soft : List (List Nat)} {last : List Nat} (h : Shape rows soft last) (rest : List (List Nat)) : deco [] (rows ++ rest) = unq (soft.flatten ++ last) :: deco [] rest := by
  have key : ∀ (soft : List (List Nat)) (acc : List Nat), deco acc (soft.map (· ++ [61]) ++ [last] ++ rest) = unq (acc ++ soft.flatten ++ last) :: deco [] rest := by
    intro soft
    induction soft with
    | nil =>
      intro acc
      show (if last.getLast? = some 61 then _ else _) = _
      rw [if_neg h.last.last]; simp
    | cons s r ih =>
      intro acc
      show (if (s ++ [61]).getLast? = some 61 then deco (acc ++ (s ++ [61]).dropLast) (r.map (· ++ [61]) ++ [last] ++ rest) else _) = _
      rw [if_pos (by simp), ih, List.dropLast_concat]; simp
  rw [h.is, key]; rfl
theorem deco_line {L : Nat} (hL : 4 ≤ L) (l : List Nat) (rest : List (List Nat)) : deco [] (rowsOf L (pieces l) ++ rest) = l :: deco [] rest := by
  obtain ⟨soft, last, hs, h⟩ := rows_shape hL (pieces_good l)
  rw [deco_shape hs]
  have e : unq (encp l) = l := by have := unq_pieces l []; simpa [unq] using this
  rcases h with h | ⟨X, c, hc, h1, h2⟩
  · rw [h]; show unq (encp l) :: _ = _; rw [e]
  · obtain ⟨l', rfl, rfl⟩ := encp_white hc h1
    rw [h2, unq_pieces]
    have := unq_quote (c := c) (by omega) []
    rw [List.append_nil] at this
    rw [this]; rfl
theorem deco_rows {L : Nat} (hL : 4 ≤ L) (rows : List (List Nat)) : deco [] (rows.flatMap fun l => rowsOf L (pieces l)) = rows := by
  induction rows with
  | nil => rfl
  | cons l r ih => rw [List.flatMap_cons, deco_line hL, ih]
end Mine
end
section
namespace Mine
/-! ### law 2: the rows of a text and its writing tell each other -/
def rowsN (t : List Nat) : List (List Nat) := if rowsL t = [] then [[]] else rowsL t
theorem rowsN_ne (t : List Nat) : rowsN t ≠ [] := by unfold rowsN; split <;> simp_all
def keyL (t : List Nat) : List Nat := joinL [57344] (rowsL t)
theorem keyL_eq (t : List Nat) : keyL t = joinL [57344] (rowsN t) := by
  unfold keyL rowsN
  split
  · rename_i h; rw [h]; rfl
  · rfl
theorem benc_rowsN {L : Nat} (hL : 4 ≤ L) (e t : List Nat) : benc L e t = joinL e ((rowsN t).flatMap fun l => rowsOf L (pieces l)) := by
  rw [benc_rows hL]
  unfold bodyRows rowsN
  split
  · rename_i h; rw [h]; simp [pieces, rowsOf_nil]; rfl
  · rfl
theorem lfold_mem (p : Nat → Bool) (t : List Nat) : ∀ l, l ∈ (lfold p t).1 ∨ l = (lfold p t).2.1 → ∀ c ∈ l, c ∈ t := by
  have key : ∀ (t : List Nat) (s : LSt) (u : List Nat), (∀ l, l ∈ s.1 ∨ l = s.2.1 → ∀ c ∈ l, c ∈ u) → ∀ l, l ∈ (t.foldl (lstep p) s).1 ∨ l = (t.foldl (lstep p) s).2.1 → ∀ c ∈ l, c ∈ u ++ t := by
    intro t
    induction t with
    | nil => intro s u h l hl c hc; rw [List.append_nil]; exact h l hl c hc
    | cons x r ih =>
      intro s u h l hl c hc
      rw [List.foldl_cons] at hl
      have := ih (lstep p s x) (u ++ [x]) (fun l hl c hc => ?_) l hl c hc
      · simpa using this
      · unfold lstep at hl
        split at hl
        · exact List.mem_append_left _ (h l hl c hc)
        · split at hl
          · rcases hl with hl | hl
            · rcases List.mem_append.mp hl with hl | hl
              · exact List.mem_append_left _ (h l (.inl hl) c hc)
              · exact List.mem_append_left _ (h l (.inr (List.mem_singleton.mp hl)) c hc)
            · simp only at hl; subst hl; cases hc
          · rcases hl with hl | hl
            · exact List.mem_append_left _ (h l (.inl hl) c hc)
            · simp only at hl
              subst hl
              rcases List.mem_append.mp hc with hc | hc
              · exact List.mem_append_left _ (h _ (.inr rfl) c hc)
              · exact List.mem_append_right _ hc
  intro l hl c hc
  have := key t ([], [], false) [] (fun l hl c hc => by rcases hl with hl | hl; cases hl; simp only at hl; subst hl; cases hc) l hl c hc
  simpa using this
theorem rowsL_mem {t l : List Nat} (hl : l ∈ rowsL t) : ∀ c ∈ l, c ∈ t := by
  unfold rowsL linesL lend at hl
  rcases List.mem_append.mp hl with hl | hl
  · split at hl
    · exact lfold_mem isBrk t l (.inl hl)
    · rcases List.mem_append.mp hl with hl | hl
      · exact lfold_mem isBrk t l (.inl hl)
      · exact lfold_mem isBrk t l (.inr (List.mem_singleton.mp hl))
  · split at hl
    · rw [List.mem_singleton.mp hl]; exact fun _ h => nomatch h
    · cases hl
theorem rowsN_mem {t l : List Nat} (hl : l ∈ rowsN t) : ∀ c ∈ l, c ∈ t := by
  unfold rowsN at hl
  split at hl
  · rw [List.mem_singleton.mp hl]; exact fun _ h => nomatch h
  · exact rowsL_mem hl
theorem key_rows {t : List Nat} (h : 57344 ∉ t) : splitL [57344] (keyL t) = rowsN t := by
  rw [keyL_eq]
  exact splitL_joinL (by simp) _ (rowsN_ne t) fun p hp => apart_of_head fun hm => h (rowsN_mem hp _ hm)
theorem flatRows_ne (L : Nat) {rows : List (List Nat)} (h : rows ≠ []) : (rows.flatMap fun l => rowsOf L (pieces l)) ≠ [] := by
  cases rows with
  | nil => exact absurd rfl h
  | cons a r => simp [rowsOf_ne]
theorem writ_rows {L : Nat} (hL : 4 ≤ L) {e : List Nat} (he : EolOk e) (t : List Nat) : deco [] (splitL e (benc L e t)) = rowsN t := by
  rw [benc_rowsN hL, split_rows he (flatRows_ne L (rowsN_ne t)) fun r hr => ?_, deco_rows hL]
  obtain ⟨l, _, hr⟩ := List.mem_flatMap.mp hr
  exact rowsOf_noNl hL (pieces_good _) r hr
theorem key_iff {L : Nat} (hL : 4 ≤ L) {e : List Nat} (he : EolOk e) {t u : List Nat} (ht : 57344 ∉ t) (hu : 57344 ∉ u) : keyL t = keyL u ↔ benc L e t = benc L e u := by
  constructor
  · intro h
    have := congrArg (splitL [57344]) h
    rw [key_rows ht, key_rows hu] at this
    rw [benc_rowsN hL, benc_rowsN hL, this]
  · intro h
    have := congrArg (fun x => deco [] (splitL e x)) h
    simp only [writ_rows hL he] at this
    rw [keyL_eq, keyL_eq, this]
/-! the law's own loop over a text: what is left of it -/
structure RowsAt (t : List Nat) (place : Nat) (rows : List (List Nat)) (row : List Nat) : Prop where
  is : ∃ b, lfold isBrk t = (t.drop place).foldl (lstep isBrk) (rows, row, b) ∧ (b = true → (t.drop place).head? ≠ some 10)
  le : place ≤ t.length
theorem RowsAt.start (t : List Nat) : RowsAt t 0 [] [] := ⟨⟨false, rfl, fun h => nomatch h⟩, Nat.zero_le _⟩
theorem drop_cons {t : List Nat} {p c : Nat} (h : t[p]? = some c) : t.drop p = c :: t.drop (p + 1) := by
  obtain ⟨h1, h2⟩ := List.getElem?_eq_some_iff.mp h
  rw [List.drop_eq_getElem_cons h1, h2]
theorem head_drop (t : List Nat) (p : Nat) : (t.drop p).head? = t[p]? := by rw [List.head?_drop]
theorem RowsAt.two {t : List Nat} {p : Nat} {rows : List (List Nat)} {row : List Nat} (h : RowsAt t p rows row) (h1 : t[p]? = some 13) (h2 : t[p + 1]? = some 10) : RowsAt t (p + 2) (rows ++ [row]) [] := by
  obtain ⟨⟨b, e, hb⟩, hle⟩ := h
  refine ⟨⟨false, ?_, fun h => nomatch h⟩, ?_⟩
  · rw [e, drop_cons h1, drop_cons h2, List.foldl_cons, List.foldl_cons]
    simp [lstep, isBrk]
  · have := (List.getElem?_eq_some_iff.mp h2).1; omega
theorem RowsAt.brk {t : List Nat} {p c : Nat} {rows : List (List Nat)} {row : List Nat} (h : RowsAt t p rows row) (h1 : t[p]? = some c) (hc : isBrk c = true) (h2 : ¬ (c = 13 ∧ t[p + 1]? = some 10)) : RowsAt t (p + 1) (rows ++ [row]) [] := by
  obtain ⟨⟨b, e, hb⟩, hle⟩ := h
  refine ⟨⟨c == 13, ?_, fun hh => ?_⟩, (List.getElem?_eq_some_iff.mp h1).1⟩
  · rw [e, drop_cons h1, List.foldl_cons]
    congr 1
    unfold lstep
    have : (b && c == 10) = false := by
      cases b with
      | false => rfl
      | true =>
        have := hb rfl
        rw [head_drop, h1] at this
        simpa using this
    simp only [this, hc, Bool.false_eq_true, if_false, if_true]
  · rw [head_drop]
    exact fun e2 => h2 ⟨by simpa using hh, e2⟩
theorem RowsAt.sign {t : List Nat} {p c : Nat} {rows : List (List Nat)} {row : List Nat} (h : RowsAt t p rows row) (h1 : t[p]? = some c) (hc : isBrk c = false) : RowsAt t (p + 1) rows (row ++ [c]) := by
  obtain ⟨⟨b, e, hb⟩, hle⟩ := h
  refine ⟨⟨false, ?_, fun h => nomatch h⟩, (List.getElem?_eq_some_iff.mp h1).1⟩
  rw [e, drop_cons h1, List.foldl_cons, lstep_plain hc (by rintro rfl; simp [isBrk] at hc)]
theorem lastNl_row {t : List Nat} (h : lastNl t = true) : (lfold isBrk t).2.1 = [] := by
  rcases List.eq_nil_or_concat t with rfl | ⟨u, c, rfl⟩
  · rfl
  · rw [List.concat_eq_append] at *
    rw [lastNl_snoc] at h
    have hb : isBrk c = true := by
      simp only [isNl, Bool.or_eq_true, beq_iff_eq] at h
      simp only [isBrk, Bool.or_eq_true, beq_iff_eq]; omega
    rw [lfold_snoc]
    unfold lstep
    split
    · rename_i h1
      simp only [Bool.and_eq_true, beq_iff_eq] at h1
      -- a CR has just ended a row
      have key : ∀ (u : List Nat) (s : LSt), (s.2.2 = true → s.2.1 = []) → (u.foldl (lstep isBrk) s).2.2 = true → (u.foldl (lstep isBrk) s).2.1 = [] := by
        intro u
        induction u with
        | nil => intro s hs; exact hs
        | cons x r ih =>
          intro s hs
          rw [List.foldl_cons]
          refine ih _ ?_
          unfold lstep
          split
          · intro e; cases e
          · split
            · intro _; rfl
            · intro e; cases e
      exact key u ([], [], false) (fun h => nomatch h) h1.1
    · simp only [hb, if_true]
theorem RowsAt.done {t : List Nat} {rows : List (List Nat)} {row : List Nat} (h : RowsAt t t.length rows row) : rowsL t = if row ≠ [] then rows ++ [row] else if lastNl t = true then rows ++ [[]] else rows := by
  obtain ⟨⟨b, e, hb⟩, hle⟩ := h
  rw [List.drop_length, List.foldl_nil] at e
  unfold rowsL linesL lend
  rw [e]
  by_cases hr : row = []
  · rw [if_pos hr, if_neg (show ¬ row ≠ [] from fun h => h hr)]
    by_cases hl : lastNl t = true
    · rw [if_pos hl, if_pos hl]
    · rw [if_neg hl, if_neg hl, List.append_nil]
  · rw [if_neg hr, if_pos hr]
    have : lastNl t = false := by
      cases hl : lastNl t with
      | false => rfl
      | true => have := lastNl_row hl; rw [e] at this; exact absurd this hr
    simp [this]
end Mine
end
section
namespace Mine
/-! ### greedy stays ahead when there is more room -/
theorem fill_suffix (L : Nat) : ∀ (ps : List (List Nat)) (acc : List Nat), (fill L acc ps).2 <:+ ps
  | [], acc => by simp [fill]
  | p :: ps, acc => by
    unfold fill
    split
    · exact (fill_suffix L ps _).trans (List.suffix_cons p ps)
    · exact List.suffix_refl _
theorem fill_mono {L L' : Nat} (hL : L ≤ L') : ∀ (ps : List (List Nat)) (acc acc' : List Nat), acc'.length ≤ acc.length → (fill L' acc' ps).2 <:+ (fill L acc ps).2
  | [], acc, acc', _ => by simp [fill]
  | p :: ps, acc, acc', h => by
    by_cases h1 : acc.length + p.length < L
    · have e1 : fill L acc (p :: ps) = fill L (acc ++ p) ps := by show (if _ then _ else _) = _; rw [if_pos h1]
      have e2 : fill L' acc' (p :: ps) = fill L' (acc' ++ p) ps := by show (if _ then _ else _) = _; rw [if_pos (by omega)]
      rw [e1, e2]
      exact fill_mono hL ps _ _ (by rw [List.length_append, List.length_append]; omega)
    · have e1 : fill L acc (p :: ps) = (acc, p :: ps) := by show (if _ then _ else _) = _; rw [if_neg h1]
      rw [e1]
      exact fill_suffix L' _ _
theorem fill_ahead {L L' : Nat} (hL : L ≤ L') (h' : List (List Nat)) : ∀ (a : List (List Nat)) (acc : List Nat), (fill L' [] h').2 <:+ (fill L acc (a ++ h')).2
  | [], acc => fill_mono hL h' acc [] (Nat.zero_le _)
  | p :: a, acc => by
    by_cases h1 : acc.length + p.length < L
    · have e1 : fill L acc (p :: a ++ h') = fill L (acc ++ p) (a ++ h') := by show (if _ then _ else _) = _; rw [if_pos h1]; rfl
      rw [e1]
      exact fill_ahead hL h' a (acc ++ p)
    · have e1 : fill L acc (p :: a ++ h') = (acc, p :: a ++ h') := by show (if _ then _ else _) = _; rw [if_neg h1]; rfl
      rw [e1]
      exact (fill_suffix L' h' []).trans (List.suffix_append _ _)
theorem send_ahead {L L' : Nat} (h4 : 4 ≤ L) (hL : L ≤ L') : ∀ (n : Nat) {h h' : List (List Nat)}, h.length ≤ n → AllGood h → h' <:+ h →
    (send L' h').1.length ≤ (send L h).1.length ∧ ((send L' h').1.length = (send L h).1.length → (send L' h').2 <:+ (send L h).2)
  | 0, h, h', hn, hh, hs => by
    have : h = [] := by cases h <;> simp at hn ⊢
    subst this
    have : h' = [] := List.suffix_nil.mp hs
    subst this
    rw [send_of_le (by simp), send_of_le (by simp)]
    exact ⟨Nat.le_refl _, fun _ => List.suffix_refl _⟩
  | n + 1, h, h', hn, hh, hs => by
    have hh' : AllGood h' := fun p hp => hh p (hs.subset hp)
    by_cases h1 : h.flatten.length ≤ L
    · have h2 : h'.flatten.length ≤ h.flatten.length := by
        obtain ⟨a, rfl⟩ := hs
        rw [List.flatten_append, List.length_append]; omega
      rw [send_of_le h1, send_of_le (h := h') (by omega)]
      exact ⟨Nat.le_refl _, fun _ => hs⟩
    · have hne : h ≠ [] := by intro e; subst e; simp at h1
      have hl := fill_less L h4 hh hne
      rw [send_of_lt h4 hh (by omega)]
      by_cases h2 : h'.flatten.length ≤ L'
      · rw [send_of_le h2]
        exact ⟨Nat.zero_le _, fun e => by simp at e⟩
      · rw [send_of_lt (Nat.le_trans h4 hL) hh' (by omega)]
        have hr : (fill L' [] h').2 <:+ (fill L [] h).2 := by
          obtain ⟨a, rfl⟩ := hs
          exact fill_ahead hL h' a []
        have ih := send_ahead h4 hL n (h := (fill L [] h).2) (h' := (fill L' [] h').2) (by omega) (fill_good L h [] hh) hr
        simp only [List.length_cons]
        exact ⟨by omega, fun e => ih.2 (by omega)⟩
theorem send_ne {L : Nat} (hL : 4 ≤ L) : ∀ (n : Nat) {h : List (List Nat)}, h.length ≤ n → AllGood h → h ≠ [] → (send L h).2 ≠ []
  | 0, h, hn, hh, hne => absurd (by cases h <;> simp at hn ⊢) hne
  | n + 1, h, hn, hh, hne => by
    by_cases hs : h.flatten.length ≤ L
    · rw [send_of_le hs]; exact hne
    · have h1 := fill_less L hL hh hne
      obtain ⟨p, qs, e, _⟩ := fill_more L (acc := []) hL hh (by simp only [List.length_nil]; omega) (by simp only [List.length_nil]; omega)
      rw [send_of_lt hL hh (by omega)]
      exact send_ne hL n (by omega) (fill_good L h [] hh) (by rw [e]; simp)
theorem send_suffix {L : Nat} (hL : 4 ≤ L) : ∀ (n : Nat) {h : List (List Nat)}, h.length ≤ n → AllGood h → (send L h).2 <:+ h
  | 0, h, hn, hh => by
    have : h = [] := by cases h <;> simp at hn ⊢
    subst this
    rw [send_of_le (by simp)]; exact List.suffix_refl _
  | n + 1, h, hn, hh => by
    by_cases hs : h.flatten.length ≤ L
    · rw [send_of_le hs]; exact List.suffix_refl _
    · have hne : h ≠ [] := by intro e; subst e; simp at hs
      have h1 := fill_less L hL hh hne
      rw [send_of_lt hL hh (by omega)]
      exact (send_suffix hL n (by omega) (fill_good L h [] hh)).trans (fill_suffix L h [])
theorem send_zero {L : Nat} (hL : 4 ≤ L) {h : List (List Nat)} (hh : AllGood h) : (send L h).1 = [] ↔ h.flatten.length ≤ L := by
  constructor
  · intro e
    apply Classical.byContradiction
    intro hs
    rw [send_of_lt hL hh (by omega)] at e
    cases e
  · intro hs; rw [send_of_le hs]

/-! ### a line's rows without their soft breaks -/
def softs (rows : List (List Nat)) : List (List Nat) := rows.dropLast.map List.dropLast
def lastr (rows : List (List Nat)) : List Nat := rows.getLast?.getD []
def bare (rows : List (List Nat)) : List Nat := (softs rows).flatten ++ lastr rows
theorem Shape.softs {rows soft : List (List Nat)} {last : List Nat} (h : Shape rows soft last) : softs rows = soft := by
  unfold Mine.softs
  rw [h.is, List.dropLast_concat, List.map_map]
  have : (List.dropLast ∘ fun x : List Nat => x ++ [61]) = id := by funext x; simp
  rw [this, List.map_id]
theorem Shape.lastr {rows soft : List (List Nat)} {last : List Nat} (h : Shape rows soft last) : lastr rows = last := by
  unfold Mine.lastr
  rw [h.is]; simp
/-- shaped: soft breaks and a last row -/
def Shaped (rows : List (List Nat)) : Prop := ∃ soft last, Shape rows soft last
theorem rowsOf_shaped {L : Nat} (hL : 4 ≤ L) {ps : List (List Nat)} (hp : AllGood ps) : Shaped (rowsOf L ps) := by
  obtain ⟨s, l, h, _⟩ := rows_shape hL hp
  exact ⟨s, l, h⟩
theorem Shaped.is {rows : List (List Nat)} (h : Shaped rows) : rows = (softs rows).map (· ++ [61]) ++ [lastr rows] := by
  obtain ⟨s, l, h⟩ := h
  rw [h.softs, h.lastr]; exact h.is
theorem Shaped.soft {rows : List (List Nat)} (h : Shaped rows) : ∀ s ∈ softs rows, EqOk s := by
  obtain ⟨s, l, h⟩ := h
  rw [h.softs]; exact h.soft
theorem Shaped.last {rows : List (List Nat)} (h : Shaped rows) : EqOk (lastr rows) := by
  obtain ⟨s, l, h⟩ := h
  rw [h.lastr]; exact h.last
def parts (e : List Nat) : List (List (List Nat)) → List (List Nat)
  | [] => []
  | [rows] => softs rows ++ [lastr rows]
  | rows :: r => softs rows ++ match parts e r with | [] => [lastr rows] | p :: ps => (lastr rows ++ e ++ p) :: ps
theorem parts_one (e : List Nat) (rows : List (List Nat)) : parts e [rows] = softs rows ++ [lastr rows] := by simp [parts]
theorem parts_ne (e : List Nat) : ∀ {rs : List (List (List Nat))}, rs ≠ [] → ∃ p ps, parts e rs = p :: ps
  | [], h => absurd rfl h
  | [rows], _ => by
    rw [parts_one]
    cases softs rows with
    | nil => exact ⟨_, _, rfl⟩
    | cons a b => exact ⟨_, _, rfl⟩
  | rows :: q :: r, _ => by
    obtain ⟨p, ps, e1⟩ := parts_ne e (rs := q :: r) (by simp)
    simp only [parts, e1]
    cases softs rows with
    | nil => exact ⟨_, _, rfl⟩
    | cons a b => exact ⟨_, _, rfl⟩
theorem parts_two (e : List Nat) (rows q : List (List Nat)) (r : List (List (List Nat))) {p : List Nat} {ps : List (List Nat)} (h : parts e (q :: r) = p :: ps) :
    parts e (rows :: q :: r) = softs rows ++ (lastr rows ++ e ++ p) :: ps := by
  simp only [parts, h]
theorem joinL_pre (e : List Nat) : ∀ (a : List (List Nat)) {b : List (List Nat)}, b ≠ [] → joinL e (a ++ b) = (a.map (· ++ e)).flatten ++ joinL e b
  | [], b, _ => by simp
  | x :: a, b, h => by
    rw [List.cons_append, joinL_cons e x (by simp [h]), joinL_pre e a h]
    simp
theorem joinL_head (e x p : List Nat) (ps : List (List Nat)) : joinL e ((x ++ p) :: ps) = x ++ joinL e (p :: ps) := by
  cases ps with
  | nil => rfl
  | cons q r => simp [joinL]
theorem parts_join (e : List Nat) : ∀ {rs : List (List (List Nat))}, rs ≠ [] → (∀ rows ∈ rs, Shaped rows) → joinL (61 :: e) (parts e rs) = joinL e rs.flatten
  | [], h, _ => absurd rfl h
  | [rows], _, hs => by
    have h := hs rows (.head _)
    rw [parts_one, joinL_pre _ _ (by simp)]
    have : ([rows] : List (List (List Nat))).flatten = rows := by simp
    rw [this, h.is, joinL_pre e _ (by simp)]
    have e1 := h.is
    rw [← e1, List.map_map]
    have : ((fun x : List Nat => x ++ e) ∘ fun x => x ++ [61]) = fun x => x ++ 61 :: e := by funext x; simp
    rw [this]; rfl
  | rows :: q :: r, _, hs => by
    have h := hs rows (.head _)
    obtain ⟨p, ps, e1⟩ := parts_ne e (rs := q :: r) (by simp)
    have ih := parts_join e (rs := q :: r) (by simp) fun x hx => hs x (.tail _ hx)
    have hne : (q :: r).flatten ≠ [] := by
      have h2 := (hs q (.tail _ (.head _))).is
      intro e2
      rw [List.flatten_cons, h2] at e2
      simp at e2
    rw [parts_two e rows q r e1, joinL_pre _ _ (by simp), joinL_head, ← e1, ih, show (rows :: q :: r).flatten = rows ++ (q :: r).flatten from rfl]
    have e3 : joinL e (rows ++ (q :: r).flatten) = (((softs rows).map (· ++ [61])).map (· ++ e)).flatten ++ (lastr rows ++ e ++ joinL e (q :: r).flatten) := by
      have e4 := h.is
      conv => lhs; rw [e4]
      rw [List.append_assoc, joinL_pre e _ (by simp), List.singleton_append, joinL_cons e _ hne]
    rw [e3, List.map_map]
    have : ((fun x : List Nat => x ++ e) ∘ fun x => x ++ [61]) = fun x => x ++ 61 :: e := by funext x; simp
    rw [this]
theorem parts_flat (e : List Nat) : ∀ {rs : List (List (List Nat))}, rs ≠ [] → (parts e rs).flatten = joinL e (rs.map bare)
  | [], h => absurd rfl h
  | [rows], _ => by rw [parts_one]; simp [bare, joinL]
  | rows :: q :: r, _ => by
    obtain ⟨p, ps, e1⟩ := parts_ne e (rs := q :: r) (by simp)
    have ih := parts_flat e (rs := q :: r) (by simp)
    rw [parts_two e rows q r e1, List.map_cons, joinL_cons e _ (by simp), ← ih, e1]
    simp [bare]
theorem parts_len (e : List Nat) : ∀ {rs : List (List (List Nat))}, rs ≠ [] → (parts e rs).length = 1 + (rs.map fun r => (softs r).length).sum
  | [], h => absurd rfl h
  | [rows], _ => by rw [parts_one]; simp; omega
  | rows :: q :: r, _ => by
    obtain ⟨p, ps, e1⟩ := parts_ne e (rs := q :: r) (by simp)
    have ih := parts_len e (rs := q :: r) (by simp)
    rw [e1, List.length_cons] at ih
    rw [parts_two e rows q r e1, List.map_cons, List.sum_cons]
    simp only [List.length_append, List.length_cons] at ih ⊢
    omega
theorem parts_eqOk {e : List Nat} (he : 61 ∉ e) : ∀ {rs : List (List (List Nat))}, (∀ rows ∈ rs, Shaped rows) → ∀ p ∈ parts e rs, EqOk p
  | [], _, p, hp => by simp [parts] at hp
  | [rows], hs, p, hp => by
    have h := hs rows (.head _)
    rw [parts_one] at hp
    rcases List.mem_append.mp hp with hp | hp
    · exact h.soft p hp
    · rw [List.mem_singleton.mp hp]; exact h.last
  | rows :: q :: r, hs, p, hp => by
    have h := hs rows (.head _)
    obtain ⟨p0, ps, e1⟩ := parts_ne e (rs := q :: r) (by simp)
    have ih := parts_eqOk he (rs := q :: r) fun x hx => hs x (.tail _ hx)
    rw [e1] at ih
    rw [parts_two e rows q r e1] at hp
    rcases List.mem_append.mp hp with hp | hp
    · exact h.soft p hp
    · rcases List.mem_cons.mp hp with rfl | hp
      · exact (h.last.append (.free he)).append (ih _ (.head _))
      · exact ih p (.tail _ hp)
theorem apart_eq {z : Nat} {ys p : List Nat} (hz : isNl z = true) (h : EqOk p) : Apart (61 :: z :: ys) p := fun r i hi => .inl (by
  have e : (p ++ r).drop i = p[i] :: (p ++ r).drop (i + 1) := by
    rw [List.drop_eq_getElem_cons (by rw [List.length_append]; omega)]
    rw [List.getElem_append_left hi]
  rw [e]
  by_cases h61 : p[i] = 61
  · obtain ⟨d, h1, h2⟩ := h i (by rw [List.getElem?_eq_getElem hi, h61])
    obtain ⟨h3, h4⟩ := List.getElem?_eq_some_iff.mp h1
    have e2 : (p ++ r).drop (i + 1) = d :: (p ++ r).drop (i + 2) := by
      rw [List.drop_eq_getElem_cons (by rw [List.length_append]; omega)]
      rw [List.getElem_append_left h3, h4]
    rw [e2]
    have hd : z ≠ d := by rintro rfl; rw [hz] at h2; cases h2
    simp [List.isPrefixOf, hd]
  · have : (61 : Nat) ≠ p[i] := fun e => h61 e.symm
    simp [List.isPrefixOf, this])
/-- a writing split at its soft breaks -/
theorem split_soft {e : List Nat} (he : EolOk e) {rs : List (List (List Nat))} (hne : rs ≠ []) (hs : ∀ rows ∈ rs, Shaped rows) : splitL (61 :: e) (joinL e rs.flatten) = parts e rs := by
  have h61 : 61 ∉ e := by rcases he with rfl | rfl | rfl <;> simp
  have hp := parts_eqOk h61 hs
  rw [← parts_join e hne hs]
  obtain ⟨p, ps, e1⟩ := parts_ne e hne
  obtain ⟨z, ys, rfl, hz⟩ := he.cons
  exact splitL_joinL (by simp) _ (by rw [e1]; simp) fun p hp' => apart_eq hz (hp p hp')
end Mine
end
section
namespace Mine
/-! ### law 3: a line -/
def wl (l : List Nat) : Bool := lastWs l
def flatL (l : List Nat) : List Nat := if lastWs l then (encp l).dropLast ++ quoteL (l.getLast?.getD 0) else encp l
def bareL (L : Nat) (l : List Nat) : List Nat := bare (rowsOf L (pieces l))
def nbL (L : Nat) (l : List Nat) : Nat := (softs (rowsOf L (pieces l))).length
theorem lastWs_snoc (l : List Nat) (c : Nat) : lastWs (l ++ [c]) = isWs c := by simp [lastWs]
theorem piece_ws {c : Nat} (h : c = 32 ∨ c = 9) : piece c = [c] := by rcases h with rfl | rfl <;> rfl
theorem isWs_iff {c : Nat} : isWs c = true ↔ c = 32 ∨ c = 9 := by simp [isWs]
theorem lastWs_enc (l : List Nat) : lastWs (encp l) = lastWs l := by
  rcases List.eq_nil_or_concat l with rfl | ⟨l', c, rfl⟩
  · rfl
  · rw [List.concat_eq_append, encp_snoc, lastWs_snoc]
    by_cases hc : c = 32 ∨ c = 9
    · rw [piece_ws hc, lastWs_snoc]
    · have h1 : isWs c = false := by rw [Bool.eq_false_iff]; exact fun e => hc (isWs_iff.mp e)
      rw [h1]
      rcases List.eq_nil_or_concat (piece c) with e | ⟨Y, x, e⟩
      · exact absurd e (piece_ne c)
      · rw [List.concat_eq_append] at e
        rw [e, ← List.append_assoc, lastWs_snoc, Bool.eq_false_iff]
        intro hx
        have := piece_white (isWs_iff.mp hx) e
        exact hc (by rw [this.2]; exact isWs_iff.mp hx)
theorem held_white {L : Nat} (hL : 4 ≤ L) (l : List Nat) : white (send L (pieces l)).2 = lastWs l := by
  have hg := (send_good hL (pieces_good l)).1
  rw [← white_iff hg, ← lastWs_enc l]
  by_cases hl : l = []
  · subst hl; rw [show pieces ([] : List Nat) = [] from rfl, send_of_le (by simp)]; rfl
  · have hp : pieces l ≠ [] := by simpa [pieces] using hl
    have hne := send_ne hL _ (Nat.le_refl _) (pieces_good l) hp
    obtain ⟨a, ha⟩ := send_suffix hL _ (Nat.le_refl _) (pieces_good l)
    have e : encp l = a.flatten ++ (send L (pieces l)).2.flatten := by unfold encp; rw [← List.flatten_append, ha]
    have hf : (send L (pieces l)).2.flatten ≠ [] := by
      have h1 := flatten_len_ge hg
      have h2 := List.length_pos_iff.mpr hne
      intro e; rw [e, List.length_nil] at h1; omega
    rw [e]
    unfold lastWs
    rw [List.getLast?_append]
    cases h : (send L (pieces l)).2.flatten.getLast? with
    | none => exact absurd (List.getLast?_eq_none_iff.mp h) hf
    | some d => rfl
theorem encp_split {l : List Nat} (h : lastWs l = true) : ∃ l' c, (c = 32 ∨ c = 9) ∧ l = l' ++ [c] ∧ encp l = encp l' ++ [c] ∧ flatL l = encp l' ++ quoteL c := by
  rcases List.eq_nil_or_concat l with rfl | ⟨l', c, rfl⟩
  · cases h
  · rw [List.concat_eq_append] at *
    have hc := isWs_iff.mp ((lastWs_snoc l' c).symm.trans h)
    have e : encp (l' ++ [c]) = encp l' ++ [c] := by rw [encp_snoc, piece_ws hc]
    refine ⟨l', c, hc, rfl, e, ?_⟩
    unfold flatL
    rw [if_pos h, e]; simp
theorem flatL_len (l : List Nat) : (flatL l).length = (encp l).length + if lastWs l then 2 else 0 := by
  by_cases h : lastWs l = true
  · obtain ⟨l', c, _, _, e1, e2⟩ := encp_split h
    rw [if_pos h, e1, e2]; simp [quoteL]
  · rw [if_neg h]; unfold flatL; rw [if_neg h]; rfl
/-- rows sent, and what is held at the end -/
def nS (L : Nat) (l : List Nat) : Nat := (send L (pieces l)).1.length
def rS (L : Nat) (l : List Nat) : Nat := (send L (pieces l)).2.flatten.length
theorem line_facts {L : Nat} (hL : 4 ≤ L) (l : List Nat) :
    nbL L l = nS L l + (if lastWs l = true ∧ L ≤ rS L l + 1 then 1 else 0) ∧ bareL L l = (if lastWs l = true ∧ rS L l + 1 ≠ L then flatL l else encp l) := by
  have hw := held_white hL l
  obtain ⟨soft, e1, e2, e3⟩ := send_shape hL _ (Nat.le_refl _) (pieces_good l)
  have hh := (send_good hL (pieces_good l)).1
  have hle := (send_good hL (pieces_good l)).2
  have hn : nS L l = soft.length := by unfold nS; rw [e1, List.length_map]
  have hrows : rowsOf L (pieces l) = soft.map (· ++ [61]) ++ tailRows L (send L (pieces l)).2 := by unfold rowsOf; rw [e1]
  have hr : rS L l = (send L (pieces l)).2.flatten.length := rfl
  have ee : encp l = soft.flatten ++ (send L (pieces l)).2.flatten := e2.symm
  unfold nbL bareL
  rw [hrows, hn, hr, ee]
  generalize (send L (pieces l)).2 = h at *
  by_cases hl : lastWs l = true
  · rw [hl] at hw
    obtain ⟨g, c, rfl, hc⟩ := white_split hw
    obtain ⟨l', c', hc', rfl, e4, e5⟩ := encp_split hl
    have e6 : encp (l' ++ [c']) = soft.flatten ++ g.flatten ++ [c] := by rw [ee]; simp
    have e7 : encp l' = soft.flatten ++ g.flatten ∧ c' = c := by
      rw [e4] at e6
      have := List.append_inj' e6 rfl
      exact ⟨this.1, by simpa using this.2⟩
    obtain ⟨e7, rfl⟩ := e7
    have hfl : (g ++ [[c']]).flatten = g.flatten ++ [c'] := by simp
    rw [e5, e7, hfl, List.length_append, List.length_singleton] at *
    rw [tailRows_white hc]
    have sh : ∀ (s : List (List Nat)) (x : List Nat), softs (s.map (· ++ [61]) ++ [x]) = s ∧ bare (s.map (· ++ [61]) ++ [x]) = s.flatten ++ x := fun s x => by
      have e8 : softs (s.map (· ++ [61]) ++ [x]) = s := by
        unfold softs
        rw [List.dropLast_concat, List.map_map]
        have : (List.dropLast ∘ fun x : List Nat => x ++ [61]) = id := by funext x; simp
        rw [this, List.map_id]
      exact ⟨e8, by unfold bare; rw [e8]; simp [lastr]⟩
    by_cases c1 : g.flatten.length + 3 ≤ L
    · rw [if_pos c1, (sh _ _).1, (sh _ _).2, if_neg (by omega), if_pos ⟨hl, by omega⟩]
      exact ⟨rfl, by simp⟩
    · rw [if_neg c1]
      by_cases c2 : g.flatten.length + 2 = L
      · have e8 : soft.map (· ++ [61]) ++ [g.flatten ++ [c'] ++ [61], []] = (soft ++ [g.flatten ++ [c']]).map (· ++ [61]) ++ [[]] := by simp
        rw [if_pos c2, e8, (sh _ _).1, (sh _ _).2, if_pos ⟨hl, by omega⟩, if_neg (by omega)]
        exact ⟨by simp, by simp⟩
      · have e8 : soft.map (· ++ [61]) ++ [g.flatten ++ [61], quoteL c'] = (soft ++ [g.flatten]).map (· ++ [61]) ++ [quoteL c'] := by simp
        rw [if_neg c2, e8, (sh _ _).1, (sh _ _).2, if_pos ⟨hl, by omega⟩, if_pos ⟨hl, by omega⟩]
        exact ⟨by simp, by simp⟩
  · have hl' : lastWs l = false := by simpa using hl
    rw [hl'] at hw
    rw [tailRows_plain hw]
    have e8 : softs (soft.map (· ++ [61]) ++ [h.flatten]) = soft := by
      unfold softs
      rw [List.dropLast_concat, List.map_map]
      have : (List.dropLast ∘ fun x : List Nat => x ++ [61]) = id := by funext x; simp
      rw [this, List.map_id]
    rw [if_neg (fun z => hl z.1), if_neg (fun z => hl z.1)]
    exact ⟨by rw [e8]; rfl, by unfold bare; rw [e8]; simp [lastr]⟩
theorem rS_le {L : Nat} (hL : 4 ≤ L) (l : List Nat) : rS L l ≤ L := (send_good hL (pieces_good l)).2
theorem nS_zero {L : Nat} (hL : 4 ≤ L) (l : List Nat) : (nS L l = 0 ↔ (encp l).length ≤ L) ∧ (nS L l = 0 → rS L l = (encp l).length) := by
  have h := send_zero hL (pieces_good l)
  have e : nS L l = 0 ↔ (send L (pieces l)).1 = [] := by unfold nS; rw [List.length_eq_zero_iff]
  refine ⟨e.trans h, fun h0 => ?_⟩
  unfold rS
  rw [send_of_le (h.mp (e.mp h0))]; rfl
theorem nS_ahead {L : Nat} (hL : 4 ≤ L) (l : List Nat) : nS (L + 1) l ≤ nS L l ∧ (nS (L + 1) l = nS L l → rS (L + 1) l ≤ rS L l) := by
  have h := send_ahead hL (Nat.le_succ L) _ (Nat.le_refl _) (pieces_good l) (List.suffix_refl _)
  refine ⟨h.1, fun e => ?_⟩
  obtain ⟨a, ha⟩ := h.2 e
  unfold rS
  rw [← ha, List.flatten_append, List.length_append]
  exact Nat.le_add_left _ _
/-- one more sign of room -/
theorem line_less {L : Nat} (hL : 4 ≤ L) (l : List Nat) {k : Nat} (hk : 1 ≤ k) :
    nbL (L + 1) l ≤ nbL L l ∧ (bareL (L + 1) l).length + nbL (L + 1) l * (1 + k) ≤ (bareL L l).length + nbL L l * (1 + k) := by
  have h1 := line_facts hL l
  have h2 := line_facts (L := L + 1) (by omega) l
  have h3 := nS_ahead hL l
  have h4 := rS_le hL l
  have h5 := rS_le (L := L + 1) (by omega) l
  have hf := flatL_len l
  have hb : nbL (L + 1) l ≤ nbL L l := by
    rw [h1.1, h2.1]
    by_cases hw : lastWs l = true
    · simp only [hw, true_and]
      by_cases c1 : L ≤ rS L l + 1
      · rw [if_pos c1]
        by_cases c2 : L + 1 ≤ rS (L + 1) l + 1
        · rw [if_pos c2]; omega
        · rw [if_neg c2]; omega
      · rw [if_neg c1]
        by_cases c2 : L + 1 ≤ rS (L + 1) l + 1
        · rw [if_pos c2]; omega
        · rw [if_neg c2]; omega
    · simp only [hw, Bool.false_eq_true, false_and, if_false]; omega
  refine ⟨hb, ?_⟩
  have hlen : (bareL (L + 1) l).length ≤ (bareL L l).length + 2 ∧ (nbL (L + 1) l = nbL L l → (bareL (L + 1) l).length ≤ (bareL L l).length) := by
    have b1 : (bareL L l).length = (encp l).length + if lastWs l = true ∧ rS L l + 1 ≠ L then 2 else 0 := by
      rw [h1.2]
      split
      · rename_i h; rw [hf, if_pos h.1]
      · rfl
    have b2 : (bareL (L + 1) l).length = (encp l).length + if lastWs l = true ∧ rS (L + 1) l + 1 ≠ L + 1 then 2 else 0 := by
      rw [h2.2]
      split
      · rename_i h; rw [hf, if_pos h.1]
      · rfl
    rw [b1, b2, h1.1, h2.1]
    by_cases hw : lastWs l = true
    · simp only [hw, true_and]
      constructor
      · split <;> split <;> omega
      · intro heq
        by_cases c1 : L ≤ rS L l + 1
        · rw [if_pos c1] at heq
          by_cases c2 : L + 1 ≤ rS (L + 1) l + 1
          · rw [if_pos c2] at heq
            rw [if_pos (by omega : rS L l + 1 ≠ L)]
            split <;> omega
          · rw [if_neg c2] at heq; omega
        · rw [if_neg c1] at heq
          rw [if_pos (by omega : rS L l + 1 ≠ L)]
          split <;> omega
    · simp only [hw, Bool.false_eq_true, false_and, if_false]
      exact ⟨by omega, fun _ => Nat.le_refl _⟩
  obtain ⟨d, hd⟩ := Nat.exists_eq_add_of_le hb
  rw [hd]
  cases d with
  | zero => rw [Nat.add_zero]; exact Nat.add_le_add_right (hlen.2 (by omega)) _
  | succ d =>
    have e : (nbL (L + 1) l + (d + 1)) * (1 + k) = nbL (L + 1) l * (1 + k) + (d * (1 + k) + (1 + k)) := by rw [Nat.add_mul, Nat.add_mul, Nat.one_mul]
    rw [e]
    have := hlen.1
    generalize nbL (L + 1) l * (1 + k) = A
    generalize d * (1 + k) = B
    omega
theorem nb_zero {L : Nat} (hL : 4 ≤ L) (l : List Nat) : (nbL L l = 0 ↔ (flatL l).length ≤ L) ∧ (nbL L l = 0 → bareL L l = flatL l) := by
  have h1 := line_facts hL l
  have h2 := nS_zero hL l
  have h3 := rS_le hL l
  have hf := flatL_len l
  by_cases hw : lastWs l = true
  · simp only [hw, true_and, if_true] at h1 hf
    constructor
    · rw [h1.1, hf]
      constructor
      · intro h
        split at h
        · omega
        · have := h2.2 (by omega); omega
      · intro h
        have h4 := h2.1.mpr (by omega)
        have := h2.2 h4
        rw [if_neg (by omega)]; omega
    · intro h
      rw [h1.1] at h
      split at h
      · omega
      · rw [h1.2, if_pos (by omega)]
  · simp only [hw, Bool.false_eq_true, false_and, if_false] at h1 hf
    constructor
    · rw [h1.1, hf]; simpa using h2.1
    · intro h
      rw [h1.2]; unfold flatL; rw [if_neg hw]
/-! ### law 3: a writing -/
def breaks (L : Nat) (ls : List (List Nat)) : Nat := (ls.map (nbL L)).sum
def flatSize (L k : Nat) (ls : List (List Nat)) : Nat := (ls.map fun l => (bareL L l).length + nbL L l * (1 + k)).sum
def writ (L : Nat) (e : List Nat) (ls : List (List Nat)) : List Nat := joinL e (ls.flatMap fun l => rowsOf L (pieces l))
theorem writ_soft {L : Nat} (hL : 4 ≤ L) {e : List Nat} (he : EolOk e) {ls : List (List Nat)} (hne : ls ≠ []) :
    (splitL (61 :: e) (writ L e ls)).length = breaks L ls + 1 ∧ (splitL (61 :: e) (writ L e ls)).flatten = joinL e (ls.map (bareL L)) ∧ joinL (61 :: e) (splitL (61 :: e) (writ L e ls)) = writ L e ls := by
  have hs : ∀ rows ∈ ls.map (fun l => rowsOf L (pieces l)), Shaped rows := fun rows hr => by
    obtain ⟨l, _, rfl⟩ := List.mem_map.mp hr
    exact rowsOf_shaped hL (pieces_good l)
  have hn : ls.map (fun l => rowsOf L (pieces l)) ≠ [] := by simpa using hne
  have e1 : writ L e ls = joinL e (ls.map fun l => rowsOf L (pieces l)).flatten := rfl
  rw [e1, split_soft he hn hs, parts_len e hn, parts_flat e hn, parts_join e hn hs, List.map_map, List.map_map]
  exact ⟨Nat.add_comm _ _, rfl, rfl⟩
theorem joinL_length (e : List Nat) : ∀ {ys : List (List Nat)}, ys ≠ [] → (joinL e ys).length + e.length = (ys.map fun y => y.length + e.length).sum
  | [], h => absurd rfl h
  | [x], _ => by simp [joinL]
  | x :: y :: r, _ => by
    have := joinL_length e (ys := y :: r) (by simp)
    rw [joinL_cons e x (by simp), List.map_cons, List.sum_cons, ← this]
    simp only [List.length_append]; omega
theorem sum_map_add {α : Type} (f g : α → Nat) (l : List α) : (l.map fun a => f a + g a).sum = (l.map f).sum + (l.map g).sum := by
  induction l with
  | nil => rfl
  | cons a r ih => simp only [List.map_cons, List.sum_cons, ih]; omega
theorem sum_map_mul {α : Type} (f : α → Nat) (k : Nat) (l : List α) : (l.map fun a => f a * k).sum = (l.map f).sum * k := by
  induction l with
  | nil => simp
  | cons a r ih => simp only [List.map_cons, List.sum_cons, ih, Nat.add_mul]
theorem sum_map_const {α : Type} (k : Nat) (l : List α) : (l.map fun _ => k).sum = l.length * k := by
  induction l with
  | nil => simp
  | cons a r ih => simp only [List.map_cons, List.sum_cons, ih, List.length_cons, Nat.add_mul, Nat.one_mul]; omega
theorem writ_size {L : Nat} (hL : 4 ≤ L) {e : List Nat} (he : EolOk e) {ls : List (List Nat)} (hne : ls ≠ []) : (writ L e ls).length + e.length = flatSize L e.length ls + ls.length * e.length := by
  obtain ⟨h1, h2, h3⟩ := writ_soft hL he hne
  have hp : splitL (61 :: e) (writ L e ls) ≠ [] := by intro e1; rw [e1] at h1; simp at h1
  have h4 := joinL_length (61 :: e) hp
  have h5 := joinL_length e (ys := ls.map (bareL L)) (by simpa using hne)
  rw [h3, List.length_cons, sum_map_add, sum_map_const, h1] at h4
  have h6 : ((splitL (61 :: e) (writ L e ls)).map List.length).sum = (joinL e (ls.map (bareL L))).length := by rw [← h2, List.length_flatten]
  rw [h6] at h4
  rw [List.map_map] at h5
  have h7 : (ls.map ((fun y : List Nat => y.length + e.length) ∘ bareL L)).sum = (ls.map fun l => (bareL L l).length).sum + ls.length * e.length := by
    rw [← sum_map_const e.length ls, ← sum_map_add]; rfl
  rw [h7] at h5
  have h8 : flatSize L e.length ls = (ls.map fun l => (bareL L l).length).sum + breaks L ls * (1 + e.length) := by
    unfold flatSize breaks
    rw [sum_map_add, sum_map_mul]
  rw [h8]
  have h9 : (breaks L ls + 1) * (e.length + 1) = breaks L ls * (1 + e.length) + (e.length + 1) := by rw [Nat.add_mul, Nat.one_mul, Nat.add_comm e.length 1]
  rw [h9] at h4
  generalize breaks L ls * (1 + e.length) = B at *
  generalize ls.length * e.length = C at *
  omega
theorem sum_le {α : Type} {f g : α → Nat} : ∀ {l : List α}, (∀ a ∈ l, f a ≤ g a) → (l.map f).sum ≤ (l.map g).sum
  | [], _ => Nat.le_refl _
  | a :: r, h => by
    have h1 := h a (.head _)
    have h2 := sum_le (l := r) fun b hb => h b (.tail _ hb)
    simp only [List.map_cons, List.sum_cons]; omega
theorem writ_less {L : Nat} (hL : 4 ≤ L) {e : List Nat} (he : EolOk e) {ls : List (List Nat)} (hne : ls ≠ []) : breaks (L + 1) ls ≤ breaks L ls ∧ (writ (L + 1) e ls).length ≤ (writ L e ls).length := by
  have he1 : 1 ≤ e.length := by rcases he with rfl | rfl | rfl <;> decide
  refine ⟨sum_le fun l _ => (line_less hL l he1).1, ?_⟩
  have h1 := writ_size hL he hne
  have h2 := writ_size (L := L + 1) (by omega) he hne
  have h3 : flatSize (L + 1) e.length ls ≤ flatSize L e.length ls := sum_le fun l _ => (line_less hL l he1).2
  omega
theorem sum_zero {l : List Nat} : l.sum = 0 ↔ ∀ a ∈ l, a = 0 := by
  induction l with
  | nil => simp
  | cons a r ih =>
    rw [List.sum_cons]
    constructor
    · intro h b hb
      rcases List.mem_cons.mp hb with rfl | hb
      · omega
      · exact ih.mp (by omega) b hb
    · intro h
      have h1 := h a (.head _)
      have h2 := ih.mpr fun b hb => h b (.tail _ hb)
      omega
theorem breaks_zero {L : Nat} (hL : 4 ≤ L) (ls : List (List Nat)) : breaks L ls = 0 ↔ ∀ l ∈ ls, (flatL l).length ≤ L := by
  unfold breaks
  rw [sum_zero]
  constructor
  · intro h l hl
    exact (nb_zero hL l).1.mp (h _ (List.mem_map_of_mem hl))
  · intro h a ha
    obtain ⟨l, hl, rfl⟩ := List.mem_map.mp ha
    exact (nb_zero hL l).1.mpr (h l hl)
theorem writ_flat {L : Nat} (hL : 4 ≤ L) {e : List Nat} (he : EolOk e) {ls : List (List Nat)} (hne : ls ≠ []) (h : breaks L ls = 0) : writ L e ls = joinL e (ls.map flatL) := by
  obtain ⟨h1, h2, h3⟩ := writ_soft hL he hne
  have hb : ls.map (bareL L) = ls.map flatL := List.map_congr_left fun l hl => (nb_zero hL l).2 ((nb_zero hL l).1.mpr ((breaks_zero hL ls).mp h l hl))
  rw [hb] at h2
  generalize splitL (61 :: e) (writ L e ls) = ps at *
  rw [h] at h1
  match ps, h1 with
  | [p], _ => rw [← h3, ← h2]; simp [joinL]
/-- a quoted blank at a line's end taken for itself -/
def keptL (x : List Nat) : List Nat :=
  if x.drop (x.length - 3) = [61, 50, 48] then x.take (x.length - 3) ++ [32] else if x.drop (x.length - 3) = [61, 48, 57] then x.take (x.length - 3) ++ [9] else x
theorem keptL_quote {X : List Nat} {c : Nat} (hc : c = 32 ∨ c = 9) : keptL (X ++ quoteL c) = X ++ [c] := by
  have hl : (X ++ quoteL c).length - 3 = X.length := by simp [quoteL]
  have hq : quoteL 32 = [61, 50, 48] ∧ quoteL 9 = [61, 48, 57] := by decide
  unfold keptL
  rw [hl, List.drop_left, List.take_left]
  rcases hc with rfl | rfl
  · rw [if_pos hq.1]
  · rw [hq.2, if_neg (by decide), if_pos rfl]
theorem keptL_white {X : List Nat} {c : Nat} (hc : c = 32 ∨ c = 9) : keptL (X ++ [c]) = X ++ [c] := by
  have key : ∀ a b d : Nat, d ≠ c → (X ++ [c]).drop ((X ++ [c]).length - 3) ≠ [a, b, d] := fun a b d hd e => by
    have h1 : ((X ++ [c]).drop ((X ++ [c]).length - 3)).getLast? = some c := by
      rw [List.getLast?_drop, if_neg (by simp; omega)]; simp
    rw [e] at h1
    simp at h1
    exact hd h1
  unfold keptL
  rw [if_neg (key _ _ _ (by omega)), if_neg (key _ _ _ (by omega))]
theorem kept_line {L : Nat} (hL : 4 ≤ L) (l : List Nat) : keptL (bareL L l) = keptL (flatL l) := by
  rw [(line_facts hL l).2]
  split
  · rfl
  · by_cases hw : lastWs l = true
    · obtain ⟨l', c, hc, rfl, e1, e2⟩ := encp_split hw
      rw [e1, e2, keptL_quote hc, keptL_white hc]
    · unfold flatL; rw [if_neg hw]
end Mine
end
section
namespace Mine
/-! ### law 3: the text's lines -/
theorem splitG_one (c : Nat) (cur : List Nat) (d : Nat) (r : List Nat) : splitG [c] 0 cur (d :: r) = if d = c then cur :: splitG [c] 0 [] r else splitG [c] 0 (cur ++ [d]) r := by
  show (if [c].isPrefixOf (d :: r) = true then _ else _) = _
  by_cases h : d = c
  · subst h; rw [if_pos (by simp [List.isPrefixOf]), if_pos rfl]; rfl
  · rw [if_neg (by simp [List.isPrefixOf]; exact fun e => h e.symm), if_neg h]
theorem splitG_ne (y : List Nat) : ∀ (x : List Nat) (k : Nat) (cur : List Nat), splitG y k cur x ≠ []
  | [], k, cur => by cases k <;> simp [splitG]
  | c :: r, k + 1, cur => splitG_ne y r k cur
  | c :: r, 0, cur => by
    show (if _ then _ else _) ≠ []
    split
    · simp
    · exact splitG_ne y r 0 _
theorem joinG_one (c : Nat) (z : List Nat) : ∀ (x cur : List Nat), joinL z (splitG [c] 0 cur x) = cur ++ x.flatMap (fun d => if d = c then z else [d])
  | [], cur => by simp [splitG, joinL]
  | d :: r, cur => by
    rw [splitG_one]
    by_cases h : d = c
    · rw [if_pos h, joinL_cons z cur (splitG_ne _ _ _ _), joinG_one c z r []]; simp [h]
    · rw [if_neg h, joinG_one c z r]; simp [h]
def crlf : List Nat → List Nat
  | [] => []
  | [c] => [c]
  | c :: d :: r => if c = 13 ∧ d = 10 then 10 :: crlf r else c :: crlf (d :: r)
theorem crlf_hit (r : List Nat) : crlf (13 :: 10 :: r) = 10 :: crlf r := by simp [crlf]
theorem crlf_miss {c : Nat} {r : List Nat} (h : ¬ (c = 13 ∧ r.head? = some 10)) : crlf (c :: r) = c :: crlf r := by
  cases r with
  | nil => rfl
  | cons d r =>
    show (if c = 13 ∧ d = 10 then _ else _) = _
    rw [if_neg (by simpa using h)]
theorem splitG_crlf_hit (cur r : List Nat) : splitG [13, 10] 0 cur (13 :: 10 :: r) = cur :: splitG [13, 10] 0 [] r := by
  show (if [13, 10].isPrefixOf (13 :: 10 :: r) = true then _ else _) = _
  rw [if_pos (by simp [List.isPrefixOf])]; rfl
theorem splitG_crlf_miss {c : Nat} {cur r : List Nat} (h : ¬ (c = 13 ∧ r.head? = some 10)) : splitG [13, 10] 0 cur (c :: r) = splitG [13, 10] 0 (cur ++ [c]) r := by
  show (if [13, 10].isPrefixOf (c :: r) = true then _ else _) = _
  rw [if_neg]
  cases r with
  | nil => simp [List.isPrefixOf]
  | cons d r =>
    simp only [List.isPrefixOf, Bool.and_true, Bool.and_eq_true, beq_iff_eq]
    rintro ⟨rfl, rfl⟩
    exact h ⟨rfl, rfl⟩
theorem joinG_crlf : ∀ (n : Nat) (x cur : List Nat), x.length ≤ n → joinL [10] (splitG [13, 10] 0 cur x) = cur ++ crlf x
  | _, [], cur, _ => by simp [splitG, joinL, crlf]
  | 0, c :: r, cur, h => by simp at h
  | n + 1, c :: r, cur, h => by
    rw [List.length_cons] at h
    by_cases hc : c = 13 ∧ r.head? = some 10
    · obtain ⟨rfl, hr⟩ := hc
      cases r with
      | nil => simp at hr
      | cons d r =>
        have : d = 10 := by simpa using hr
        subst this
        rw [List.length_cons] at h
        rw [splitG_crlf_hit, joinL_cons _ _ (splitG_ne _ _ _ _), joinG_crlf n r [] (by omega), crlf_hit]; simp
    · rw [splitG_crlf_miss hc, joinG_crlf n r _ (by omega), crlf_miss hc]; simp
def cr10 (d : Nat) : Nat := if d = 13 then 10 else d
def norm (t : List Nat) : List Nat := (crlf t).map cr10
theorem norm_eq (t : List Nat) : joinL [10] (splitL [13] (joinL [10] (splitL [13, 10] t))) = norm t := by
  unfold splitL
  rw [joinG_crlf _ t [] (Nat.le_refl _), List.nil_append, joinG_one, List.nil_append]
  unfold norm
  generalize crlf t = x
  induction x with
  | nil => rfl
  | cons d r ih =>
    rw [List.flatMap_cons, ih, List.map_cons]
    unfold cr10
    split <;> simp_all
theorem lines_fold : ∀ (n : Nat) (t : List Nat) (rows : List (List Nat)) (row : List Nat) (b : Bool), t.length ≤ n → (∀ c ∈ t, c < 256) → (b = true → t.head? ≠ some 10) →
    rows ++ splitG [10] 0 row (norm t) = (t.foldl (lstep isBrk) (rows, row, b)).1 ++ [(t.foldl (lstep isBrk) (rows, row, b)).2.1]
  | _, [], rows, row, b, _, _, _ => by simp [norm, crlf, splitG]
  | 0, c :: r, rows, row, b, h, _, _ => by simp at h
  | n + 1, c :: r, rows, row, b, h, ho, hb => by
    rw [List.length_cons] at h
    by_cases hc : c = 13 ∧ r.head? = some 10
    · obtain ⟨rfl, hr⟩ := hc
      cases r with
      | nil => simp at hr
      | cons d r =>
        have : d = 10 := by simpa using hr
        subst this
        rw [List.length_cons] at h
        have e1 : norm (13 :: 10 :: r) = 10 :: norm r := by unfold norm; rw [crlf_hit]; rfl
        rw [e1, splitG_one, if_pos rfl]
        have e2 : (13 :: 10 :: r).foldl (lstep isBrk) (rows, row, b) = r.foldl (lstep isBrk) (rows ++ [row], [], false) := by
          rw [List.foldl_cons, List.foldl_cons]; congr 1; simp [lstep, isBrk]
        rw [e2, ← lines_fold n r (rows ++ [row]) [] false (by omega) (fun c hc => ho c (.tail _ (.tail _ hc))) (fun h => nomatch h)]
        simp
    · have e1 : norm (c :: r) = cr10 c :: norm r := by unfold norm; rw [crlf_miss hc]; rfl
      have hc256 := ho c (.head _)
      have hbr := brk_octet hc256
      have hb0 : (b && c == 10) = false := by
        cases b with
        | false => rfl
        | true => have := hb rfl; simpa using this
      rw [e1, splitG_one, List.foldl_cons]
      by_cases hn : c = 10 ∨ c = 13
      · have hB : isBrk c = true := by rw [hbr]; simpa [isNl] using hn
        have e2 : lstep isBrk (rows, row, b) c = (rows ++ [row], [], c == 13) := by
          unfold lstep
          simp only [hb0, hB, Bool.false_eq_true, if_false, if_true]
        rw [if_pos (by unfold cr10; split <;> omega), e2, ← lines_fold n r (rows ++ [row]) [] (c == 13) (by omega) (fun c hc => ho c (.tail _ hc)) (fun h1 h2 => hc ⟨by simpa using h1, h2⟩)]
        simp
      · have hB : isBrk c = false := by rw [hbr, isNl, Bool.or_eq_false_iff, beq_eq_false_iff_ne, beq_eq_false_iff_ne]; omega
        have e2 : lstep isBrk (rows, row, b) c = (rows, row ++ [c], false) := by
          unfold lstep
          simp only [hb0, hB, Bool.false_eq_true, if_false]
        have e3 : cr10 c = c := by unfold cr10; rw [if_neg (by omega)]
        rw [e3, if_neg (by omega), e2, ← lines_fold n r rows (row ++ [c]) false (by omega) (fun c hc => ho c (.tail _ hc)) (fun h => nomatch h)]
/-- the lines that the law takes are the rows -/
theorem seen_of {t : List Nat} (ho : ∀ c ∈ t, c < 256) : ∃ s, Seen t s := by
  have key : ∀ (r t : List Nat) (s : LSt), Seen t s → (∀ c ∈ r, c < 256) → ∃ s', Seen (t ++ r) s' := by
    intro r
    induction r with
    | nil => intro t s h _; exact ⟨s, by rw [List.append_nil]; exact h⟩
    | cons c r ih =>
      intro t s h hr
      have := ih (t ++ [c]) _ (h.snoc (hr c (.head _))) fun d hd => hr d (.tail _ hd)
      rw [List.append_assoc] at this
      exact this
  exact key t [] _ Seen.nil ho
theorem lines_rows {t : List Nat} (ho : ∀ c ∈ t, c < 256) : splitL [10] (joinL [10] (splitL [13] (joinL [10] (splitL [13, 10] t)))) = rowsN t := by
  rw [norm_eq]
  have h := lines_fold _ t [] [] false (Nat.le_refl _) ho (fun h => nomatch h)
  rw [List.nil_append] at h
  unfold splitL
  rw [h]
  obtain ⟨s, hs⟩ := seen_of ho
  show (lfold isBrk t).1 ++ [(lfold isBrk t).2.1] = _
  unfold rowsN rowsL linesL lend
  rw [← hs.is]
  by_cases hr : s.2.1 = []
  · rw [if_pos hr, hr]
    cases hl : lastNl t with
    | true =>
      simp only [if_true]
      rw [if_neg (by simp)]
    | false =>
      have ht : t = [] := Classical.byContradiction fun hne => hs.no hne hl hr
      subst ht
      have : s = ([], [], false) := hs.is
      subst this
      simp
  · rw [if_neg hr]
    have hl : lastNl t = false := by
      cases hl : lastNl t with
      | false => rfl
      | true => exact absurd (hs.nl hl) hr
    rw [hl]
    simp
theorem benc_writ {L : Nat} (hL : 4 ≤ L) (e t : List Nat) : benc L e t = writ L e (rowsN t) := benc_rowsN hL e t
theorem bare_noNl {L : Nat} (hL : 4 ≤ L) (l : List Nat) : NoNl (bareL L l) := by
  have h := rowsOf_noNl hL (pieces_good l)
  have hs := (rowsOf_shaped hL (pieces_good l)).is
  unfold bareL bare
  rw [hs] at h
  intro c hc
  rcases List.mem_append.mp hc with hc | hc
  · obtain ⟨s, h1, h2⟩ := List.mem_flatten.mp hc
    exact h (s ++ [61]) (List.mem_append_left _ (List.mem_map_of_mem h1)) c (List.mem_append_left _ h2)
  · exact h _ (List.mem_append_right _ (List.mem_singleton.mpr rfl)) c hc
/-- soft breaks taken off, split at the line ends: the lines -/
theorem stripped {L : Nat} (hL : 4 ≤ L) {e : List Nat} (he : EolOk e) {ls : List (List Nat)} (hne : ls ≠ []) : splitL e (joinL [] (splitL (61 :: e) (writ L e ls))) = ls.map (bareL L) := by
  obtain ⟨_, h2, _⟩ := writ_soft hL he hne
  have e1 : ∀ ys : List (List Nat), joinL [] ys = ys.flatten := fun ys => by
    induction ys with
    | nil => rfl
    | cons x r ih =>
      cases r with
      | nil => simp [joinL]
      | cons y r => rw [joinL_cons [] x (by simp), ih]; simp
  rw [e1, h2]
  refine split_rows he (by simpa using hne) fun r hr => ?_
  obtain ⟨l, _, rfl⟩ := List.mem_map.mp hr
  exact bare_noNl hL l
end Mine
end
section
namespace Mine
/-! ### law 2: the texts -/
def grow (size : Nat) (sg ts : List (List Nat)) : List (List Nat) := ts ++ (ts.filter fun t => t.length == size).flatMap fun t => sg.map (t ++ ·)
def texts85 (a b c d : Nat) : List (List Nat) := grow 2 [[a], [b], [c], [d]] (grow 1 [[a], [b], [c], [d]] (grow 0 [[a], [b], [c], [d]] [[]]))
theorem texts85_len (a b c d : Nat) : (texts85 a b c d).length = 85 := by rfl
theorem grow_ok {sg ts : List (List Nat)} {size : Nat} {P : Nat → Prop} (hs : ∀ s ∈ sg, s.length = 1 ∧ ∀ c ∈ s, P c) (ht : ∀ t ∈ ts, t.length ≤ size ∧ ∀ c ∈ t, P c) : ∀ t ∈ grow size sg ts, t.length ≤ size + 1 ∧ ∀ c ∈ t, P c := by
  intro t h
  rcases List.mem_append.mp h with h | h
  · have := ht t h; exact ⟨by omega, this.2⟩
  · obtain ⟨u, hu, h⟩ := List.mem_flatMap.mp h
    obtain ⟨s, hs', rfl⟩ := List.mem_map.mp h
    have h1 := ht u (List.mem_filter.mp hu).1
    have h2 := hs s hs'
    refine ⟨by rw [List.length_append]; omega, fun c hc => ?_⟩
    rcases List.mem_append.mp hc with hc | hc
    · exact h1.2 c hc
    · exact h2.2 c hc
theorem texts85_ok {a b c d : Nat} {P : Nat → Prop} (ha : P a) (hb : P b) (hc : P c) (hd : P d) : ∀ t ∈ texts85 a b c d, t.length ≤ 3 ∧ ∀ x ∈ t, P x := by
  have hs : ∀ s ∈ ([[a], [b], [c], [d]] : List (List Nat)), s.length = 1 ∧ ∀ x ∈ s, P x := by
    intro s h
    simp only [List.mem_cons, List.not_mem_nil, or_false] at h
    rcases h with rfl | rfl | rfl | rfl <;> exact ⟨rfl, fun x hx => by rw [List.mem_singleton.mp hx]; assumption⟩
  exact grow_ok hs (grow_ok hs (grow_ok hs (by intro t h; rw [List.mem_singleton.mp h]; exact ⟨Nat.le_refl _, fun _ h => nomatch h⟩)))
theorem texts85_mem (a b c d : Nat) : [] ∈ texts85 a b c d ∧ [a] ∈ texts85 a b c d ∧ [a, a] ∈ texts85 a b c d ∧ [a, a, a] ∈ texts85 a b c d := by
  have g0 : ([] : List Nat) ∈ ([[]] : List (List Nat)) := List.mem_singleton.mpr rfl
  have up : ∀ {n : Nat} {sg ts : List (List Nat)} {t : List Nat}, t ∈ ts → t ∈ grow n sg ts := fun h => List.mem_append_left _ h
  have nx : ∀ {n : Nat} {ts : List (List Nat)} {t : List Nat}, t ∈ ts → t.length = n → t ++ [a] ∈ grow n [[a], [b], [c], [d]] ts := fun h hl =>
    List.mem_append_right _ (List.mem_flatMap.mpr ⟨_, List.mem_filter.mpr ⟨h, by simpa using hl⟩, List.mem_map.mpr ⟨[a], .head _, rfl⟩⟩)
  have h1 : [a] ∈ grow 0 [[a], [b], [c], [d]] [[]] := nx (t := []) g0 rfl
  have h2 : [a, a] ∈ grow 1 [[a], [b], [c], [d]] (grow 0 [[a], [b], [c], [d]] [[]]) := nx (t := [a]) h1 rfl
  exact ⟨up (up (up g0)), up (up h1), up h2, nx (t := [a, a]) h2 rfl⟩
theorem keys4 {a : Nat} (h : a = 13 ∨ a = 10) : (keyL [] = [] ∧ keyL [a] = [57344]) ∧ keyL [a, a] = [57344, 57344] ∧ keyL [a, a, a] = [57344, 57344, 57344] := by
  rcases h with rfl | rfl <;> decide
end Mine
end
section
open PySem PySem.W PyProof.Rows PySem.Calls
set_option maxRecDepth 100000
namespace Mine
abbrev Led := List (Addr × Obj)
/-- what a call of f on vs comes to, in every frame and over every ledger: pre told of the ledger, out of what is added to it -/
def Cut (prog : Program) (w : World) (K : Frag) (f : Addr) (dep : Nat) (vs : List Value) (pre : Led → Prop) (out : Led → Value → Prop) : Prop :=
  ∀ (p : Program) (loose : List Str) (mean : ExcName → Option Value) (mg mb : Str → Option Value) (dp un : Nat) (gd : Option (List Code)) (cn : Str) (cs : Scope) (a : Addr) (ccd : Value) (cl : List (Str × Addr)) (outer : List Env) (A₀ : Around) (base h₀ : Heap) (L : Addr) (m : Str → Option Value)
    (news : Led) (s : Shared) (Q E : Value → Shared → Prop),
    Below A₀ base outer h₀ → Fr h₀ L s.heap m → K.In h₀ → News h₀ L s.heap news → Top p loose mean mg mb h₀ → cs.kind = .function → pre news → dp + dep < recursionLimit → un + 8 * dep < cLine →
    (∀ v added h' tk', Fr h₀ L h' m → News h₀ L h' (added ++ news) → (∀ q ∈ news, ∀ p ∈ added, q.1 < p.1) → out added v → Q v { s with heap := h', toks := tk' }) →
    wpAny (model prog w) (ktrTop dp un gd cn cs L a ccd cl outer) (call (.ref f) vs) Q E s
theorem cut_use {prog : Program} {w : World} {K : Frag} {f : Addr} {dep : Nat} {vs : List Value} {pre : Led → Prop} {out : Led → Value → Prop} (C : Cut prog w K f dep vs pre out)
    {p : Program} {loose : List Str} {mean : ExcName → Option Value} {mg mb : Str → Option Value} {dp un : Nat} {gd : Option (List Code)} {cn : Str} {cs : Scope} {a : Addr} {ccd : Value} {cl : List (Str × Addr)} {outer : List Env} {A₀ : Around} {base h₀ : Heap} {L : Addr} {m : Str → Option Value}
    {news : Led} {hp : Heap} {gn : Array GenState} {dr : Drawn} {tk : Nat} {os : OsState} {Q E : Value → Shared → Prop}
    (B : Below A₀ base outer h₀) (F : Fr h₀ L hp m) (X : K.In h₀) (N : News h₀ L hp news) (T : Top p loose mean mg mb h₀) (hk : cs.kind = .function) (hpre : pre news) (hd : dp + dep < recursionLimit) (hu : un + 8 * dep < cLine)
    (ret : ∀ v added h' tk', Fr h₀ L h' m → News h₀ L h' (added ++ news) → (∀ q ∈ news, ∀ p ∈ added, q.1 < p.1) → out added v → Q v ⟨h', gn, dr, tk', os⟩) :
    wpAny (model prog w) (ktrTop dp un gd cn cs L a ccd cl outer) (call (.ref f) vs) Q E ⟨hp, gn, dr, tk, os⟩ := C _ _ _ _ _ _ _ _ _ _ _ _ _ _ _ _ _ _ _ _ _ _ _ B F X N T hk hpre hd hu ret
theorem cut_useS {prog : Program} {w : World} {K : Frag} {f : Addr} {dep : Nat} {vs : List Value} {pre : Led → Prop} {x : Str} (C : Cut prog w K f dep vs pre (fun added v => added = [] ∧ ∃ t, v = .str x t))
    {p : Program} {loose : List Str} {mean : ExcName → Option Value} {mg mb : Str → Option Value} {dp un : Nat} {gd : Option (List Code)} {cn : Str} {cs : Scope} {a : Addr} {ccd : Value} {cl : List (Str × Addr)} {outer : List Env} {A₀ : Around} {base h₀ : Heap} {L : Addr} {m : Str → Option Value}
    {news : Led} {hp : Heap} {gn : Array GenState} {dr : Drawn} {tk : Nat} {os : OsState} {Q E : Value → Shared → Prop}
    (B : Below A₀ base outer h₀) (F : Fr h₀ L hp m) (X : K.In h₀) (N : News h₀ L hp news) (T : Top p loose mean mg mb h₀) (hk : cs.kind = .function) (hpre : pre news) (hd : dp + dep < recursionLimit) (hu : un + 8 * dep < cLine)
    (ret : ∀ t h' tk', Fr h₀ L h' m → News h₀ L h' news → Q (.str x t) ⟨h', gn, dr, tk', os⟩) :
    wpAny (model prog w) (ktrTop dp un gd cn cs L a ccd cl outer) (call (.ref f) vs) Q E ⟨hp, gn, dr, tk, os⟩ := cut_use C B F X N T hk hpre hd hu fun v added h' tk' F' N' _ o => by
  obtain ⟨rfl, t, rfl⟩ := o
  exact ret t h' tk' F' N'
/-- a str comes back, nothing new is kept -/
def OutS (x : Str) (added : Led) (v : Value) : Prop := added = [] ∧ ∃ t, v = .str x t
def OutI (x : Int) (added : Led) (v : Value) : Prop := added = [] ∧ ∃ t, v = .int x t
def OutB (x : Bool) (added : Led) (v : Value) : Prop := added = [] ∧ v = .bool x
theorem retS {h₀ h' : Heap} {L : Addr} {m : Str → Option Value} {news : Led} {s : Shared} {Q : Value → Shared → Prop} {x y : Str} {t : Tok} {tk' : Nat}
    (hret : ∀ v added h' tk', Fr h₀ L h' m → News h₀ L h' (added ++ news) → (∀ q ∈ news, ∀ p ∈ added, q.1 < p.1) → OutS x added v → Q v { s with heap := h', toks := tk' }) (e : y = x) (F : Fr h₀ L h' m) (N : News h₀ L h' news) : Q (.str y t) { s with heap := h', toks := tk' } :=
  hret _ [] h' tk' F N (fun _ _ _ h => nomatch h) ⟨rfl, t, by rw [e]⟩
theorem retI {h₀ h' : Heap} {L : Addr} {m : Str → Option Value} {news : Led} {s : Shared} {Q : Value → Shared → Prop} {x y : Int} {t : Tok} {tk' : Nat}
    (hret : ∀ v added h' tk', Fr h₀ L h' m → News h₀ L h' (added ++ news) → (∀ q ∈ news, ∀ p ∈ added, q.1 < p.1) → OutI x added v → Q v { s with heap := h', toks := tk' }) (e : y = x) (F : Fr h₀ L h' m) (N : News h₀ L h' news) : Q (.int y t) { s with heap := h', toks := tk' } :=
  hret _ [] h' tk' F N (fun _ _ _ h => nomatch h) ⟨rfl, t, by rw [e]⟩
theorem retB {h₀ h' : Heap} {L : Addr} {m : Str → Option Value} {news : Led} {s : Shared} {Q : Value → Shared → Prop} {x y : Bool} {tk' : Nat}
    (hret : ∀ v added h' tk', Fr h₀ L h' m → News h₀ L h' (added ++ news) → (∀ q ∈ news, ∀ p ∈ added, q.1 < p.1) → OutB x added v → Q v { s with heap := h', toks := tk' }) (e : y = x) (F : Fr h₀ L h' m) (N : News h₀ L h' news) : Q (.bool y) { s with heap := h', toks := tk' } :=
  hret _ [] h' tk' F N (fun _ _ _ h => nomatch h) ⟨rfl, by rw [e]⟩
end Mine
end
section
open PySem PySem.W PyProof.Rows PySem.Calls
set_option maxRecDepth 100000
set_option maxHeartbeats 1000000
namespace Mine
open PySem.Builtin PySem.Builtin.Str
abbrev S (l : List Nat) : PySem.Str := ⟨l.toArray⟩
section
variable {prog : Program} {w : World} {A : Around} {E : Value → Shared → Prop} {s : Shared} {hp : Heap} {gn : Array GenState} {dr : Drawn} {tk : Nat} {os : OsState}
theorem tableLookup_hit {a : Addr} {items : Array Value} {c : Nat} {y : PySem.Str} {t : Tok} {Q : Mapped → Shared → Prop} (hl : s.heap.IsList a items) (hc : c < 2 ^ 63) (hx : items[c]? = some (.str y t)) (h : Q (.text y) { s with toks := s.toks + 1 }) :
    wpAny (model prog w) A (tableLookup (.ref a) c) Q E s := by
  unfold tableLookup
  refine wpAny_bind (wpAny_attempt (wpAny_bind (wpAny_mkInt ?_)))
  refine wpAny_getItem_list (s := { s with toks := s.toks + 1 }) hl (by omega) (by omega) (by simpa using hx) ?_
  dsimp only
  refine wpAny_bind (wpAny_pure ?_)
  dsimp only
  refine wpAny_bind (wpAny_pure ?_)
  exact wpAny_pure h

/-- a table that gives for each octet what tr gives -/
def TableIs (items : Array Value) : Prop := ∀ c, c < 256 → ∃ t, items[c]? = some (.str (S (tr c)) t)

theorem meets_translate {a : Addr} {items : Array Value} (hT : TableIs items) {x : PySem.Str} (t : Tok) (hx : ∀ c ∈ x.cps.toList, c < 256) (hne : x.length ≠ 0) (hsz : x.length ≤ 100000) :
    Meets («str.translate» ⟨[.str x t, .ref a], []⟩) (fun _ R s => s.heap.IsList a items ∧ ∀ t' k, R (.ok (.ret (.str (S (enc x.cps.toList)) t'))) { s with toks := k }) :=
  .of_wp fun prog w A R s h => by
    obtain ⟨hp, g, d, tk, os⟩ := s; obtain ⟨hl, h⟩ := h
    unfold «str.translate»
    refine wpAny_bind (wpAny_of_eq (a := (.str x t, x, .ref a)) rfl ?_)
    dsimp only
    rw [if_neg (by simpa using hne)]
    have hbig : ∀ n, n ≤ 300000 → tooLong n = false := fun n hn => by
      have e : sizeLine = 16777216 := rfl
      unfold tooLong; rw [e]; exact decide_eq_false (by omega)
    refine wpAny_bind (MeetsSeq2.wpAny_forIn_array _ (fun rest b s' => ∃ done, x.cps.toList = done ++ rest ∧ (b.1.reverse.map (·.cps.toList)).flatten = enc done ∧ b.2.1 = (enc done).length ∧
      (∀ c d, b.2.2.2.1.lookup c = some d → ∃ e, d = some e ∧ tr c = [e]) ∧ b.2.2.2.2 = false ∧ ∃ k, s' = ⟨hp, g, d, k, os⟩) _ ?_ ?_ _ _ ⟨[], rfl, rfl, rfl, (fun _ _ h => by cases h), rfl, tk, rfl⟩)
    · rintro c rest ⟨ps, tot, fast, known, ad⟩ s' ⟨done, hd, hps, htot, hkn, had, k, rfl⟩
      simp only at hps htot hkn had
      subst had
      have hc : c < 256 := hx c (by rw [hd]; simp)
      obtain ⟨tc, hit⟩ := hT c hc
      have hlen : done.length + (rest.length + 1) = x.length := by
        have := congrArg List.length hd
        rw [List.length_append, List.length_cons, Array.length_toList] at this
        exact this.symm
      have htr : ∀ c, (tr c).length ≤ 3 := fun c => by unfold tr piece; (repeat' split) <;> simp
      have henc : ∀ l : List Nat, (enc l).length ≤ 3 * l.length := fun l => by
        induction l with
        | nil => simp [enc]
        | cons a r ih => have := htr a; simp only [enc, List.flatMap_cons, List.length_append, List.length_cons] at ih ⊢; omega
      have he1 := henc done
      dsimp only
      rw [if_neg (by rw [hbig _ (by omega)]; exact Bool.false_ne_true)]
      have hsnoc : enc (done ++ [c]) = enc done ++ tr c := by simp [enc]
      -- what one more piece makes of it
      have next : ∀ (y : PySem.Str) (fast' : Bool) (known' : List (Nat × Option Nat)) (n : Nat) (k' : Nat), y.cps.toList = tr c → n = tot + (tr c).length → (∀ c d, known'.lookup c = some d → ∃ e, d = some e ∧ tr c = [e]) →
          ∃ done', x.cps.toList = done' ++ rest ∧ ((y :: ps).reverse.map (·.cps.toList)).flatten = enc done' ∧ n = (enc done').length ∧ (∀ c d, known'.lookup c = some d → ∃ e, d = some e ∧ tr c = [e]) ∧ false = false ∧ ∃ k, (⟨hp, g, d, k', os⟩ : Shared) = ⟨hp, g, d, k, os⟩ := by
        intro y fast' known' n k' hy hn hk
        refine ⟨done ++ [c], by rw [hd]; simp, ?_, ?_, hk, rfl, k', rfl⟩
        · rw [hsnoc, List.reverse_cons, List.map_append, List.flatten_append, hps]; simp [hy]
        · rw [hsnoc, List.length_append, hn, htot]
      have hfit : c < 2 ^ 63 := by omega
      have look : ∀ {Q : Mapped → Shared → Prop} (k : Nat), Q (.text (S (tr c))) ⟨hp, g, d, k + 1, os⟩ → wpAny (model prog w) A.in1 (tableLookup (.ref a) c) Q (fun e s' => R (.error e) s') ⟨hp, g, d, k, os⟩ :=
        fun k h => tableLookup_hit (s := ⟨hp, g, d, k, os⟩) hl hfit hit h
      cases fast with
      | false =>
        simp only [Bool.false_eq_true, if_false]
        refine wpAny_bind (look k ?_)
        exact wpAny_pure (next (S (tr c)) true _ _ _ (by simp) (by simp [PySem.Str.length]) hkn)
      | true =>
        simp only [if_true]
        cases hk : known.lookup c with
        | some d0 =>
          obtain ⟨e, rfl, hte⟩ := hkn c d0 hk
          refine wpAny_bind (wpAny_pure ?_)
          exact wpAny_pure (next ⟨#[e]⟩ true _ _ _ (by rw [hte]) (by rw [hte]; rfl) hkn)
        | none =>
          refine wpAny_bind (look k ?_)
          dsimp only
          cases hh : ((S (tr c)).length == 1 && (S (tr c)).cps.all fun x => decide (x < 128)) with
          | true =>
            simp only [Bool.and_eq_true, beq_iff_eq, PySem.Str.length, List.size_toArray] at hh
            obtain ⟨e, hte⟩ := List.length_eq_one_iff.mp hh.1
            have e0 : (S (tr c)).cps[0]? = some e := by rw [hte]; rfl
            simp only [if_true, e0]
            refine wpAny_bind (wpAny_pure ?_)
            refine wpAny_pure (next ⟨#[e]⟩ true _ _ _ (by rw [hte]) (by rw [hte]; rfl) fun c' d' h' => ?_)
            rw [List.lookup_cons] at h'
            split at h'
            · rename_i hq
              rw [beq_iff_eq] at hq
              subst hq
              exact ⟨e, (Option.some.inj h').symm, hte⟩
            · exact hkn c' d' h'
          | false =>
            simp only [Bool.false_eq_true, if_false]
            refine wpAny_bind (wpAny_pure ?_)
            dsimp only
            refine wpAny_bind (wpAny_rule ?_)
            refine wpAny_bind (look (k + 1) ?_)
            exact wpAny_pure (next (S (tr c)) true _ _ _ (by simp) (by simp [PySem.Str.length]) hkn)
    · rintro ⟨ps, tot, fast, known, ad⟩ s' ⟨done, hd, hps, htot, hkn, had, k, rfl⟩
      simp only at hps htot hkn had
      rw [List.append_nil] at hd
      have hlen : done.length = x.length := by rw [← hd, Array.length_toList]; rfl
      have htr : ∀ c, (tr c).length ≤ 3 := fun c => by unfold tr piece; (repeat' split) <;> simp
      have henc : ∀ l : List Nat, (enc l).length ≤ 3 * l.length := fun l => by
        induction l with
        | nil => simp [enc]
        | cons a r ih => have := htr a; simp only [enc, List.flatMap_cons, List.length_append, List.length_cons] at ih ⊢; omega
      have he1 := henc done
      dsimp only
      rw [if_neg (by rw [hbig _ (by omega)]; exact Bool.false_ne_true)]
      have hfold : ∀ (l : List PySem.Str) (acc : Array Nat), (l.foldl (fun acc p => acc ++ p.cps) acc).toList = acc.toList ++ (l.map (·.cps.toList)).flatten := by
        intro l
        induction l with
        | nil => simp
        | cons a r ih => intro acc; rw [List.foldl_cons, ih]; simp
      have hres : (⟨ps.reverse.foldl (fun acc p => acc ++ p.cps) #[]⟩ : PySem.Str) = S (enc x.cps.toList) := by
        refine congrArg PySem.Str.mk ?_
        rw [← Array.toList_inj, hfold, hps, hd]; simp
      rw [hres]
      unfold retStr
      refine wpAny_bind (wpAny_mkStr ?_ ?_)
      · exact wpAny_pure ⟨_, rfl, h _ _⟩
      · show (enc x.cps.toList).toArray.size ≤ sizeLine
        have e : sizeLine = 16777216 := rfl
        rw [List.size_toArray, hd, e]; omega

theorem call_translate {a : Addr} {items : Array Value} {x : PySem.Str} {t : Tok} {Q : Value → Shared → Prop} (hT : TableIs items) (hl : hp.IsList a items) (hx : ∀ c ∈ x.cps.toList, c < 256) (hne : x.length ≠ 0) (hsz : x.length ≤ 100000)
    (h : ∀ t' k, Q (.str (S (enc x.cps.toList)) t') ⟨hp, gn, dr, k, os⟩) : wpAny (model prog w) A (call (.builtin "str.translate") [.str x t, .ref a]) Q E ⟨hp, gn, dr, tk, os⟩ :=
  call_meets F.slot_str_translate (typeIs_str _ _ _) F.entry_str_translate (F.args_str_translate_2 _ _) (meets_translate hT t hx hne hsz) ⟨hl, h⟩
end
end Mine
end
section
open PySem PySem.W PyProof.Rows PySem.Calls
set_option linter.unusedVariables false
set_option maxRecDepth 100000
set_option maxHeartbeats 1000000
namespace Mine
open PySem.Builtin PySem.Builtin.Str
section
variable {prog : Program} {w : World} {A : Around} {E : Value → Shared → Prop}
theorem sub_index_lookup : isSubtype (.type "IndexError") (.type "LookupError") = pure true := by rw [isSubtype_type]; kernel_rfl
/-- a sign that the table does not reach -/
theorem tableLookup_out {s : Shared} {a : Addr} {items : Array Value} {c : Nat} {Q : Mapped → Shared → Prop} (hA : A.handled = none) (hl : s.heap.IsList a items) (hc : items.size ≤ c) (hfit : c < 2 ^ 63) (h : ∀ h' tk, (∀ b o, s.heap.get? b = some o → h'.get? b = some o) → Q .keep { s with heap := h', toks := tk }) :
    wpAny (model prog w) A (tableLookup (.ref a) c) Q E s := by
  unfold tableLookup
  refine wpAny_bind (wpAny_attempt (wpAny_bind (wpAny_mkInt ?_)))
  refine wpAny_getItem_list_out (s := { s with toks := s.toks + 1 }) hA hl (.inr (by omega)) (by omega) (by omega) (fun h' tk e ne => ?_)
  dsimp only
  obtain ⟨ob, t, he, hcl, _⟩ := ne.there
  refine wpAny_bind (wpAny_isInstance (T := "IndexError") ⟨ob, he, hcl⟩ sub_index_lookup ?_)
  simp only [if_true]
  refine wpAny_bind (wpAny_rule ?_)
  exact wpAny_pure (h h' tk ne.keeps)
theorem isList_keeps {h h' : Heap} {a : Addr} {items : Array Value} (hl : h.IsList a items) (k : ∀ b o, h.get? b = some o → h'.get? b = some o) : h'.IsList a items := by
  obtain ⟨o, ho, r⟩ := hl
  exact ⟨o, k _ _ ho, r⟩
theorem tr_len (c : Nat) : (tr c).length ≤ 3 := by unfold tr piece; (repeat' split) <;> simp
theorem enc_len3 (l : List Nat) : (enc l).length ≤ 3 * l.length := by
  induction l with
  | nil => simp [enc]
  | cons a r ih => have := tr_len a; simp only [enc, List.flatMap_cons, List.length_append, List.length_cons] at ih ⊢; omega
theorem tr_far {c : Nat} (h : 256 ≤ c) : tr c = [c] := by
  unfold tr piece
  rw [if_neg (by simp; omega), if_pos (by simp; omega)]
theorem wp_translate {s : Shared} {a : Addr} {items : Array Value} (hA : A.handled = none) (hT : TableIs items) (hn : items.size = 256) {x : PySem.Str} (t : Tok) (hx : ∀ c ∈ x.cps.toList, c < 2 ^ 62) (hne : x.length ≠ 0) (hsz : x.length ≤ 100000) (hl : s.heap.IsList a items) {Q : Value → Shared → Prop}
    (hQ : ∀ h' t' k, (∀ b o, s.heap.get? b = some o → h'.get? b = some o) → Q (.str (S (enc x.cps.toList)) t') { s with heap := h', toks := k }) :
    wpAny (model prog w) A.in1 («str.translate» ⟨[.str x t, .ref a], []⟩) (fun fin s' => ∃ v, fin = .done (.ret v) ∧ Q v s') E s := by
  have hA1 : A.in1.handled = none := hA
  obtain ⟨hp, g, d, tk, os⟩ := s
  unfold «str.translate»
  refine wpAny_bind (wpAny_of_eq (a := (.str x t, x, .ref a)) rfl ?_)
  dsimp only
  rw [if_neg (by simpa using hne)]
  have hbig : ∀ n, n ≤ 300000 → tooLong n = false := fun n hn => by
    have e : sizeLine = 16777216 := rfl
    unfold tooLong; rw [e]; exact decide_eq_false (by omega)
  refine wpAny_bind (MeetsSeq2.wpAny_forIn_array _ (fun rest b s' => ∃ done, x.cps.toList = done ++ rest ∧ (b.1.reverse.map (·.cps.toList)).flatten = enc done ∧ b.2.1 = (enc done).length ∧
    (∀ c d, b.2.2.2.1.lookup c = some d → ∃ e, d = some e ∧ tr c = [e]) ∧ b.2.2.2.2 = false ∧ ∃ h k, s' = ⟨h, g, d, k, os⟩ ∧ ∀ b o, hp.get? b = some o → h.get? b = some o) _ ?_ ?_ _ _ ⟨[], rfl, rfl, rfl, (fun _ _ h => by cases h), rfl, hp, tk, rfl, fun _ _ h => h⟩)
  · rintro c rest ⟨ps, tot, fast, known, ad⟩ s' ⟨done, hd, hps, htot, hkn, had, h, k, rfl, hk⟩
    simp only at hps htot hkn had
    subst had
    have hc : c < 2 ^ 62 := hx c (by rw [hd]; simp)
    have hlen : done.length + (rest.length + 1) = x.length := by
      have := congrArg List.length hd
      rw [List.length_append, List.length_cons, Array.length_toList] at this
      exact this.symm
    have he1 := enc_len3 done
    dsimp only
    rw [if_neg (by rw [hbig _ (by omega)]; exact Bool.false_ne_true)]
    have hsnoc : enc (done ++ [c]) = enc done ++ tr c := by simp [enc]
    -- what one more piece makes of it
    have next : ∀ (y : PySem.Str) (fast' : Bool) (known' : List (Nat × Option Nat)) (n : Nat) (h' : Heap) (k' : Nat), y.cps.toList = tr c → n = tot + (tr c).length → (∀ c d, known'.lookup c = some d → ∃ e, d = some e ∧ tr c = [e]) → (∀ b o, hp.get? b = some o → h'.get? b = some o) →
        ∃ done', x.cps.toList = done' ++ rest ∧ ((y :: ps).reverse.map (·.cps.toList)).flatten = enc done' ∧ n = (enc done').length ∧ (∀ c d, known'.lookup c = some d → ∃ e, d = some e ∧ tr c = [e]) ∧ false = false ∧ ∃ h k, (⟨h', g, d, k', os⟩ : Shared) = ⟨h, g, d, k, os⟩ ∧ ∀ b o, hp.get? b = some o → h.get? b = some o := by
      intro y fast' known' n h' k' hy hn hk hkeep
      refine ⟨done ++ [c], by rw [hd]; simp, ?_, ?_, hk, rfl, h', k', rfl, hkeep⟩
      · rw [hsnoc, List.reverse_cons, List.map_append, List.flatten_append, hps]; simp [hy]
      · rw [hsnoc, List.length_append, hn, htot]
    have hfit : c < 2 ^ 63 := by omega
    have known1 : ∀ (e : Nat), tr c = [e] → ∀ c' d', ((c, some e) :: known).lookup c' = some d' → ∃ e, d' = some e ∧ tr c' = [e] := fun e hte c' d' h' => by
      rw [List.lookup_cons] at h'
      split at h'
      · rename_i hq
        rw [beq_iff_eq] at hq
        subst hq
        exact ⟨e, (Option.some.inj h').symm, hte⟩
      · exact hkn c' d' h'
    by_cases hfar : c < 256
    · obtain ⟨tc, hit⟩ := hT c hfar
      have look : ∀ {Q : Mapped → Shared → Prop} (k : Nat), Q (.text (S (tr c))) ⟨h, g, d, k + 1, os⟩ → wpAny (model prog w) A.in1 (tableLookup (.ref a) c) Q E ⟨h, g, d, k, os⟩ :=
        fun k hq => tableLookup_hit (s := ⟨h, g, d, k, os⟩) (isList_keeps hl hk) hfit hit hq
      cases fast with
      | false =>
        simp only [Bool.false_eq_true, if_false]
        refine wpAny_bind (look k ?_)
        exact wpAny_pure (next (S (tr c)) true _ _ _ _ (by simp) (by simp [PySem.Str.length]) hkn hk)
      | true =>
        simp only [if_true]
        cases hkl : known.lookup c with
        | some d0 =>
          obtain ⟨e, rfl, hte⟩ := hkn c d0 hkl
          refine wpAny_bind (wpAny_pure ?_)
          exact wpAny_pure (next ⟨#[e]⟩ true _ _ _ _ (by rw [hte]) (by rw [hte]; rfl) hkn hk)
        | none =>
          refine wpAny_bind (look k ?_)
          dsimp only
          cases hh : ((S (tr c)).length == 1 && (S (tr c)).cps.all fun x => decide (x < 128)) with
          | true =>
            simp only [Bool.and_eq_true, beq_iff_eq, PySem.Str.length, List.size_toArray] at hh
            obtain ⟨e, hte⟩ := List.length_eq_one_iff.mp hh.1
            have e0 : (S (tr c)).cps[0]? = some e := by rw [hte]; rfl
            simp only [if_true, e0]
            refine wpAny_bind (wpAny_pure ?_)
            exact wpAny_pure (next ⟨#[e]⟩ true _ _ _ _ (by rw [hte]) (by rw [hte]; rfl) (known1 e hte) hk)
          | false =>
            simp only [Bool.false_eq_true, if_false]
            refine wpAny_bind (wpAny_pure ?_)
            dsimp only
            refine wpAny_bind (wpAny_rule ?_)
            refine wpAny_bind (look (k + 1) ?_)
            exact wpAny_pure (next (S (tr c)) true _ _ _ _ (by simp) (by simp [PySem.Str.length]) hkn hk)
    · have htr := tr_far (c := c) (by omega)
      have look : ∀ {Q : Mapped → Shared → Prop} (k : Nat), (∀ h' k', (∀ b o, hp.get? b = some o → h'.get? b = some o) → Q .keep ⟨h', g, d, k', os⟩) → wpAny (model prog w) A.in1 (tableLookup (.ref a) c) Q E ⟨h, g, d, k, os⟩ :=
        fun k hq => tableLookup_out (s := ⟨h, g, d, k, os⟩) hA1 (isList_keeps hl hk) (by omega) hfit fun h' tk hk' => hq h' tk fun b o e => hk' b o (hk b o e)
      cases fast with
      | false =>
        simp only [Bool.false_eq_true, if_false]
        refine wpAny_bind (look k fun h' k' hk' => ?_)
        exact wpAny_pure (next ⟨#[c]⟩ true _ _ _ _ (by rw [htr]) (by rw [htr]; rfl) hkn hk')
      | true =>
        simp only [if_true]
        cases hkl : known.lookup c with
        | some d0 =>
          obtain ⟨e, rfl, hte⟩ := hkn c d0 hkl
          refine wpAny_bind (wpAny_pure ?_)
          exact wpAny_pure (next ⟨#[e]⟩ true _ _ _ _ (by rw [hte]) (by rw [hte]; rfl) hkn hk)
        | none =>
          refine wpAny_bind (look k fun h' k' hk' => ?_)
          dsimp only
          refine wpAny_bind (wpAny_pure ?_)
          exact wpAny_pure (next ⟨#[c]⟩ true _ _ _ _ (by rw [htr]) (by rw [htr]; rfl) (known1 c htr) hk')
  · rintro ⟨ps, tot, fast, known, ad⟩ s' ⟨done, hd, hps, htot, hkn, had, h, k, rfl, hk⟩
    simp only at hps htot hkn had
    rw [List.append_nil] at hd
    have hlen : done.length = x.length := by rw [← hd, Array.length_toList]; rfl
    have he1 := enc_len3 done
    dsimp only
    rw [if_neg (by rw [hbig _ (by omega)]; exact Bool.false_ne_true)]
    have hfold : ∀ (l : List PySem.Str) (acc : Array Nat), (l.foldl (fun acc p => acc ++ p.cps) acc).toList = acc.toList ++ (l.map (·.cps.toList)).flatten := by
      intro l
      induction l with
      | nil => simp
      | cons a r ih => intro acc; rw [List.foldl_cons, ih]; simp
    have hres : (⟨ps.reverse.foldl (fun acc p => acc ++ p.cps) #[]⟩ : PySem.Str) = S (enc x.cps.toList) := by
      refine congrArg PySem.Str.mk ?_
      rw [← Array.toList_inj, hfold, hps, hd]; simp
    rw [hres]
    unfold retStr
    refine wpAny_bind (wpAny_mkStr ?_ ?_)
    · exact wpAny_pure ⟨_, rfl, hQ _ _ _ hk⟩
    · show (enc x.cps.toList).toArray.size ≤ sizeLine
      have e : sizeLine = 16777216 := rfl
      rw [List.size_toArray, hd, e]; omega
theorem call_translate2 {hp : Heap} {gn : Array GenState} {dr : Drawn} {tk : Nat} {os : OsState} {h₀ : Heap} {L : Addr} {m : PySem.Str → Option Value} {news : List (Addr × Obj)} {a : Addr} {items : Array Value} {x : List Nat} {t : Tok} {Q : Value → Shared → Prop} (hA : A.handled = none) (F : Fr h₀ L hp m) (N : News h₀ L hp news) (hT : TableIs items) (hn : items.size = 256) (hl : hp.IsList a items) (hx : ∀ c ∈ x, c < 2 ^ 62) (hne : x ≠ []) (hsz : x.length ≤ 100000)
    (h : ∀ h' t' k, Fr h₀ L h' m → News h₀ L h' news → Q (.str (S (enc x)) t') ⟨h', gn, dr, k, os⟩) : wpAny (model prog w) A (call (.builtin "str.translate") [.str (S x) t, .ref a]) Q E ⟨hp, gn, dr, tk, os⟩ :=
  wpAny_call_entry PySem.F.slot_str_translate (typeIs_str _ _ _) PySem.F.entry_str_translate (wp_translate (s := ⟨hp, gn, dr, tk, os⟩) hA hT hn t (by simpa using hx) (by simpa [PySem.Str.length] using hne) (by simpa [PySem.Str.length] using hsz) hl fun h' t' k hk => by
    have e : (S x).cps.toList = x := by simp
    rw [e]
    exact h h' t' k (F.grownK hk) (N.grown hk)) (PySem.F.args_str_translate_2 _ _)
end
end Mine
end
section
open PySem PySem.W PyProof.Rows PySem.Calls
set_option maxRecDepth 100000
set_option maxHeartbeats 1000000
namespace Mine
section
variable {prog : Program} {w : World} {A : Around} {E : Value → Shared → Prop} {s : Shared} {env : Env} {h₀ : Heap} {x : PySem.Str} {body : List Stmt} {Q : Flow → Shared → Prop}

/-- a turn's end: what stands behind it -/
def LEnd (h₀ : Heap) (L : Addr) (s₁ : Shared) (I : Addr) (it : Obj) (J : (PySem.Str → Option Value) → Led → Prop) (s₂ : Shared) : Prop :=
  ∃ h' tk m' news', s₂ = { s₁ with heap := h', toks := tk } ∧ Fr h₀ L h' m' ∧ News h₀ L h' ((I, it) :: news') ∧ (∀ p ∈ news', p.1 ≠ I) ∧ J m' news'
def LPost (h₀ : Heap) (L : Addr) (s₁ : Shared) (I : Addr) (it : Obj) (J : (PySem.Str → Option Value) → Led → Prop) (Q : Flow → Shared → Prop) (f : Flow) (s₂ : Shared) : Prop :=
  match f with
  | .ret v => Q (.ret v) s₂
  | .brk => Q .next s₂
  | _ => LEnd h₀ L s₁ I it J s₂
theorem LPost.next {L I : Addr} {it : Obj} {J : (PySem.Str → Option Value) → Led → Prop} {s₁ : Shared} {h' : Heap} {tk : Nat} {m' : PySem.Str → Option Value} {all : Led} (F : Fr h₀ L h' m') (N : News h₀ L h' all) (news' : Led)
    (hI : (I, it) ∈ all) (sub : ∀ p ∈ news', p ∈ all) (off : ∀ p ∈ news', p.1 ≠ I) (j : J m' news') : LPost h₀ L s₁ I it J Q .next { s₁ with heap := h', toks := tk } :=
  ⟨h', tk, m', news', rfl, F, fun p hp => by rcases List.mem_cons.mp hp with rfl | hp; exact N _ hI; exact N _ (sub p hp), off, j⟩
theorem LPost.cont {L I : Addr} {it : Obj} {J : (PySem.Str → Option Value) → Led → Prop} {s₁ : Shared} {h' : Heap} {tk : Nat} {m' : PySem.Str → Option Value} {all : Led} (F : Fr h₀ L h' m') (N : News h₀ L h' all) (news' : Led)
    (hI : (I, it) ∈ all) (sub : ∀ p ∈ news', p ∈ all) (off : ∀ p ∈ news', p.1 ≠ I) (j : J m' news') : LPost h₀ L s₁ I it J Q .cont { s₁ with heap := h', toks := tk } :=
  ⟨h', tk, m', news', rfl, F, fun p hp => by rcases List.mem_cons.mp hp with rfl | hp; exact N _ hI; exact N _ (sub p hp), off, j⟩
theorem LPost.ret {L I : Addr} {it : Obj} {J : (PySem.Str → Option Value) → Led → Prop} {s₁ s₂ : Shared} {v : Value} (h : Q (.ret v) s₂) : LPost h₀ L s₁ I it J Q (.ret v) s₂ := h

/-- a for over a list of the ledger: J told of what is taken and what is left -/
theorem iter_led {D : Addr} {vs : List Value} {n : Nat} {m₀ : PySem.Str → Option Value} {news : Led} (J : List Value → List Value → (PySem.Str → Option Value) → Led → Prop)
    (hh : A.handled = none) (F : Fr h₀ env.locals s.heap m₀) (N : News h₀ env.locals s.heap news) (hm : (D, listOf vs.toArray n) ∈ news) (hj : J [] vs m₀ news)
    (turn : ∀ I, (∀ p ∈ news, p.1 < I) → ∀ pre v rest m₁ news₁ it h tk, vs = pre ++ v :: rest → J pre (v :: rest) m₁ news₁ → Fr h₀ env.locals h (fun y => if y = x then some v else m₁ y) → News h₀ env.locals h ((I, it) :: news₁) →
      wpAny (model prog w) A (execs body env) (LPost h₀ env.locals { s with heap := h, toks := tk } I it (fun m' n' => (D, listOf vs.toArray n) ∈ n' ∧ J (pre ++ [v]) rest m' n') Q) E { s with heap := h, toks := tk })
    (done : ∀ m₁ news₁ h tk, J vs [] m₁ news₁ → Fr h₀ env.locals h m₁ → News h₀ env.locals h news₁ → Q .next { s with heap := h, toks := tk }) :
    wpAny (model prog w) A (pyIter (.ref D)) (fun it s₂ => LoopAtV prog w A h₀ env x body Q E it s₂) E s := by
  refine iter_listUnr hh F N hm rfl rfl fun I hI => ?_
  have all : ∀ (rest pre : List Value) m₁ news₁, vs = pre ++ rest → J pre rest m₁ news₁ → ListRest prog w A E h₀ env x body Q s I (D, listOf vs.toArray n) rest m₁ news₁ := by
    intro rest
    induction rest with
    | nil =>
      intro pre m₁ news₁ e hJ
      rw [List.append_nil] at e
      subst e
      exact ListRest.zero fun h tk F' N' => done m₁ news₁ h tk hJ F' N'
    | cons v r ih =>
      intro pre m₁ news₁ e hJ
      refine ListRest.succ fun it h tk _ F' N' => ?_
      refine wpAny_mono (turn I hI pre v r m₁ news₁ it h tk e hJ F' N') (fun f s₂ z => ?_) fun _ _ z => z
      have fin : LEnd h₀ env.locals { s with heap := h, toks := tk } I it (fun m' n' => (D, listOf vs.toArray n) ∈ n' ∧ J (pre ++ [v]) r m' n') s₂ →
          UnrEnd h₀ env.locals { s with heap := h, toks := tk } I it (fun m' n' => (D, listOf vs.toArray n) ∈ n' ∧ ListRest prog w A E h₀ env x body Q s I (D, listOf vs.toArray n) r m' n') s₂ := by
        rintro ⟨h', tk', m', news', e2, F2, N2, off, hD, j⟩
        exact ⟨h', tk', m', news', e2, F2, N2, off, hD, ih (pre ++ [v]) m' news' (by rw [e]; simp) j⟩
      cases f with
      | ret v => exact z
      | brk => exact z
      | next => exact fin z
      | cont => exact fin z
  exact all vs [] m₀ news rfl hj

/-- a for over a range by ones -/
theorem iter_rng {r : Addr} {a₀ b₀ : Int} {t₀ u₀ v₀ : Tok} {n : Nat} {m₀ : PySem.Str → Option Value} {news : Led} (J : Nat → (PySem.Str → Option Value) → Led → Prop)
    (hh : A.handled = none) (hr : IsRange s.heap r a₀ b₀ 1 t₀ u₀ v₀) (hsmall : Builtin.Range.small a₀ b₀ 1 = true) (hn : Builtin.Range.rangeSize a₀ b₀ 1 = (n : Int)) (F : Fr h₀ env.locals s.heap m₀) (N : News h₀ env.locals s.heap news) (hj : J 0 m₀ news)
    (turn : ∀ I, (∀ p ∈ news, p.1 < I) → ∀ (i : Nat) m₁ news₁ it t h tk, i < n → J i m₁ news₁ → Fr h₀ env.locals h (fun y => if y = x then some (.int (a₀ + (i : Int)) t) else m₁ y) → News h₀ env.locals h ((I, it) :: news₁) →
      wpAny (model prog w) A (execs body env) (LPost h₀ env.locals { s with heap := h, toks := tk } I it (fun m' n' => J (i + 1) m' n') Q) E { s with heap := h, toks := tk })
    (done : ∀ m₁ news₁ h tk, J n m₁ news₁ → Fr h₀ env.locals h m₁ → News h₀ env.locals h news₁ → Q .next { s with heap := h, toks := tk }) :
    wpAny (model prog w) A (pyIter (.ref r)) (fun it s₂ => LoopAtV prog w A h₀ env x body Q E it s₂) E s := by
  refine iter_rangeUnr hh hr hsmall hn F N fun I hI => ?_
  have all : ∀ (k i : Nat) m₁ news₁, i + k = n → J i m₁ news₁ → RangeRest prog w A E h₀ env x body Q s I a₀ n k i m₁ news₁ := by
    intro k
    induction k with
    | zero =>
      intro i m₁ news₁ e hJ
      have : i = n := by omega
      subst this
      exact RangeRest.zero fun h tk F' N' => done m₁ news₁ h tk hJ F' N'
    | succ k ih =>
      intro i m₁ news₁ e hJ
      refine RangeRest.succ fun t h tk F' N' => ?_
      refine wpAny_mono (turn I hI i m₁ news₁ _ t h tk (by omega) hJ F' N') (fun f s₂ z => ?_) fun _ _ z => z
      have fin : LEnd h₀ env.locals { s with heap := h, toks := tk } I (itR (a₀ + ((i + 1 : Nat) : Int)) ((n : Int) - ((i + 1 : Nat) : Int))) (fun m' n' => J (i + 1) m' n') s₂ →
          UnrEnd h₀ env.locals { s with heap := h, toks := tk } I (itR (a₀ + ((i + 1 : Nat) : Int)) ((n : Int) - ((i + 1 : Nat) : Int))) (RangeRest prog w A E h₀ env x body Q s I a₀ n k (i + 1)) s₂ := by
        rintro ⟨h', tk', m', news', e2, F2, N2, off, j⟩
        exact ⟨h', tk', m', news', e2, F2, N2, off, ih (i + 1) m' news' (by omega) j⟩
      cases f with
      | ret v => exact z
      | brk => exact z
      | next => exact fin z
      | cont => exact fin z
  exact all n 0 m₀ news (by omega) hj

/-- a frame: what is known of it first, then what is forgotten, then what stood there -/
def lk : List (PySem.Str × Value) → (PySem.Str → Option Value) → PySem.Str → Option Value
  | [], f, y => f y
  | p :: r, f, y => if y = p.1 then some p.2 else lk r f y
theorem lk_eq {f m₁ : PySem.Str → Option Value} {y : PySem.Str} : ∀ {l : List (PySem.Str × Value)}, (∀ p ∈ l, m₁ p.1 = some p.2) → f y = m₁ y → lk l f y = m₁ y
  | [], _, h => h
  | p :: r, hl, h => by
    unfold lk
    split
    · rename_i e; rw [e, hl p (.head _)]
    · exact lk_eq (fun q hq => hl q (.tail _ hq)) h
/-- what a turn leaves -/
def StEnd {σ : Type} (loc : σ → List (PySem.Str × Value)) (names : List PySem.Str) (P : σ → Led → Prop) (m₀ m' : PySem.Str → Option Value) (n' : Led) : Prop :=
  ∃ c', P c' n' ∧ (∀ p ∈ loc c', m' p.1 = some p.2) ∧ ∀ z, names.contains z = false → m' z = m₀ z
theorem for_st {σ : Type} (loc : σ → List (PySem.Str × Value)) (names : List PySem.Str) (P : List Value → List Value → σ → Led → Prop) (c₀ : σ)
    {D : Addr} {vs : List Value} {n : Nat} {m₀ : PySem.Str → Option Value} {news : Led}
    (hh : A.handled = none) (F : Fr h₀ env.locals s.heap m₀) (N : News h₀ env.locals s.heap news) (hm : (D, listOf vs.toArray n) ∈ news) (h0 : ∀ p ∈ loc c₀, m₀ p.1 = some p.2) (hj : P [] vs c₀ news)
    (turn : ∀ I, (∀ p ∈ news, p.1 < I) → ∀ pre v rest c (u : PySem.Str → Option Value) news₁ it h tk, vs = pre ++ v :: rest → P pre (v :: rest) c news₁ → Fr h₀ env.locals h (fun y => if y = x then some v else lk (loc c) (fun y => if names.contains y then u y else m₀ y) y) → News h₀ env.locals h ((I, it) :: news₁) →
      wpAny (model prog w) A (execs body env) (LPost h₀ env.locals { s with heap := h, toks := tk } I it (fun m' n' => (D, listOf vs.toArray n) ∈ n' ∧ StEnd loc names (P (pre ++ [v]) rest) m₀ m' n') Q) E { s with heap := h, toks := tk })
    (done : ∀ c (u : PySem.Str → Option Value) news₁ h tk, P vs [] c news₁ → Fr h₀ env.locals h (lk (loc c) (fun y => if names.contains y then u y else m₀ y)) → News h₀ env.locals h news₁ → Q .next { s with heap := h, toks := tk }) :
    wpAny (model prog w) A (pyIter (.ref D)) (fun it s₂ => LoopAtV prog w A h₀ env x body Q E it s₂) E s := by
  have same : ∀ {c : σ} {m₁ : PySem.Str → Option Value}, (∀ p ∈ loc c, m₁ p.1 = some p.2) → (∀ z, names.contains z = false → m₁ z = m₀ z) → lk (loc c) (fun y => if names.contains y then m₁ y else m₀ y) = m₁ := by
    intro c m₁ h1 h2
    funext y
    refine lk_eq h1 ?_
    cases hy : names.contains y with
    | true => rfl
    | false => exact (h2 y hy).symm
  refine iter_led (fun pre rest m₁ news₁ => StEnd loc names (P pre rest) m₀ m₁ news₁) hh F N hm ⟨c₀, hj, h0, fun _ _ => rfl⟩ ?_ ?_
  · rintro I hI pre v rest m₁ news₁ it h tk e ⟨c, hP, h1, h2⟩ F' N'
    rw [← same h1 h2] at F'
    exact turn I hI pre v rest c m₁ news₁ it h tk e hP F' N'
  · rintro m₁ news₁ h tk ⟨c, hP, h1, h2⟩ F' N'
    rw [← same h1 h2] at F'
    exact done c m₁ news₁ h tk hP F' N'
theorem rng_st {σ : Type} (loc : σ → List (PySem.Str × Value)) (names : List PySem.Str) (P : Nat → σ → Led → Prop) (c₀ : σ)
    {r : Addr} {a₀ b₀ : Int} {t₀ u₀ v₀ : Tok} {n : Nat} {m₀ : PySem.Str → Option Value} {news : Led}
    (hh : A.handled = none) (hr : IsRange s.heap r a₀ b₀ 1 t₀ u₀ v₀) (hsmall : Builtin.Range.small a₀ b₀ 1 = true) (hn : Builtin.Range.rangeSize a₀ b₀ 1 = (n : Int)) (F : Fr h₀ env.locals s.heap m₀) (N : News h₀ env.locals s.heap news)
    (h0 : ∀ p ∈ loc c₀, m₀ p.1 = some p.2) (hj : P 0 c₀ news)
    (turn : ∀ I, (∀ p ∈ news, p.1 < I) → ∀ (i : Nat) c (u : PySem.Str → Option Value) news₁ it t h tk, i < n → P i c news₁ → Fr h₀ env.locals h (fun y => if y = x then some (.int (a₀ + (i : Int)) t) else lk (loc c) (fun y => if names.contains y then u y else m₀ y) y) → News h₀ env.locals h ((I, it) :: news₁) →
      wpAny (model prog w) A (execs body env) (LPost h₀ env.locals { s with heap := h, toks := tk } I it (fun m' n' => StEnd loc names (P (i + 1)) m₀ m' n') Q) E { s with heap := h, toks := tk })
    (done : ∀ c (u : PySem.Str → Option Value) news₁ h tk, P n c news₁ → Fr h₀ env.locals h (lk (loc c) (fun y => if names.contains y then u y else m₀ y)) → News h₀ env.locals h news₁ → Q .next { s with heap := h, toks := tk }) :
    wpAny (model prog w) A (pyIter (.ref r)) (fun it s₂ => LoopAtV prog w A h₀ env x body Q E it s₂) E s := by
  have same : ∀ {c : σ} {m₁ : PySem.Str → Option Value}, (∀ p ∈ loc c, m₁ p.1 = some p.2) → (∀ z, names.contains z = false → m₁ z = m₀ z) → lk (loc c) (fun y => if names.contains y then m₁ y else m₀ y) = m₁ := by
    intro c m₁ h1 h2
    funext y
    refine lk_eq h1 ?_
    cases hy : names.contains y with
    | true => rfl
    | false => exact (h2 y hy).symm
  refine iter_rng (fun i m₁ news₁ => StEnd loc names (P i) m₀ m₁ news₁) hh hr hsmall hn F N ⟨c₀, hj, h0, fun _ _ => rfl⟩ ?_ ?_
  · rintro I hI i m₁ news₁ it t h tk hi ⟨c, hP, h1, h2⟩ F' N'
    rw [← same h1 h2] at F'
    exact turn I hI i c m₁ news₁ it t h tk hi hP F' N'
  · rintro m₁ news₁ h tk ⟨c, hP, h1, h2⟩ F' N'
    rw [← same h1 h2] at F'
    exact done c m₁ news₁ h tk hP F' N'
/-- a while's turn: its end -/
def WEnd {σ : Type} (loc : σ → List (PySem.Str × Value)) (names : List PySem.Str) (P : σ → Led → Prop) (μ : σ → Nat) (c : σ) (h₀ : Heap) (L : Addr) (m₀ : PySem.Str → Option Value) (s : Shared) (f : Flow) (s₃ : Shared) : Prop :=
  f = .next ∧ ∃ h' tk m₂ news₂, s₃ = { s with heap := h', toks := tk } ∧ Fr h₀ L h' m₂ ∧ News h₀ L h' news₂ ∧ StEnd loc names (fun c' n' => μ c' < μ c ∧ P c' n') m₀ m₂ news₂
theorem while_st {σ : Type} (loc : σ → List (PySem.Str × Value)) (names : List PySem.Str) (P : σ → Led → Prop) (μ : σ → Nat) (c₀ : σ) {L : Addr} {test : Expr} {pos : Pos} {m₀ : PySem.Str → Option Value} {news : Led}
    (F : Fr h₀ L s.heap m₀) (N : News h₀ L s.heap news) (h0 : ∀ p ∈ loc c₀, m₀ p.1 = some p.2) (hj : P c₀ news)
    (turn : ∀ c (u : PySem.Str → Option Value) news₁ h tk, P c news₁ → Fr h₀ L h (lk (loc c) (fun y => if names.contains y then u y else m₀ y)) → News h₀ L h news₁ →
      wpAny (model prog w) A (isTrue test env (eval test env)) (fun b s₂ =>
        if b = true then wpAny (model prog w) A (execs body env) (WEnd loc names P μ c h₀ L m₀ s) E s₂ else Q .next s₂) E { s with heap := h, toks := tk })
    (hE : PassesOwn (model prog w) A env E := by passes_own) :
    wpAny (model prog w) A (exec (.While test body [] pos) env) Q E s := by
  have same : ∀ {c : σ} {m₁ : PySem.Str → Option Value}, (∀ p ∈ loc c, m₁ p.1 = some p.2) → (∀ z, names.contains z = false → m₁ z = m₀ z) → lk (loc c) (fun y => if names.contains y then m₁ y else m₀ y) = m₁ := by
    intro c m₁ h1 h2
    funext y
    refine lk_eq h1 ?_
    cases hy : names.contains y with
    | true => rfl
    | false => exact (h2 y hy).symm
  refine While_inv (fun k m₁ news₁ => StEnd loc names (fun c n => μ c = k ∧ P c n) m₀ m₁ news₁) F N ⟨c₀, ⟨rfl, hj⟩, h0, fun _ _ => rfl⟩ ?_ hE
  rintro k m₁ news₁ h tk F' N' ⟨c, ⟨rfl, hP⟩, h1, h2⟩
  rw [← same h1 h2] at F'
  refine wpAny_mono (turn c m₁ news₁ h tk hP F' N') (fun b s₂ z => ?_) fun _ _ z => z
  cases b with
  | false => exact z
  | true =>
    refine wpAny_mono z (fun f s₃ y => ?_) fun _ _ z => z
    obtain ⟨rfl, h', tk', m₂, news₂, rfl, F₂, N₂, c', ⟨hμ, hP'⟩, a, b⟩ := y
    exact ⟨rfl, h', tk', m₂, news₂, μ c', rfl, F₂, N₂, hμ, c', ⟨rfl, hP'⟩, a, b⟩
theorem WEnd.intro {σ : Type} {loc : σ → List (PySem.Str × Value)} {names : List PySem.Str} {P : σ → Led → Prop} {μ : σ → Nat} {c : σ} {L : Addr} {m₀ m₂ : PySem.Str → Option Value} {tk : Nat} {h' : Heap} {all : Led}
    (F : Fr h₀ L h' m₂) (N : News h₀ L h' all) (c' : σ) (news₂ : Led) (sub : ∀ p ∈ news₂, p ∈ all) (hμ : μ c' < μ c) (hP : P c' news₂) (h1 : ∀ p ∈ loc c', m₂ p.1 = some p.2) (h2 : ∀ z, names.contains z = false → m₂ z = m₀ z) :
    WEnd loc names P μ c h₀ L m₀ s .next { s with heap := h', toks := tk } :=
  ⟨rfl, h', tk, m₂, news₂, rfl, F, fun p hp => N p (sub p hp), c', ⟨hμ, hP⟩, h1, h2⟩
/-- no entry of a ledger that lies below d stands at d -/
theorem allLt_ne {d : Addr} : ∀ {l : Led}, AllLt d l → ∀ p ∈ l, p.1 ≠ d
  | [], _, _, h => nomatch h
  | _ :: _, h, _, .head _ => Nat.ne_of_lt h.1
  | _ :: _, h, _, .tail _ m => allLt_ne h.2 _ m
end
end Mine
end
section
open PySem PySem.W PyProof.Rows PySem.Calls
set_option maxRecDepth 100000
set_option maxHeartbeats 1000000
namespace Mine
section
variable {prog : Program} {w : World} {A : Around} {E : Value → Shared → Prop} {s : Shared} {env : Env} {h₀ : Heap} {x : PySem.Str} {body : List Stmt} {Q : Flow → Shared → Prop}

/-- a for over a list of the ledger: J told of what is taken and what is left -/
theorem iter_led2 {D : Addr} {vs : List Value} {n : Nat} {m₀ : PySem.Str → Option Value} {news : Led} (J : List Value → List Value → (PySem.Str → Option Value) → Led → Prop)
    (hh : A.handled = none) (F : Fr h₀ env.locals s.heap m₀) (N : News h₀ env.locals s.heap news) (hm : (D, listOf vs.toArray n) ∈ news) (hj : J [] vs m₀ news)
    (turn : ∀ I, (∀ p ∈ news, p.1 < I) → ∀ pre v rest m₁ news₁ it h tk, vs = pre ++ v :: rest → J pre (v :: rest) m₁ news₁ → (∀ p ∈ news₁, p.1 ≠ I) → Fr h₀ env.locals h (fun y => if y = x then some v else m₁ y) → News h₀ env.locals h ((I, it) :: news₁) →
      wpAny (model prog w) A (execs body env) (LPost h₀ env.locals { s with heap := h, toks := tk } I it (fun m' n' => (D, listOf vs.toArray n) ∈ n' ∧ J (pre ++ [v]) rest m' n') Q) E { s with heap := h, toks := tk })
    (done : ∀ m₁ news₁ h tk, J vs [] m₁ news₁ → Fr h₀ env.locals h m₁ → News h₀ env.locals h news₁ → Q .next { s with heap := h, toks := tk }) :
    wpAny (model prog w) A (pyIter (.ref D)) (fun it s₂ => LoopAtV prog w A h₀ env x body Q E it s₂) E s := by
  refine iter_listUnr hh F N hm rfl rfl fun I hI => ?_
  have all : ∀ (rest pre : List Value) m₁ news₁, vs = pre ++ rest → J pre rest m₁ news₁ → (∀ p ∈ news₁, p.1 ≠ I) → ListRest prog w A E h₀ env x body Q s I (D, listOf vs.toArray n) rest m₁ news₁ := by
    intro rest
    induction rest with
    | nil =>
      intro pre m₁ news₁ e hJ off₁
      rw [List.append_nil] at e
      subst e
      exact ListRest.zero fun h tk F' N' => done m₁ news₁ h tk hJ F' N'
    | cons v r ih =>
      intro pre m₁ news₁ e hJ off₁
      refine ListRest.succ fun it h tk _ F' N' => ?_
      refine wpAny_mono (turn I hI pre v r m₁ news₁ it h tk e hJ off₁ F' N') (fun f s₂ z => ?_) fun _ _ z => z
      have fin : LEnd h₀ env.locals { s with heap := h, toks := tk } I it (fun m' n' => (D, listOf vs.toArray n) ∈ n' ∧ J (pre ++ [v]) r m' n') s₂ →
          UnrEnd h₀ env.locals { s with heap := h, toks := tk } I it (fun m' n' => (D, listOf vs.toArray n) ∈ n' ∧ ListRest prog w A E h₀ env x body Q s I (D, listOf vs.toArray n) r m' n') s₂ := by
        rintro ⟨h', tk', m', news', e2, F2, N2, off, hD, j⟩
        exact ⟨h', tk', m', news', e2, F2, N2, off, hD, ih (pre ++ [v]) m' news' (by rw [e]; simp) j off⟩
      cases f with
      | ret v => exact z
      | brk => exact z
      | next => exact fin z
      | cont => exact fin z
  exact all vs [] m₀ news rfl hj fun p hp => Nat.ne_of_lt (hI p hp)

theorem for_st2 {σ : Type} (loc : σ → List (PySem.Str × Value)) (names : List PySem.Str) (P : List Value → List Value → σ → Led → Prop) (c₀ : σ)
    {D : Addr} {vs : List Value} {n : Nat} {m₀ : PySem.Str → Option Value} {news : Led}
    (hh : A.handled = none) (F : Fr h₀ env.locals s.heap m₀) (N : News h₀ env.locals s.heap news) (hm : (D, listOf vs.toArray n) ∈ news) (h0 : ∀ p ∈ loc c₀, m₀ p.1 = some p.2) (hj : P [] vs c₀ news)
    (turn : ∀ I, (∀ p ∈ news, p.1 < I) → ∀ pre v rest c (u : PySem.Str → Option Value) news₁ it h tk, vs = pre ++ v :: rest → P pre (v :: rest) c news₁ → (∀ p ∈ news₁, p.1 ≠ I) → Fr h₀ env.locals h (fun y => if y = x then some v else lk (loc c) (fun y => if names.contains y then u y else m₀ y) y) → News h₀ env.locals h ((I, it) :: news₁) →
      wpAny (model prog w) A (execs body env) (LPost h₀ env.locals { s with heap := h, toks := tk } I it (fun m' n' => (D, listOf vs.toArray n) ∈ n' ∧ StEnd loc names (P (pre ++ [v]) rest) m₀ m' n') Q) E { s with heap := h, toks := tk })
    (done : ∀ c (u : PySem.Str → Option Value) news₁ h tk, P vs [] c news₁ → Fr h₀ env.locals h (lk (loc c) (fun y => if names.contains y then u y else m₀ y)) → News h₀ env.locals h news₁ → Q .next { s with heap := h, toks := tk }) :
    wpAny (model prog w) A (pyIter (.ref D)) (fun it s₂ => LoopAtV prog w A h₀ env x body Q E it s₂) E s := by
  have same : ∀ {c : σ} {m₁ : PySem.Str → Option Value}, (∀ p ∈ loc c, m₁ p.1 = some p.2) → (∀ z, names.contains z = false → m₁ z = m₀ z) → lk (loc c) (fun y => if names.contains y then m₁ y else m₀ y) = m₁ := by
    intro c m₁ h1 h2
    funext y
    refine lk_eq h1 ?_
    cases hy : names.contains y with
    | true => rfl
    | false => exact (h2 y hy).symm
  refine iter_led2 (fun pre rest m₁ news₁ => StEnd loc names (P pre rest) m₀ m₁ news₁) hh F N hm ⟨c₀, hj, h0, fun _ _ => rfl⟩ ?_ ?_
  · rintro I hI pre v rest m₁ news₁ it h tk e ⟨c, hP, h1, h2⟩ off F' N'
    rw [← same h1 h2] at F'
    exact turn I hI pre v rest c m₁ news₁ it h tk e hP off F' N'
  · rintro m₁ news₁ h tk ⟨c, hP, h1, h2⟩ F' N'
    rw [← same h1 h2] at F'
    exact done c m₁ news₁ h tk hP F' N'
end
end Mine
end
section
open PySem PySem.W PyProof.Rows PySem.Calls
set_option maxRecDepth 100000
set_option maxHeartbeats 1000000
namespace Mine
def boundA (D : Addr) : Obj := { cls := .type "builtin_function_or_method", data := .fields #[.builtin "list.append", .ref D] }
theorem slot_mget : Slot "method_descriptor" "__get__" "method_descriptor.__get__" :=
  .of (owner := "method_descriptor") (n := "__get__") (by rw [typeLookup_type, builtinLookup_eq_fast]; kernel_rfl) (by decide +kernel) (by decide +kernel) (by decide +kernel)
    (by first | exact .inl (by decide +kernel) | exact .inr (by decide +kernel)) (by rw [isSubtype_type]; kernel_rfl)
theorem entry_mget : entryFor table "method_descriptor.__get__" = some Builtin.«method_descriptor.__get__» := entryFor_of_tree (by kernel_rfl)
theorem args_mget (a b c : Value) : argsOk "method_descriptor.__get__" ⟨[a, b, c], []⟩ := by unfold argsOk; kernel_rfl
theorem mset_none : typeLookup (.type "method_descriptor") "__set__" = pure none := by rw [typeLookup_type, builtinLookup_eq_fast]; kernel_rfl
theorem mdel_none : typeLookup (.type "method_descriptor") "__delete__" = pure none := by rw [typeLookup_type, builtinLookup_eq_fast]; kernel_rfl
theorem told_not : Manifest.toldItsClass.contains "list.append" = false := by decide +kernel
theorem owner_append : ".".intercalate ("list.append".cutAt '.').dropLast = "list" := by decide +kernel
theorem sub_list_list : isSubtype (.type "list") (.type (".".intercalate ("list.append".cutAt '.').dropLast)) = pure true := by rw [owner_append, isSubtype_type]; kernel_rfl

theorem meets_hit (a : Addr) (xs : Array Value) (k : Nat) (u : Tok) :
    Meets (Builtin.«object.__getattribute__» ⟨[.ref a, .str "append" u], []⟩) (fun A R s => s.heap.get? a = some { cls := .type "list", dict := none, data := .seq xs k, slots := #[] } ∧ R (.ok (.ret (.ref s.heap.objs.size))) { s with heap := s.heap.push (boundA a) }) :=
  Meets.of_wp fun prog w A R s hs => by
    obtain ⟨hp, g, d, tk, os⟩ := s
    obtain ⟨hx, hs⟩ := hs
    have hT : (⟨hp, g, d, tk, os⟩ : Shared).TypeIs (.ref a) "list" := ⟨_, hx, rfl⟩
    have f0 := F.slot_list_append.lookup
    have f1 := F.type_list_append
    have f2 := slot_mget.lookup
    have f3 := mset_none
    have f4 := mdel_none
    unfold Builtin.«object.__getattribute__»
    repeat (any_goals (first | assumption | wp_step))
    refine codeAny_call_builtin slot_mget.plain entry_mget (slot_mget.check _ _ _ _ _ _ _ _ f1 (args_mget _ _ _) ?_)
    have f5 := told_not
    have f6 := sub_list_list
    unfold Builtin.«method_descriptor.__get__»
    refine wpAny_bind (wpAny_of_eq (a := (.builtin "list.append", some (.ref a), some (.type "list"))) (by first | rfl | kernel_rfl) ?_)
    dsimp only
    repeat (any_goals (first | assumption | wp_step))
    exact ⟨_, rfl, hs⟩

theorem getAttr_append {prog : Program} {w : World} {A : Around} {E : Value → Shared → Prop} {s : Shared} {a : Addr} {xs : Array Value} {k : Nat} {Q : Value → Shared → Prop} {ex : Bool}
    (hx : s.heap.get? a = some { cls := .type "list", data := .seq xs k })
    (h : Q (.ref s.heap.objs.size) { s with heap := s.heap.push (boundA a), toks := s.toks + 1 }) :
    wpAny (model prog w) A (getAttr (.ref a) "append" ex) Q E s := by
  obtain ⟨hp, g, d, tk, os⟩ := s
  have hT : ∀ tk', (⟨hp, g, d, tk', os⟩ : Shared).TypeIs (.ref a) "list" := fun _ => ⟨_, hx, rfl⟩
  have f3 := F.slot_list_getattribute.lookup
  have f4 := F.slot_list_getattribute.bind (.ref a)
  unfold getAttr getAttrBy
  cases ex
  all_goals repeat (any_goals (first | assumption | exact hT _ | ((with_reducible show wpAny _ _ (call (Value.builtin "list.__getattribute__") _ _) _ _ _); refine call_meets F.slot_list_getattribute (hT _) am_entry_list_getattribute (F.args_list_getattribute_2 _ _) (meets_hit a xs k _) ⟨hx, ?_⟩) | wp_step))
  all_goals exact wpAny_pure h

section
variable {prog : Program} {w : World} {A : Around} {E : Value → Shared → Prop} {s : Shared} {hp : Heap} {gn : Array GenState} {dr : Drawn} {tk : Nat} {os : OsState} {h₀ : Heap} {L D q : Addr} {m : PySem.Str → Option Value} {news news' : Led} {its : Array Value} {n : Nat}
theorem getAttr_append_N {ex : Bool} {Q : Value → Shared → Prop} (F : Fr h₀ L hp m) (N : News h₀ L hp news) (hm : (D, listOf its n) ∈ news)
    (h : ∀ q h', Fr h₀ L h' m → News h₀ L h' ((q, boundA D) :: news) → (∀ p ∈ news, p.1 < q) → Q (.ref q) ⟨h', gn, dr, tk + 1, os⟩) : wpAny (model prog w) A (getAttr (.ref D) "append" ex) Q E ⟨hp, gn, dr, tk, os⟩ :=
  getAttr_append (N _ hm).1 (h _ _ (F.push _) (N.push F _) fun p hp => Heap.lt_size (N p hp).1)
end
end Mine
end
section
open PySem PySem.W PyProof.Rows PySem.Calls
set_option maxRecDepth 100000
set_option maxHeartbeats 1000000
namespace Mine
section
variable {prog : Program} {w : World} {A : Around} {E : Value → Shared → Prop} {s : Shared} {hp : Heap} {gn : Array GenState} {dr : Drawn} {tk : Nat} {os : OsState} {h₀ : Heap} {L D q : Addr} {m : PySem.Str → Option Value} {news news' : Led} {its : Array Value} {n : Nat}
def StandsA (q D : Addr) (h : Heap) : Prop := h.get? q = some (boundA D)
theorem keeper_bound {Q : Keeper → Shared → Prop} (ho : StandsA q D s.heap) (h : Q .machine s) : wpAny (model prog w) A (keeperOf (.ref q)) Q E s := by
  unfold keeperOf
  refine wpAny_bind (wpAny_load ho ?_)
  simp only [boundA, show (Value.type "builtin_function_or_method" != Value.type "method") = true by decide, show (Value.type "builtin_function_or_method" == Value.type "builtin_function_or_method" || Value.type "builtin_function_or_method" == Value.type "method-wrapper") = true by decide, if_true]
  exact wpAny_pure h
theorem callWith_A {pos : Pos} {first : List Value} {env : Env} {e : Expr} {rest : List Expr} {Q : Value → Shared → Prop} (_N : News h₀ L s.heap news) (_hm : (q, boundA D) ∈ news)
    (h : wpAny (model prog w) A (spliced (backTo pos (starEach (e :: rest) env))) (fun vs s₁ => StandsA q D s₁.heap ∧ wpAny (model prog w) A (call (.ref q) (first ++ vs)) Q E s₁) E s)
    (he : starEach (e :: rest) env = (false, eval e env) :: starEach rest env := by rfl) (hplain : (backTo pos (starEach rest env)).any (·.1) = false := by rfl) :
    wpAny (model prog w) A (callWith pos (.ref q) first (backTo pos (starEach (e :: rest) env)) []) Q E s := by
  rw [he] at h ⊢
  unfold callWith
  refine wpAny_bind (wpAny_holding (wpAny_mono (evalArgs_plain (Q := fun (a : Args) s₁ => StandsA q D s₁.heap ∧ wpAny (model prog w) A (call (.ref q) (first ++ a.pos) a.kw) Q E s₁) h) (fun a s₁ h₁ => wpAny_bind (wpAny_standAt ?_)) fun _ _ x => x))
  obtain ⟨ho, hcall⟩ := h₁
  have hp : ((backTo pos ((false, eval e env) :: starEach rest env)).any (·.1)) = false := by show (false || (backTo pos (starEach rest env)).any (·.1)) = false; rw [hplain]; rfl
  simp only [hp, List.any_nil, Bool.or_false]
  refine wpAny_bind (keeper_bound ho ?_)
  exact wpAny_bind (wpAny_mono hcall (fun r s₂ hr => wpAny_bind (wpAny_holding (wpAny_point (wpAny_pure hr)))) fun _ _ x => x)
theorem sig_append : Manifest.signature? "list.append" = some ⟨.oneArg, "list.append", "append", .self, [⟨"object", .posOnly, true⟩]⟩ := by kernel_rfl
theorem kind_append : builtinKind "list.append" = some .method := by decide +kernel
theorem sub_list_module : isSubtype (.type "list") (.type "module") = pure false := by rw [isSubtype_type]; kernel_rfl
theorem sub_list_type : isSubtype (.type "list") (.type "type") = pure false := by rw [isSubtype_type]; kernel_rfl
theorem vararg_append : Manifest.varargsMethods.contains "list.append" = false := by decide +kernel
theorem check_bound (x : Value) {Q : Unit → Shared → Prop} (hD : s.heap.get? D = some (listOf its n)) (h : Q () s) : wpAny (model prog w) A (checkBoundCall "list.append" ⟨[.ref D, x], []⟩) Q E s := by
  have hT : s.TypeIs (.ref D) "list" := ⟨_, hD, rfl⟩
  have e1 := sig_append
  have e2 := kind_append
  have e3 := sub_list_module
  have e4 := sub_list_type
  have e5 := vararg_append
  unfold checkBoundCall
  rw [e1, e2]
  dsimp only
  rw [if_neg (by decide)]
  refine wpAny_bind (wpAny_isInstance hT e3 ?_)
  rw [if_neg (by rw [e5]; decide)]
  refine wpAny_bind (m := isType (.ref D)) ?_
  unfold isType
  refine wpAny_bind (m := loadHead D) (by unfold loadHead; exact wpAny_load hD (by refine wpAny_pure ?_; dsimp only; rw [if_neg (by decide)]; refine wpAny_bind (wpAny_typeOf hT ?_); dsimp only; exact wpAny_of_eq (a := ()) (by kernel_rfl) h))
theorem callA {x : Value} {Q : Value → Shared → Prop} (F : Fr h₀ L hp m) (N : News h₀ L hp news) (hm : (q, boundA D) ∈ news) (U : Upd D (listOf its n) (listOf (its.push x) (n + 1)) news news')
    (h : ∀ h', Fr h₀ L h' m → News h₀ L h' news' → Q .none ⟨h', gn, dr, tk, os⟩) (hsz : its.size ≤ sizeLine := by size_fits) : wpAny (model prog w) A (call (.ref q) [x]) Q E ⟨hp, gn, dr, tk, os⟩ := by
  obtain ⟨pre, post, rfl, rfl, a, b⟩ := U.split
  have z := N (D, listOf its n) (List.mem_append.mpr (.inr (.head _)))
  refine wpAny_call (codeAny_of_tree ?_)
  show wpAny _ A.in1 (callAny (.ref q) ⟨[x], []⟩) _ _ ⟨hp, gn, dr, tk, os⟩
  simp only [callAny]
  refine wpAny_bind (wpAny_load (N _ hm).1 ?_)
  simp only [boundA, show (Value.type "builtin_function_or_method" == Value.type "method" || Value.type "builtin_function_or_method" == Value.type "builtin_function_or_method" || Value.type "builtin_function_or_method" == Value.type "method-wrapper") = true by decide, if_true]
  show wpAny _ _ (checkBoundCall "list.append" ⟨[.ref D, x], []⟩ >>= fun _ => again (Code.builtin "list.append" ⟨[.ref D, x], []⟩)) _ _ ⟨hp, gn, dr, tk, os⟩
  refine wpAny_bind (check_bound x z.1 (wpAny_pure ?_))
  refine ⟨Code.quiet_builtin _ (by decide +kernel), codeAny_builtin entry_list_append ?_⟩
  show wpAny _ _ (updateSeq D (·.push x) >>= fun _ => ret .none) _ _ ⟨hp, gn, dr, tk, os⟩
  refine wpAny_bind (wpAny_updateSeq z.1 rfl (wpAny_pure (h _ (F.change (Heap.SameBut.update ..) z.2.1 z.2.2) (news_set N a b (Heap.SameBut.update ..) ?_))))
  rw [Heap.get?_update_self _ z.1 (by rw [mapSeq_push]; rfl), mapSeq_push]
end
end Mine
end
section
open PySem PySem.W PyProof.Rows PySem.Calls
set_option maxRecDepth 100000
set_option maxHeartbeats 1000000
namespace Mine
open PySem.Builtin PySem.Builtin.Str
theorem S_len (l : List Nat) : (S l).length = l.length := by simp [PySem.Str.length]
theorem S_cps (l : List Nat) : (S l).cps.toList = l := by simp
theorem S_app (a b : List Nat) : S a ++ S b = S (a ++ b) := PySem.Str.ext' (by rw [PySem.Str.cps_append]; simp)
theorem S_inj {a b : List Nat} (h : S a = S b) : a = b := by
  have := congrArg (fun x : PySem.Str => x.cps.toList) h
  simpa using this
theorem S_beq (a b : List Nat) : ((S a).cps.toList == (S b).cps.toList) = decide (a = b) := by rw [S_cps, S_cps, Bool.eq_iff_iff]; simp

/-- a slice's ends -/
def clampN (i : Int) (n : Nat) : Nat := if i < 0 then (i + n).toNat else min i.toNat n
def loN (lo : Option Int) (n : Nat) : Nat := match lo with | none => 0 | some i => clampN i n
def hiN (hi : Option Int) (n : Nat) : Nat := match hi with | none => n | some i => clampN i n
def cutL (l : List Nat) (lo hi : Option Int) : List Nat := (l.drop (loN lo l.length)).take (hiN hi l.length - loN lo l.length)
theorem cutL_le (l : List Nat) (lo hi : Option Int) : (cutL l lo hi).length ≤ l.length := by
  unfold cutL; rw [List.length_take, List.length_drop]; omega
theorem loN_le (lo : Option Int) (n : Nat) : loN lo n ≤ n := by unfold loN clampN; (repeat' split) <;> omega
theorem hiN_le (hi : Option Int) (n : Nat) : hiN hi n ≤ n := by unfold hiN clampN; (repeat' split) <;> omega
theorem sliceIdx_clamp (lo hi : Option Int) (n : Nat) (h : loN lo n ≤ hiN hi n) : strSliceIndices lo hi 1 n = strSliceIndices (some (loN lo n : Int)) (some (hiN hi n : Int)) 1 n := by
  have c1 : ∀ i : Int, max (0 : Int) (min (if i < 0 then i + n else i) n) = (clampN i n : Int) := fun i => by unfold clampN; (repeat' split) <;> omega
  have c2 : ∀ k : Nat, k ≤ n → max (0 : Int) (min (if (k : Int) < 0 then (k : Int) + n else k) n) = k := fun k hk => by split <;> omega
  simp only [strSliceIndices, show ((1 : Int) > 0) = True from by simp, if_true, c2 _ (loN_le lo n), c2 _ (hiN_le hi n)]
  cases lo <;> cases hi <;> simp only [loN, hiN, c1] <;> rfl
theorem sliceIdx_empty (lo hi : Option Int) (n : Nat) (h : ¬ loN lo n ≤ hiN hi n) : strSliceIndices lo hi 1 n = [] := by
  have c1 : ∀ i : Int, max (0 : Int) (min (if i < 0 then i + n else i) n) = (clampN i n : Int) := fun i => by unfold clampN; (repeat' split) <;> omega
  have key : ∀ a b : Int, b ≤ a → sliceRange a b 1 = [] := fun a b hab => by
    unfold sliceRange
    rw [if_pos (by decide), if_neg (by omega)]
    rfl
  simp only [strSliceIndices, show ((1 : Int) > 0) = True from by simp, if_true]
  refine key _ _ ?_
  cases lo <;> cases hi <;> simp only [loN, hiN, c1] at h ⊢ <;> omega
theorem slice_S (l : List Nat) (lo hi : Option Int) : Txt.slice (S l) lo hi = S (cutL l lo hi) := by
  have hn : (S l).length = l.length := S_len l
  by_cases h : loN lo l.length ≤ hiN hi l.length
  · have e : Txt.slice (S l) lo hi = StrLaws.sliceText (S l) (some (loN lo l.length : Int)) (some (hiN hi l.length : Int)) := by
      unfold Txt.slice StrLaws.sliceText
      rw [hn, sliceIdx_clamp lo hi l.length h]
    rw [e, StrLaws.sliceText_nat (S l) h (by rw [hn]; exact hiN_le _ _)]
    simp [cutL]
  · unfold Txt.slice
    rw [hn, sliceIdx_empty lo hi l.length h]
    have e1 : hiN hi l.length - loN lo l.length = 0 := by omega
    have e2 : l.length ≠ 0 := by have := loN_le lo l.length; intro e; omega
    rw [if_neg (by simp; intro e; exact e2 (by simp [e]))]
    simp [cutL, e1]

section
variable {prog : Program} {w : World} {A : Around} {E : Value → Shared → Prop} {s : Shared} {hp : Heap} {gn : Array GenState} {dr : Drawn} {tk : Nat} {os : OsState} {t u : Tok} {a b l : List Nat} {env : Env}
theorem lit_S {x : PySem.Str} {k : Nat} {pos : Pos} {Q : Value → Shared → Prop} (e : x = S l) (h : ∀ t' k, Q (.str (S l) t') ⟨hp, gn, dr, k, os⟩) :
    wpAny (model prog w) A (eval (.Constant (.str x) k pos) env) Q E ⟨hp, gn, dr, tk, os⟩ := by subst e; exact Constant_str (h _ _)
theorem truthy_S {Q : Bool → Shared → Prop} (hl : l.length ≤ 1000000) (h : ∀ k, Q (!l.isEmpty) ⟨hp, gn, dr, k, os⟩) : wpAny (model prog w) A (truthy (.str (S l) t)) Q E ⟨hp, gn, dr, tk, os⟩ := by
  refine P.truthy_str (by rw [S_len]; omega) ?_
  have e : (((S l).length : Int) != 0) = !l.isEmpty := by rw [S_len]; cases l <;> simp; omega
  rw [e]; exact h _
theorem len_S {Q : Value → Shared → Prop} (hl : l.length ≤ 1000000) (h : ∀ t' k, Q (.int (l.length : Int) t') ⟨hp, gn, dr, k, os⟩) : wpAny (model prog w) A (call (.builtin "len") [.str (S l) t]) Q E ⟨hp, gn, dr, tk, os⟩ := by
  refine SBL.len (by rw [S_len]; omega) ?_
  rw [S_len]; exact h _ _
theorem add_S {Q : Value → Shared → Prop} (hl : a.length + b.length ≤ 1000000) (h : ∀ t' k, Q (.str (S (a ++ b)) t') ⟨hp, gn, dr, k, os⟩) : wpAny (model prog w) A (binaryOp .Add (.str (S a) t) (.str (S b) u)) Q E ⟨hp, gn, dr, tk, os⟩ := by
  refine SB.add (fun t' k => ?_) (by rw [S_len, S_len]; exact Nat.le_trans hl (by decide))
  rw [S_app]; exact h _ _
theorem iadd_S {Q : Value → Shared → Prop} (hl : a.length + b.length ≤ 1000000) (h : ∀ t' k, Q (.str (S (a ++ b)) t') ⟨hp, gn, dr, k, os⟩) : wpAny (model prog w) A (inplaceOp .Add (.str (S a) t) (.str (S b) u)) Q E ⟨hp, gn, dr, tk, os⟩ := by
  refine SB.iadd (fun t' k => ?_) (by rw [S_len, S_len]; exact Nat.le_trans hl (by decide))
  rw [S_app]; exact h _ _
theorem eq_S {Q : Value → Shared → Prop} (h : Q (.bool (decide (a = b))) ⟨hp, gn, dr, tk, os⟩) : wpAny (model prog w) A (compareOp .Eq (.str (S a) t) (.str (S b) u)) Q E ⟨hp, gn, dr, tk, os⟩ :=
  PySem.P.eq_str (by rw [S_beq]; exact h)
theorem ord_S {c : Nat} {Q : Value → Shared → Prop} (h : ∀ t' k, Q (.int (c : Int) t') ⟨hp, gn, dr, k, os⟩) : wpAny (model prog w) A (call (.builtin "ord") [.str (S [c]) t]) Q E ⟨hp, gn, dr, tk, os⟩ :=
  PySem.P.ord_of_char (h _ _)
theorem in_S {c : Nat} {Q : Value → Shared → Prop} (h : Q (.bool (decide (c ∈ l))) ⟨hp, gn, dr, tk, os⟩) : wpAny (model prog w) A (compareOp .In (.str (S [c]) t) (.str (S l) u)) Q E ⟨hp, gn, dr, tk, os⟩ := by
  refine PySem.P.in_str ?_
  rw [show S [c] = (⟨#[c]⟩ : PySem.Str) from rfl, StrLaws.found_one, S_cps]; exact h
theorem item_S {value slice : PySem.Expr} {i : Int} {Q : Value → Shared → Prop} (h0 : 0 ≤ i) (h1 : i < l.length) (hl : l.length ≤ 1000000) (h : ∀ t' k, Q (.str (S [l.getD i.toNat 0]) t') ⟨hp, gn, dr, k, os⟩)
    (hs : subscripted slice false (.str (S l) t) (.int i u) = operate [.str (S l) t, .int i u] (getItem (.str (S l) t) (.int i u)) := by with_unfolding_all rfl)
    (ht : ∀ r, letTemporaryGo value (.str (S l) t) r = pure () := by intro _; with_unfolding_all rfl) :
    wpAny (model prog w) A (subscriptTail value slice (.str (S l) t) (.int i u)) Q E ⟨hp, gn, dr, tk, os⟩ := by
  refine KXi.item (S_len l) (by omega) h1 (by omega) (fun _ => ?_) hs ht
  have e : Txt.item (S l) i = S [l.getD i.toNat 0] := by
    unfold Txt.item Txt.charAt
    rw [StrLaws.seqIndex_nonneg h0 (by rw [S_len]; exact h1)]
    simp [List.getD_eq_getElem?_getD]
  rw [e]; exact h _ _
theorem last_S {value slice : PySem.Expr} {Q : Value → Shared → Prop} (hne : l ≠ []) (hl : l.length ≤ 1000000) (h : ∀ t' k, Q (.str (S [l.getLast?.getD 0]) t') ⟨hp, gn, dr, k, os⟩)
    (hs : subscripted slice false (.str (S l) t) (.int (-1) u) = operate [.str (S l) t, .int (-1) u] (getItem (.str (S l) t) (.int (-1) u)) := by with_unfolding_all rfl)
    (ht : ∀ r, letTemporaryGo value (.str (S l) t) r = pure () := by intro _; with_unfolding_all rfl) :
    wpAny (model prog w) A (subscriptTail value slice (.str (S l) t) (.int (-1) u)) Q E ⟨hp, gn, dr, tk, os⟩ := by
  have hp : 0 < l.length := List.length_pos_iff.mpr hne
  refine KXi.item (S_len l) (by omega) (by omega) (by omega) (fun _ => ?_) hs ht
  have e : Txt.item (S l) (-1) = S [l.getLast?.getD 0] := by
    unfold Txt.item Txt.charAt
    rw [StrLaws.seqIndex_neg (by decide) (by rw [S_len]; omega), S_len]
    have e1 : ((-1 : Int) + (l.length : Int)).toNat = l.length - 1 := by omega
    rw [e1, List.getLast?_eq_getElem?]
    simp
  rw [e]; exact h _ _
end
section
variable {prog : Program} {w : World} {A : Around} {E : Value → Shared → Prop} {s : Shared} {hp : Heap} {gn : Array GenState} {dr : Drawn} {tk : Nat} {os : OsState} {value slice : PySem.Expr} {x : List Nat} {t : Tok} {h₀ : Heap} {L : Addr} {m : PySem.Str → Option Value} {news : Led} {Q : Value → Shared → Prop}
theorem slice_nn (hF : Fr h₀ L hp m) (hN : News h₀ L hp news) (hsz : x.length ≤ 1000000) (h : ∀ h' t' k, Fr h₀ L h' m → News h₀ L h' news → Q (.str (S x) t') ⟨h', gn, dr, k, os⟩)
    (hs : subscripted slice false (.str (S x) t) (.ref hp.objs.size) = operate [.ref hp.objs.size, .str (S x) t] (getItem (.str (S x) t) (.ref hp.objs.size)) := by with_unfolding_all rfl)
    (ht : ∀ r, letTemporaryGo value (.str (S x) t) r = pure () := by intro _; with_unfolding_all rfl) :
    wpAny (model prog w) A (subscriptTail value slice (.str (S x) t) (.ref hp.objs.size)) Q E ⟨hp.push { cls := .type "slice", data := .fields #[.none, .none, .none] }, gn, dr, tk, os⟩ :=
  slice_strN_nn (s := ⟨hp, gn, dr, tk, os⟩) hF hN (fun h' t' k a b => by rw [slice_S]; simpa [cutL, loN, hiN] using h h' t' k a b) hs ht (by rw [S_len]; exact Nat.le_trans hsz (by decide))
theorem slice_ns {j : Int} {uj : Tok} (hF : Fr h₀ L hp m) (hN : News h₀ L hp news) (hsz : x.length ≤ 1000000) (h : ∀ h' t' k, Fr h₀ L h' m → News h₀ L h' news → Q (.str (S (cutL x none (some j))) t') ⟨h', gn, dr, k, os⟩)
    (hs : subscripted slice false (.str (S x) t) (.ref hp.objs.size) = operate [.ref hp.objs.size, .str (S x) t] (getItem (.str (S x) t) (.ref hp.objs.size)) := by with_unfolding_all rfl)
    (ht : ∀ r, letTemporaryGo value (.str (S x) t) r = pure () := by intro _; with_unfolding_all rfl) :
    wpAny (model prog w) A (subscriptTail value slice (.str (S x) t) (.ref hp.objs.size)) Q E ⟨hp.push { cls := .type "slice", data := .fields #[.none, .int j uj, .none] }, gn, dr, tk, os⟩ :=
  slice_strN_ns (s := ⟨hp, gn, dr, tk, os⟩) hF hN (fun h' t' k a b => by rw [slice_S]; exact h h' t' k a b) hs ht (by rw [S_len]; exact Nat.le_trans hsz (by decide))
theorem slice_sn {i : Int} {ui : Tok} (hF : Fr h₀ L hp m) (hN : News h₀ L hp news) (hsz : x.length ≤ 1000000) (h : ∀ h' t' k, Fr h₀ L h' m → News h₀ L h' news → Q (.str (S (cutL x (some i) none)) t') ⟨h', gn, dr, k, os⟩)
    (hs : subscripted slice false (.str (S x) t) (.ref hp.objs.size) = operate [.ref hp.objs.size, .str (S x) t] (getItem (.str (S x) t) (.ref hp.objs.size)) := by with_unfolding_all rfl)
    (ht : ∀ r, letTemporaryGo value (.str (S x) t) r = pure () := by intro _; with_unfolding_all rfl) :
    wpAny (model prog w) A (subscriptTail value slice (.str (S x) t) (.ref hp.objs.size)) Q E ⟨hp.push { cls := .type "slice", data := .fields #[.int i ui, .none, .none] }, gn, dr, tk, os⟩ :=
  slice_strN_sn (s := ⟨hp, gn, dr, tk, os⟩) hF hN (fun h' t' k a b => by rw [slice_S]; exact h h' t' k a b) hs ht (by rw [S_len]; exact Nat.le_trans hsz (by decide))
theorem slice_ss {i j : Int} {ui uj : Tok} (hF : Fr h₀ L hp m) (hN : News h₀ L hp news) (hsz : x.length ≤ 1000000) (h : ∀ h' t' k, Fr h₀ L h' m → News h₀ L h' news → Q (.str (S (cutL x (some i) (some j))) t') ⟨h', gn, dr, k, os⟩)
    (hs : subscripted slice false (.str (S x) t) (.ref hp.objs.size) = operate [.ref hp.objs.size, .str (S x) t] (getItem (.str (S x) t) (.ref hp.objs.size)) := by with_unfolding_all rfl)
    (ht : ∀ r, letTemporaryGo value (.str (S x) t) r = pure () := by intro _; with_unfolding_all rfl) :
    wpAny (model prog w) A (subscriptTail value slice (.str (S x) t) (.ref hp.objs.size)) Q E ⟨hp.push { cls := .type "slice", data := .fields #[.int i ui, .int j uj, .none] }, gn, dr, tk, os⟩ :=
  slice_strN_ss (s := ⟨hp, gn, dr, tk, os⟩) hF hN (fun h' t' k a b => by rw [slice_S]; exact h h' t' k a b) hs ht (by rw [S_len]; exact Nat.le_trans hsz (by decide))

/-- texts with their tokens, as a list holds them -/
def sv (l : List (List Nat × Tok)) : List Value := l.map fun p => .str (S p.1) p.2
theorem sv_append (a b : List (List Nat × Tok)) : sv (a ++ b) = sv a ++ sv b := by simp [sv]
theorem sv_len (a : List (List Nat × Tok)) : (sv a).length = a.length := by simp [sv]
theorem strValues_sv (l : List (List Nat × Tok)) : strValues (l.map fun p => (S p.1, p.2)) = sv l := by simp [strValues, sv]
theorem joinL_glued (e : List Nat) : ∀ ys : List (List Nat), Str.join (S e) (ys.map S) = S (joinL e ys)
  | [] => rfl
  | [x] => rfl
  | x :: y :: r => by
    show S x ++ S e ++ Str.join (S e) ((y :: r).map S) = _
    rw [joinL_glued e (y :: r), S_app, S_app]; rfl
/-- what a list of texts weighs -/
def weight (ys : List (List Nat)) : Nat := (ys.map (·.length)).sum + ys.length
theorem join_S {D : Addr} {n : Nat} {l : List (List Nat × Tok)} {e : List Nat} {ys : List (List Nat)} (hN : News h₀ L hp news) (hD : (D, listOf (sv l).toArray n) ∈ news) (hy : l.map (·.1) = ys) (he : e.length ≤ 4) (hw : weight ys ≤ 200000)
    (h : ∀ t' k, Q (.str (S (joinL e ys)) t') ⟨hp, gn, dr, k, os⟩) : wpAny (model prog w) A (call (.builtin "str.join") [.str (S e) t, .ref D]) Q E ⟨hp, gn, dr, tk, os⟩ := by
  refine SC.join (l := l.map fun p => (S p.1, p.2)) (texts := ys.map S) ?_ ?_ ?_ fun t' k => ?_
  · rw [strValues_sv]; exact ⟨_, (hN _ hD).1, rfl, n, rfl⟩
  · rw [← hy]; simp
  · exact joinOk_of_weight (by
      unfold weight at hw
      simp only [List.map_map, List.length_map]
      have : (ys.map (PySem.Str.length ∘ S)) = ys.map (·.length) := List.map_congr_left fun y _ => S_len y
      rw [this]; omega) (by rw [S_len]; omega)
  · have e1 : Txt.join (S e) (ys.map S) = S (joinL e ys) := (StrLaws.glued_eq_join _ _).trans (joinL_glued e ys)
    rw [e1]; exact h _ _
end
end Mine
end
section
open PySem PySem.W PyProof.Rows PySem.Calls
set_option maxRecDepth 100000
set_option maxHeartbeats 1000000
namespace Mine
open PySem.Builtin PySem.Builtin.Str PySem.StrLaws
theorem strSub_S (t : List Nat) (i j : Nat) : strSub (S t) i j = S ((t.drop i).take (j - i)) :=
  StrLaws.mk_of_toList (by rw [StrLaws.strSub_toList, S_cps])
abbrev brkU : Nat → Bool := Unicode.isLineBreak
theorem brkU_nl : brkU 10 = true ∧ brkU 13 = true := by decide
def spanL (t : List Nat) (p : Nat × Nat × Nat) : List Nat := (t.drop p.1).take (p.2.1 - p.1)
def LsRel (t : List Nat) (i : Nat) (st : LsSt) (s : LSt) : Prop :=
  st.fst.toList.map (spanL t) = s.1 ∧
  ((st.snd ≤ i ∧ s.2.1 = (t.drop st.snd).take (i - st.snd) ∧ ¬ (s.2.2 = true ∧ t[i]? = some 10)) ∨ (st.snd = i + 1 ∧ s.2.2 = true ∧ t[i]? = some 10 ∧ s.2.1 = []))
theorem lsRel_step {t : List Nat} {i : Nat} {lines : Array (Nat × Nat × Nat)} {start : Nat} {s : LSt} {c : Nat} (hc : t[i]? = some c) (h : LsRel t i (lines, start) s) :
    LsRel t (i + 1) (if (decide (start ≤ i) && brkU c) = true then (lines.push (start, i, if (c == 13 && t[i + 1]? == some 10) = true then i + 2 else i + 1), if (c == 13 && t[i + 1]? == some 10) = true then i + 2 else i + 1) else (lines, start)) (lstep brkU s c) := by
  obtain ⟨h1, h2⟩ := h
  simp only at h1 h2
  obtain ⟨d, cur, cr⟩ := s
  simp only at h1 h2
  rcases h2 with ⟨hle, hcur, hcr⟩ | ⟨hst, hcr, h10, hcur⟩
  · have hj : (cr && c == 10) = false := by
      rw [Bool.eq_false_iff]
      intro h
      rw [Bool.and_eq_true, beq_iff_eq] at h
      exact hcr ⟨h.1, by rw [hc, h.2]⟩
    unfold lstep
    simp only [hj, Bool.false_eq_true, if_false]
    by_cases hb : brkU c = true
    · simp only [hle, decide_true, hb, Bool.and_self, if_true]
      refine ⟨by simp [h1, spanL, hcur], ?_⟩
      by_cases hn : (c == 13 && t[i + 1]? == some 10) = true
      · rw [if_pos hn]
        rw [Bool.and_eq_true, beq_iff_eq, beq_iff_eq] at hn
        exact .inr ⟨rfl, by simp [hn.1], hn.2, rfl⟩
      · rw [if_neg hn]
        refine .inl ⟨Nat.le_refl _, by simp, ?_⟩
        rintro ⟨a, b⟩
        exact hn (by simp only at a; rw [a, b]; rfl)
    · have hb' : brkU c = false := by simpa using hb
      simp only [hb', Bool.and_false, Bool.false_eq_true, if_false]
      refine ⟨h1, .inl ⟨by omega, ?_, by simp⟩⟩
      rw [hcur, show i + 1 - start = (i - start) + 1 from by omega, List.take_add_one, List.getElem?_drop, show start + (i - start) = i from by omega, hc]
      rfl
  · have hcc : c = 10 := by rw [hc] at h10; exact Option.some.inj h10
    subst hcc
    subst hcr
    unfold lstep
    have hno : ¬ start ≤ i := by omega
    simp only [hno, decide_false, Bool.false_and, Bool.false_eq_true, if_false, beq_self_eq_true, Bool.and_self, if_true]
    refine ⟨h1, .inl ⟨by omega, ?_, by simp⟩⟩
    rw [hcur]; simp [hst]
theorem lsRel_run (t : List Nat) : ∀ (m cur : Nat) (st : LsSt) (s : LSt), cur + m = t.length → LsRel t cur st s →
    LsRel t t.length (Id.run (forIn (m := Id) (List.range' cur m) st (lsBody (S t)))) ((t.drop cur).foldl (lstep brkU) s)
  | 0, cur, st, s, e, h => by
    have : cur = t.length := by omega
    subst this
    rw [List.drop_length]; exact h
  | m + 1, cur, (lines, start), s, e, h => by
    have hlt : cur < t.length := by omega
    have hc : t[cur]? = some t[cur] := List.getElem?_eq_getElem hlt
    rw [List.range'_succ, List.forIn_cons, List.drop_eq_getElem_cons hlt, List.foldl_cons]
    have hst := lsRel_step hc h
    have e1 : (S t).cps.getD cur 0 = t[cur] := by simp [Array.getD, hlt]
    have e2 : (S t).cps[cur + 1]? = t[cur + 1]? := by simp
    have e3 : lsBody (S t) cur (lines, start) = pure (ForInStep.yield (if (decide (start ≤ cur) && brkU t[cur]) = true then (lines.push (start, cur, if (t[cur] == 13 && t[cur + 1]? == some 10) = true then cur + 2 else cur + 1), if (t[cur] == 13 && t[cur + 1]? == some 10) = true then cur + 2 else cur + 1) else (lines, start))) := by
      unfold lsBody lsNext
      rw [e1, e2]
      simp only
      split <;> rfl
    rw [e3]
    exact lsRel_run t m (cur + 1) _ _ (by omega) hst
theorem lineSpans_S (t : List Nat) : (lineSpans (S t)).map (spanL t) = linesL brkU t := by
  have hlen : (S t).length = t.length := S_len t
  have h := lsRel_run t t.length 0 (#[], 0) ([], [], false) (by omega) ⟨rfl, .inl ⟨Nat.le_refl _, by simp, by simp⟩⟩
  rw [ls_eq, hlen]
  rw [List.drop_zero] at h
  generalize Id.run (forIn (m := Id) (List.range' 0 t.length) ((#[], 0) : LsSt) (lsBody (S t))) = st at h ⊢
  unfold linesL lfold
  generalize t.foldl (lstep brkU) ([], [], false) = s at h ⊢
  obtain ⟨lines, start⟩ := st
  obtain ⟨d, cur, cr⟩ := s
  obtain ⟨h1, h2⟩ := h
  simp only at h1 h2
  unfold lsEnd lend
  simp only [hlen]
  rcases h2 with ⟨hle, hcur, _⟩ | ⟨_, _, h10, _⟩
  · by_cases hs : start < t.length
    · have hne : cur ≠ [] := by
        rw [hcur]; intro e
        have := congrArg List.length e
        simp at this; omega
      rw [if_pos hs, if_neg hne]
      simp [h1, spanL, hcur]
    · have hn : cur = [] := by
        rw [hcur]
        have : t.length - start = 0 := by omega
        rw [this, List.take_zero]
      rw [if_neg hs, if_pos hn]; exact h1
  · simp at h10
theorem lines_S (t : List Nat) : Txt.lines (S t) = (linesL brkU t).map S := by
  have e1 : linesOf (S t) = (linesL brkU t).map S := by
    rw [← lineSpans_S]
    unfold linesOf lineCuts
    rw [List.map_map, List.map_map]
    refine List.map_congr_left fun p _ => ?_
    show strSub (S t) p.1 (if false = true then p.2.2 else p.2.1) = _
    rw [if_neg (by decide), strSub_S]; rfl
  unfold Txt.lines
  split
  · rename_i h
    rw [← e1]
    unfold linesOf
    rw [beq_iff_eq.mp h]
    simp only [List.map_cons, List.map_nil]
    rw [StrLaws.sub_whole]
  · exact e1
theorem brkOk_U : BrkOk brkU := by
  intro c hc
  have small : ∀ c, c < 127 → (c = 9 ∨ c = 10 ∨ c = 13 ∨ (32 ≤ c ∧ c ≤ 126)) → brkU c = isBrk c := by decide
  by_cases h : c < 127
  · exact small c h (by omega)
  · have h256 : 256 ≤ c := by omega
    by_cases h2 : c = 0x2028 ∨ c = 0x2029
    · rcases h2 with rfl | rfl <;> rfl
    · have e1 : isBrk c = false := by simp only [isBrk, Bool.or_eq_false_iff, beq_eq_false_iff_ne]; omega
      rw [e1]
      show Unicode.within UnicodeData.lineBreak c = false
      simp only [UnicodeData.lineBreak, UnicodeData.lineBreak0, Unicode.within]
      (repeat' split) <;> simp <;> omega
theorem lineCuts_len (t : List Nat) : (lineCuts (S t)).length ≤ t.length + 1 := by
  have h := StrLaws.lines_weight (S t)
  unfold lineCuts
  rw [List.length_map]
  have h2 := (StrLaws.ls_weight (S t)).1
  have h3 : ∀ l : List (Nat × Nat × Nat), l.length ≤ StrLaws.lsum l := fun l => by
    induction l with
    | nil => exact Nat.le_refl _
    | cons p r ih => simp only [StrLaws.lsum, List.length_cons]; omega
  have h4 := h3 (lineSpans (S t))
  rw [S_len] at h2
  omega
section
variable {prog : Program} {w : World} {A : Around} {E : Value → Shared → Prop} {s : Shared} {hp : Heap} {gn : Array GenState} {dr : Drawn} {tk : Nat} {os : OsState} {x : List Nat} {t : Tok} {h₀ : Heap} {L : Addr} {m : PySem.Str → Option Value} {news : Led} {Q : Value → Shared → Prop}
theorem splitlines_S (hF : Fr h₀ L hp m) (hN : News h₀ L hp news) (hsz : x.length ≤ 100000)
    (h : ∀ (l : List (List Nat × Tok)) D h' k, l.map (·.1) = linesL brkU x → Fr h₀ L h' m → News h₀ L h' ((D, listOf (sv l).toArray 0) :: news) → (∀ p ∈ news, p.1 < D) → Q (.ref D) ⟨h', gn, dr, k, os⟩) :
    wpAny (model prog w) A (call (.builtin "str.splitlines") [.str (S x) t]) Q E ⟨hp, gn, dr, tk, os⟩ := by
  refine splitlinesN hF hN (fun l h' k e F' N' => ?_) (by rw [S_len]; exact Nat.le_trans hsz (by decide)) (Nat.le_trans (lineCuts_len x) (Nat.le_trans (Nat.succ_le_succ hsz) (by decide)))
  rw [lines_S] at e
  have hl : l.map (fun p => (S p.1.cps.toList, p.2)) = l := by
    conv => rhs; rw [← List.map_id l]
    refine List.map_congr_left fun p _ => ?_
    show (S p.1.cps.toList, p.2) = p
    rw [show S p.1.cps.toList = p.1 from rfl]
  have e2 : strValues l = sv (l.map fun p => (p.1.cps.toList, p.2)) := by
    rw [← strValues_sv, List.map_map]
    exact congrArg strValues hl.symm
  rw [e2] at N'
  refine h _ _ h' k ?_ F' N' fun p hp => Heap.lt_size (hN p hp).1
  have := congrArg (List.map fun y : PySem.Str => y.cps.toList) e
  rw [List.map_map, List.map_map] at this
  rw [List.map_map]
  rw [show (fun p : List Nat × Tok => p.1) ∘ (fun p : PySem.Str × Tok => (p.1.cps.toList, p.2)) = (fun y : PySem.Str => y.cps.toList) ∘ (fun p : PySem.Str × Tok => p.1) from rfl, this]
  conv => rhs; rw [← List.map_id (linesL brkU x)]
  refine List.map_congr_left fun y _ => ?_
  simp
end
end Mine
end
section
open PySem PySem.W
namespace Mine
theorem weight_append (a b : List (List Nat)) : weight (a ++ b) = weight a + weight b := by simp [weight]; omega
theorem weight_cons (x : List Nat) (b : List (List Nat)) : weight (x :: b) = x.length + 1 + weight b := by simp [weight]; omega
theorem weight_nil : weight [] = 0 := rfl
theorem weight_flatten (a : List (List Nat)) : a.flatten.length ≤ weight a := by simp [weight, List.length_flatten]
theorem weight_len (a : List (List Nat)) : a.length ≤ weight a := by simp [weight]
theorem wrapF_rest {L : Nat} : ∀ (f : Nat) (rem : List Nat), (wrapF L f rem).2.length ≤ rem.length
  | 0, rem => Nat.le_refl _
  | f + 1, rem => by
    rw [wrapF_succ]
    split
    · exact Nat.le_refl _
    · split
      · exact Nat.le_trans (wrapF_rest f _) (by simp)
      · split
        · exact Nat.le_trans (wrapF_rest f _) (by simp)
        · exact Nat.le_trans (wrapF_rest f _) (by simp)
theorem wrapF_weight {L : Nat} (hL : 4 ≤ L) : ∀ (f : Nat) (rem : List Nat), weight (wrapF L f rem).1 + 4 * (wrapF L f rem).2.length ≤ 4 * rem.length
  | 0, rem => by simp [wrapF, weight]
  | f + 1, rem => by
    rw [wrapF_succ]
    split
    · simp [weight]
    · rename_i h
      split
      · have := wrapF_weight hL f (rem.drop (L - 3))
        rw [List.length_drop] at this
        simp only [weight_cons, List.length_take]; omega
      · split
        · have := wrapF_weight hL f (rem.drop (L - 2))
          rw [List.length_drop] at this
          simp only [weight_cons, List.length_take]; omega
        · have := wrapF_weight hL f (rem.drop (L - 1))
          rw [List.length_drop] at this
          simp only [weight_cons, List.length_take, List.length_append, List.length_cons, List.length_nil]; omega
theorem tailItem_len (L : Nat) {e rem : List Nat} (he : e.length ≤ 2) : (tailItem L e rem).length ≤ rem.length + 7 := by
  unfold tailItem tailQ
  split
  · (repeat' split) <;> simp [quoteL] <;> omega
  · omega
theorem weight_items {L : Nat} (hL : 4 ≤ L) {e line : List Nat} (he : e.length ≤ 2) : weight (lineItems L e line) ≤ 4 * line.length + 8 := by
  unfold lineItems
  have h1 := wrapF_weight hL line.length line
  have h2 := tailItem_len L (rem := (wrapF L line.length line).2) he
  rw [weight_append, weight_cons, weight_nil]
  omega
def wsum (ls : List (List Nat)) : Nat := (ls.map fun y => y.length + 1).sum
theorem weight_flat {L : Nat} (hL : 4 ≤ L) {e : List Nat} (he : e.length ≤ 2) : ∀ ls : List (List Nat), weight (ls.flatMap (lineItems L e)) ≤ 8 * wsum ls
  | [] => by simp [weight, wsum]
  | l :: r => by
    have h1 := weight_flat hL he r
    have h2 := weight_items hL (line := l) he
    rw [List.flatMap_cons, weight_append]
    simp only [wsum, List.map_cons, List.sum_cons] at h1 ⊢
    omega
theorem wsum_append (a b : List (List Nat)) : wsum (a ++ b) = wsum a + wsum b := by simp [wsum]
theorem wsum_lines (t : List Nat) : wsum (linesL brkU t) ≤ t.length + 1 := by
  have h := StrLaws.lines_weight (S t)
  rw [lines_S, S_len] at h
  have e : ∀ ls : List (List Nat), ((ls.map S).map (·.length)).sum + (ls.map S).length = wsum ls := fun ls => by
    induction ls with
    | nil => rfl
    | cons a r ih =>
      simp only [wsum, List.map_cons, List.sum_cons, List.length_cons] at ih ⊢
      have := S_len a
      omega
  rw [e] at h
  exact h
theorem wsum_mem {ls : List (List Nat)} {y : List Nat} (h : y ∈ ls) : y.length + 1 ≤ wsum ls := by
  induction ls with
  | nil => cases h
  | cons a r ih =>
    simp only [wsum, List.map_cons, List.sum_cons] at ih ⊢
    rcases List.mem_cons.mp h with rfl | h
    · omega
    · have := ih h; omega
end Mine
end
section
open PySem PySem.W PyProof.Rows PySem.Calls
set_option linter.unusedVariables false
set_option linter.unusedSimpArgs false
set_option maxRecDepth 100000
set_option maxHeartbeats 1000000
namespace Mine
def tableOk (items : Array Value) : Bool := (List.range 256).all fun c => match items[c]? with | some (.str y _) => y.cps.toList == tr c | _ => false
theorem TableIs.of_ok {items : Array Value} (h : tableOk items = true) : TableIs items := fun c hc => by
  have := List.all_eq_true.mp h c (List.mem_range.mpr hc)
  split at this
  · rename_i y t e
    exact ⟨t, by rw [e, ← beq_iff_eq.mp this]⟩
  · cases this
theorem lit_eq : PySem.Str.ofString "=" = S [61] := by decide +kernel
theorem lit_empty : PySem.Str.ofString "" = S [] := by decide +kernel
theorem lit_ws : PySem.Str.ofString " \t" = S [32, 9] := by decide +kernel
theorem lit_crlf : PySem.Str.ofString "\x0d\n" = S [13, 10] := by decide +kernel
theorem lit_tab : PySem.Str.ofString "\t" = S [9] := by decide +kernel
theorem lit_sp : PySem.Str.ofString " " = S [32] := by decide +kernel
theorem lit_lf : PySem.Str.ofString "\n" = S [10] := by decide +kernel
theorem lit_cr : PySem.Str.ofString "\x0d" = S [13] := by decide +kernel
theorem lit_k : PySem.Str.ofString "k" = S [107] := by decide +kernel
theorem lit_q20 : PySem.Str.ofString "=20" = S [61, 50, 48] := by decide +kernel
theorem lit_q09 : PySem.Str.ofString "=09" = S [61, 48, 57] := by decide +kernel
theorem lit_hex : PySem.Str.ofString "0123456789ABCDEF" = S [48, 49, 50, 51, 52, 53, 54, 55, 56, 57, 65, 66, 67, 68, 69, 70] := by decide +kernel
theorem item_E {prog : Program} {w : World} {A : Around} {E : Value → Shared → Prop} {hp : Heap} {gn : Array GenState} {dr : Drawn} {tk : Nat} {os : OsState} {t u : Tok} {x : PySem.Str} {l : List Nat} {value slice : PySem.Expr} {i : Int} {Q : Value → Shared → Prop} (hx : x = S l) (h0 : 0 ≤ i) (h1 : i < l.length) (hl : l.length ≤ 1000000) (h : ∀ t' k, Q (.str (S [l.getD i.toNat 0]) t') ⟨hp, gn, dr, k, os⟩)
    (hs : subscripted slice false (.str x t) (.int i u) = operate [.str x t, .int i u] (getItem (.str x t) (.int i u)) := by with_unfolding_all rfl)
    (ht : ∀ r, letTemporaryGo value (.str x t) r = pure () := by intro _; with_unfolding_all rfl) :
    wpAny (model prog w) A (subscriptTail value slice (.str x t) (.int i u)) Q E ⟨hp, gn, dr, tk, os⟩ := by
  subst hx; exact item_S h0 h1 hl h hs ht
theorem joinL_nil : ∀ ys : List (List Nat), joinL [] ys = ys.flatten
  | [] => rfl
  | [x] => by simp [joinL]
  | x :: y :: r => by
    show x ++ [] ++ joinL [] (y :: r) = _
    rw [joinL_nil (y :: r)]; simp
theorem in_E {prog : Program} {w : World} {A : Around} {E : Value → Shared → Prop} {hp : Heap} {gn : Array GenState} {dr : Drawn} {tk : Nat} {os : OsState} {t u : Tok} {c : Nat} {y : PySem.Str} {l : List Nat} {Q : Value → Shared → Prop} (hy : y = S l) (h : Q (.bool (decide (c ∈ l))) ⟨hp, gn, dr, tk, os⟩) : wpAny (model prog w) A (compareOp .In (.str (S [c]) t) (.str y u)) Q E ⟨hp, gn, dr, tk, os⟩ := by
  subst hy; exact in_S h
theorem getm_translate {M : Model} {A : Around} {E : Value → Shared → Prop} {s : Shared} {x : PySem.Str} {t : Tok} {pl : Sem Bool} {Q : Value × List Value → Shared → Prop} (h : Q (.builtin "str.translate", [.str x t]) s) : wpAny M A (getMethod (.str x t) "translate" pl) Q E s := by
  with_reducible exact GM.of (.str x t) (typeIs_str _ _ _) F.slot_str_translate F.type_str_translate GM.noRef h
section
variable {prog : Program} {w : World} {M : Model} {A : Around} {E : Value → Shared → Prop} {s : Shared} {hp : Heap} {gn : Array GenState} {dr : Drawn} {tk : Nat} {os : OsState} {a b : Int} {t u : Tok} {Q : Value → Shared → Prop} {env : Env}
theorem const_int_t {k : Nat} {pos : Pos} (h : ∀ t' k, Q (.int a t') ⟨hp, gn, dr, k, os⟩) : wpAny M A (eval (.Constant (.int a) k pos) env) Q E ⟨hp, gn, dr, tk, os⟩ := wpAny_Constant_int (h _ _)
theorem add_int_t (h : ∀ t' k, Q (.int (a + b) t') ⟨hp, gn, dr, k, os⟩) : wpAny (model prog w) A (binaryOp .Add (.int a t) (.int b u)) Q E ⟨hp, gn, dr, tk, os⟩ := PySem.P.add_int (h _ _)
theorem sub_int_t (h : ∀ t' k, Q (.int (a - b) t') ⟨hp, gn, dr, k, os⟩) : wpAny (model prog w) A (binaryOp .Sub (.int a t) (.int b u)) Q E ⟨hp, gn, dr, tk, os⟩ := PySem.P.sub_int (h _ _)
end
theorem ne_of_isEmpty {l : List Nat} (h : l.isEmpty = false) : l ≠ [] := by rintro rfl; cases h
theorem loc1 {m₀ : PySem.Str → Option Value} {a : PySem.Str} {v : Value} (h : m₀ a = some v) : ∀ p ∈ [(a, v)], m₀ p.1 = some p.2 := fun p hp => by rw [List.mem_singleton.mp hp]; exact h
theorem sv_cons {v : Value} {rest : List Value} {r : List (List Nat × Tok)} (h : v :: rest = sv r) : ∃ y t r', r = (y, t) :: r' ∧ v = .str (S y) t ∧ rest = sv r' := by
  cases r with
  | nil => simp [sv] at h
  | cons y r' => exact ⟨y.1, y.2, r', rfl, by simpa [sv] using (List.cons.inj h).1, by simpa [sv] using (List.cons.inj h).2⟩
theorem led_ne {d : Addr} {l : Led} (h : ∀ p ∈ l, p.1 < d) : ∀ p ∈ l, p.1 ≠ d := fun p hp => Nat.ne_of_lt (h p hp)
theorem standsA_of {h₀ h : Heap} {L q D : Addr} {news : Led} (N : News h₀ L h news) (hm : (q, boundA D) ∈ news) : StandsA q D h := (N _ hm).1
theorem enc_ne {x : List Nat} (h : x ≠ []) : enc x ≠ [] := by
  cases x with
  | nil => exact absurd rfl h
  | cons a r => simp only [enc, List.flatMap_cons, ne_eq, List.append_eq_nil_iff, not_and]; intro e; exfalso; revert e; unfold tr piece; (repeat' split) <;> simp
theorem enc_len {x : List Nat} {n : Nat} (h : x.length ≤ n) : (enc x).length ≤ 3 * n := by
  have htr : ∀ c, (tr c).length ≤ 3 := fun c => by unfold tr piece; (repeat' split) <;> simp [quoteL]
  induction x generalizing n with
  | nil => simp [enc]
  | cons a r ih =>
    rw [List.length_cons] at h
    have h1 := ih (n := n - 1) (by omega)
    have h2 := htr a
    simp only [enc, List.flatMap_cons, List.length_append] at h1 ⊢
    omega
abbrev Txts := List (List Nat × Tok)
def bodyP (L : Nat) (e : List Nat) (l : Txts) (D q en : Addr) (news : Led) (pre rest : List Value) (c : Txts × Nat) (led : Led) : Prop :=
  ∃ p r, pre = sv p ∧ rest = sv r ∧ l = p ++ r ∧ led = (D, listOf (sv l).toArray 0) :: (q, boundA en) :: (en, listOf (sv c.1).toArray c.2) :: news ∧ c.1.map (·.1) = (p.map (·.1)).flatMap (lineItems L e)
def whileP (L : Nat) (line : List Nat) (out l : Txts) (I : Addr) (it : Obj) (D q en : Addr) (news : Led) (c : Nat × Tok × Txts × Nat) (led : Led) : Prop :=
  ∃ chunks f, led = (I, it) :: (D, listOf (sv l).toArray 0) :: (q, boundA en) :: (en, listOf (sv c.2.2.1).toArray c.2.2.2) :: news ∧ c.2.2.1.map (·.1) = out.map (·.1) ++ chunks ∧ c.1 ≤ line.length ∧ (line ≠ [] → c.1 < line.length) ∧
    (line.drop c.1).length ≤ f ∧ wrapF L line.length line = (chunks ++ (wrapF L f (line.drop c.1)).1, (wrapF L f (line.drop c.1)).2)
theorem cutL_ii {l : List Nat} {i j : Int} {a b : Nat} (hi : i = a) (hj : j = b) (ha : a ≤ l.length) (hb : b ≤ l.length) : cutL l (some i) (some j) = (l.drop a).take (b - a) := by
  subst hi hj
  unfold cutL loN hiN clampN
  simp only
  have h1 : ¬ ((a : Int) < 0) := by omega
  have h2 : ¬ ((b : Int) < 0) := by omega
  rw [if_neg h1, if_neg h2]
  have e1 : min (a : Int).toNat l.length = a := by omega
  have e2 : min (b : Int).toNat l.length = b := by omega
  rw [e1, e2]
theorem getD_drop0 (l : List Nat) (k i : Nat) : (l.drop k).getD i 0 = l.getD (k + i) 0 := by
  simp [List.getD_eq_getElem?_getD, List.getElem?_drop]
section
variable {L k f : Nat} {line : List Nat} {chunks : List (List Nat)}
theorem wrap_turn1 (hL : 4 ≤ L) (hgt : L < (line.drop k).length) (hf : (line.drop k).length ≤ f) (hw : wrapF L line.length line = (chunks ++ (wrapF L f (line.drop k)).1, (wrapF L f (line.drop k)).2)) (h : line.getD (k + (L - 3)) 0 = 61) :
    ∃ f', (line.drop (k + (L - 3))).length ≤ f' ∧ wrapF L line.length line = ((chunks ++ [(line.drop k).take (L - 2)]) ++ (wrapF L f' (line.drop (k + (L - 3)))).1, (wrapF L f' (line.drop (k + (L - 3)))).2) := by
  obtain ⟨f', rfl⟩ := Nat.exists_eq_succ_of_ne_zero (n := f) (by omega)
  rw [wrapF_succ, if_neg (by omega), if_pos (by rw [getD_drop0]; exact h), List.drop_drop] at hw
  simp only at hw
  rw [hw]
  exact ⟨f', by rw [List.length_drop] at hf ⊢; omega, by simp⟩
theorem wrap_turn2 (hL : 4 ≤ L) (hgt : L < (line.drop k).length) (hf : (line.drop k).length ≤ f) (hw : wrapF L line.length line = (chunks ++ (wrapF L f (line.drop k)).1, (wrapF L f (line.drop k)).2)) (h1 : ¬ line.getD (k + (L - 3)) 0 = 61) (h : line.getD (k + (L - 2)) 0 = 61) :
    ∃ f', (line.drop (k + (L - 2))).length ≤ f' ∧ wrapF L line.length line = ((chunks ++ [(line.drop k).take (L - 1)]) ++ (wrapF L f' (line.drop (k + (L - 2)))).1, (wrapF L f' (line.drop (k + (L - 2)))).2) := by
  obtain ⟨f', rfl⟩ := Nat.exists_eq_succ_of_ne_zero (n := f) (by omega)
  rw [wrapF_succ, if_neg (by omega), if_neg (by rw [getD_drop0]; exact h1), if_pos (by rw [getD_drop0]; exact h), List.drop_drop] at hw
  simp only at hw
  rw [hw]
  exact ⟨f', by rw [List.length_drop] at hf ⊢; omega, by simp⟩
theorem wrap_turn3 (hL : 4 ≤ L) (hgt : L < (line.drop k).length) (hf : (line.drop k).length ≤ f) (hw : wrapF L line.length line = (chunks ++ (wrapF L f (line.drop k)).1, (wrapF L f (line.drop k)).2)) (h1 : ¬ line.getD (k + (L - 3)) 0 = 61) (h : ¬ line.getD (k + (L - 2)) 0 = 61) :
    ∃ f', (line.drop (k + (L - 1))).length ≤ f' ∧ wrapF L line.length line = ((chunks ++ [(line.drop k).take (L - 1) ++ [61]]) ++ (wrapF L f' (line.drop (k + (L - 1)))).1, (wrapF L f' (line.drop (k + (L - 1)))).2) := by
  obtain ⟨f', rfl⟩ := Nat.exists_eq_succ_of_ne_zero (n := f) (by omega)
  rw [wrapF_succ, if_neg (by omega), if_neg (by rw [getD_drop0]; exact h1), if_neg (by rw [getD_drop0]; exact h), List.drop_drop] at hw
  simp only at hw
  rw [hw]
  exact ⟨f', by rw [List.length_drop] at hf ⊢; omega, by simp⟩
theorem wrap_exit (hle : (line.drop k).length ≤ L) (hw : wrapF L line.length line = (chunks ++ (wrapF L f (line.drop k)).1, (wrapF L f (line.drop k)).2)) : wrapF L line.length line = (chunks, line.drop k) := by
  rw [wrap_le hle] at hw
  rw [hw]; simp
theorem chunks_len (hL : 4 ≤ L) (hw : wrapF L line.length line = (chunks ++ (wrapF L f (line.drop k)).1, (wrapF L f (line.drop k)).2)) : chunks.length ≤ 4 * line.length := by
  have h := wrapF_weight hL line.length line
  rw [hw] at h
  simp only [weight_append] at h
  have := weight_len chunks
  omega
end
theorem sv_push (l : Txts) (c : List Nat) (t : Tok) : (sv l).toArray.push (.str (S c) t) = (sv (l ++ [(c, t)])).toArray := by simp [sv]
theorem loc1i {m₀ : PySem.Str → Option Value} {a : PySem.Str} {i j : Int} {t : Tok} (h : m₀ a = some (.int i t)) (e : i = j) : ∀ p ∈ [(a, Value.int j t)], m₀ p.1 = some p.2 := by subst e; exact loc1 h
theorem cutL_from {l : List Nat} {i : Int} {a : Nat} (hi : i = a) (ha : a ≤ l.length) : cutL l (some i) none = l.drop a := by
  subst hi
  unfold cutL loN hiN clampN
  simp only
  rw [if_neg (by omega), show min (a : Int).toNat l.length = a from by omega]
  rw [List.take_of_length_le (by rw [List.length_drop]; omega)]
theorem cutL_last {l : List Nat} {i : Int} {a : Nat} (hi : i = a) (ha : a < l.length) : cutL l (some i) (some (-1)) = (l.drop a).dropLast := by
  subst hi
  unfold cutL loN hiN clampN
  simp only
  have h1 : ¬ ((a : Int) < 0) := by omega
  simp only [if_neg h1, if_pos (by decide : (-1 : Int) < 0)]
  rw [show min (a : Int).toNat l.length = a from by omega, List.dropLast_eq_take, List.length_drop]
  congr 1; omega
theorem fin_items {L : Nat} {e line rem : List Nat} {chunks : List (List Nat)} (h : wrapF L line.length line = (chunks, rem)) : lineItems L e line = chunks ++ [tailItem L e rem] := by
  unfold lineItems; rw [h]
theorem bodyP_next {L : Nat} {e : List Nat} {l : Txts} {D q en : Addr} {news : Led} {p r' out out5 : Txts} {line item : List Nat} {tl t : Tok} {n5 : Nat} {chunks : List (List Nat)}
    (hl : l = p ++ (line, tl) :: r') (hout : out.map (·.1) = (p.map (·.1)).flatMap (lineItems L e)) (ho5 : out5.map (·.1) = out.map (·.1) ++ chunks) (hit : lineItems L e line = chunks ++ [item]) :
    bodyP L e l D q en news (sv p ++ [.str (S line) tl]) (sv r') (out5 ++ [(item, t)], n5) ((D, listOf (sv l).toArray 0) :: (q, boundA en) :: (en, listOf (sv (out5 ++ [(item, t)])).toArray n5) :: news) :=
  ⟨p ++ [(line, tl)], r', by simp [sv], rfl, by simp [hl], rfl, by simp [ho5, hout, hit]⟩
theorem last_drop {line : List Nat} {k : Nat} (hk : k < line.length) : (line.drop k).getLast? = line.getLast? := by
  rw [List.getLast?_drop, if_neg (by omega)]
theorem tail_ws {L k : Nat} {e line : List Nat} (hk : k < line.length) (hc : line.getLast?.getD 0 ∈ [32, 9]) : tailItem L e (line.drop k) = (line.drop k).dropLast ++
    (if (line.drop k).length + 2 ≤ L then quoteL (line.getLast?.getD 0) else if (line.drop k).length + 1 = L then [line.getLast?.getD 0] ++ ([61] ++ e) else ([61] ++ e) ++ quoteL (line.getLast?.getD 0)) := by
  have hw : lastWs (line.drop k) = true := by
    unfold lastWs
    rw [last_drop hk]
    cases h : line.getLast? with
    | none => rw [h] at hc; simp at hc
    | some c => rw [h] at hc; simp only [Option.getD_some, List.mem_cons, List.not_mem_nil, or_false] at hc; rcases hc with rfl | rfl <;> rfl
  unfold tailItem tailQ
  rw [if_pos hw, last_drop hk]
theorem tail_no {L k : Nat} {e line : List Nat} (hk : k < line.length) (hc : ¬ line.getLast?.getD 0 ∈ [32, 9]) : tailItem L e (line.drop k) = line.drop k := by
  have hw : lastWs (line.drop k) = false := by
    unfold lastWs
    rw [last_drop hk]
    cases h : line.getLast? with
    | none => rfl
    | some c => rw [h] at hc; simp only [Option.getD_some, List.mem_cons, List.not_mem_nil, or_false, not_or] at hc; simp [isWs, hc.1, hc.2]
  unfold tailItem
  rw [hw]; rfl
theorem last_enc {x : List Nat} (h : x ≠ []) : ((enc x).getLast?.getD 0 ∈ [13, 10]) ↔ lastNl x = true := by
  rcases List.eq_nil_or_concat x with rfl | ⟨y, c, rfl⟩
  · exact absurd rfl h
  · rw [List.concat_eq_append, lastNl_snoc]
    have e1 : enc (y ++ [c]) = enc y ++ tr c := by simp [enc]
    rw [e1]
    unfold tr
    by_cases hn : isNl c = true
    · have hn' : (c == 10 || c == 13) = true := hn
      rw [if_pos hn', List.getLast?_append, List.getLast?_singleton, Option.some_or, Option.getD_some]
      simp only [Bool.or_eq_true, beq_iff_eq] at hn'
      simp only [hn, iff_true, List.mem_cons, List.not_mem_nil, or_false]
      omega
    · have hn' : ¬ (c == 10 || c == 13) = true := hn
      rw [if_neg hn', List.getLast?_append]
      have hp := good_noNl (piece_good c)
      cases hq : (piece c).getLast? with
      | none => exact absurd (List.getLast?_eq_none_iff.mp hq) (piece_ne c)
      | some d =>
        have hd := hp d (List.mem_of_getLast? hq)
        simp only [isNl, Bool.or_eq_false_iff, beq_eq_false_iff_ne] at hd
        refine iff_of_false ?_ hn
        rw [Option.some_or, Option.getD_some]
        intro hm
        rcases List.mem_cons.mp hm with e | hm
        · exact hd.2 e
        · exact hd.1 (List.mem_singleton.mp hm)
theorem benc_U (L : Nat) (e x : List Nat) : benc L e x = joinL e ((linesL brkU (enc x)).flatMap (lineItems L e) ++ if lastNl x then [[]] else []) := by
  unfold benc
  rw [lines_enc brkOk_self, lines_enc brkOk_U]
theorem retS_sub {h₀ h' : Heap} {L : Addr} {m : PySem.Str → Option Value} {news all : Led} {s : Shared} {Q : Value → Shared → Prop} {x y : PySem.Str} {t : Tok} {tk' : Nat}
    (hret : ∀ v added h' tk', Fr h₀ L h' m → News h₀ L h' (added ++ news) → (∀ q ∈ news, ∀ p ∈ added, q.1 < p.1) → OutS x added v → Q v { s with heap := h', toks := tk' }) (e : y = x) (F : Fr h₀ L h' m) (N : News h₀ L h' all) (sub : ∀ p ∈ news, p ∈ all) : Q (.str y t) { s with heap := h', toks := tk' } :=
  retS hret e F fun p hp => N p (sub p hp)
theorem off_of {I D q en : Addr} {o1 o2 o3 : Obj} {news : Led} (h : D < I ∧ q < I ∧ en < I ∧ AllLt I news) : ∀ p ∈ ((D, o1) :: (q, o2) :: (en, o3) :: news : Led), p.1 ≠ I :=
  allLt_ne (l := (D, o1) :: (q, o2) :: (en, o3) :: news) ⟨h.1, h.2.1, h.2.2.1, h.2.2.2⟩

/-- the script's number as a sign -/
def deedsN : List Nat := [107, 32, 9, 61, 10, 13, 233, 51, 32, 0, 97, 10, 61, 9, 133, 68]
def signN (x : Int) : Nat := if x.fmod 32 < 16 then deedsN.getD (x.fmod 32).toNat 0 else ((x.fdiv 32).fmod 256).toNat
theorem fmod_rng (x : Int) {b : Int} (hb : 0 < b) : 0 ≤ x.fmod b ∧ x.fmod b < b := by
  rw [Int.fmod_eq_emod_of_nonneg x (Int.le_of_lt hb)]
  exact ⟨Int.emod_nonneg _ (by omega), Int.emod_lt_of_pos _ hb⟩
theorem signN_lt (x : Int) : signN x < 256 := by
  unfold signN
  split
  · have h1 := fmod_rng x (b := 32) (by decide)
    have all : ∀ i, i < 16 → deedsN.getD i 0 < 256 := by decide
    exact all _ (by omega)
  · have h2 := fmod_rng (x.fdiv 32) (b := 256) (by decide)
    omega
theorem chain_ok {c : Nat} (hc : c < 256) (h : c = 9 ∨ (32 ≤ c ∧ c ≤ 126 ∧ c ≠ 61)) : piece c = [c] := by
  unfold piece; rw [if_pos]; simp only [plainB, Bool.or_eq_true, Bool.and_eq_true, beq_iff_eq, decide_eq_true_eq, bne_iff_ne]; omega
theorem chain_no {c : Nat} (hc : c < 256) (h : ¬ (c = 9 ∨ (32 ≤ c ∧ c ≤ 126 ∧ c ≠ 61))) : piece c = [61, hexd (c / 16), hexd (c % 16)] := by
  unfold piece; rw [if_neg]; simp only [plainB, Bool.or_eq_true, Bool.and_eq_true, beq_iff_eq, decide_eq_true_eq, bne_iff_ne]; omega
theorem hex_at : ∀ i, i < 16 → ([48, 49, 50, 51, 52, 53, 54, 55, 56, 57, 65, 66, 67, 68, 69, 70] : List Nat).getD i 0 = hexd i := by decide
theorem hex_div {c : Nat} (hc : c < 256) : ([48, 49, 50, 51, 52, 53, 54, 55, 56, 57, 65, 66, 67, 68, 69, 70] : List Nat).getD ((c : Int).fdiv 16).toNat 0 = hexd (c / 16) := by
  rw [Int.fdiv_eq_ediv_of_nonneg _ (by decide), show ((c : Int) / 16).toNat = c / 16 from by omega]; exact hex_at _ (by omega)
theorem hex_mod (c : Nat) : ([48, 49, 50, 51, 52, 53, 54, 55, 56, 57, 65, 66, 67, 68, 69, 70] : List Nat).getD ((c : Int).fmod 16).toNat 0 = hexd (c % 16) := by
  rw [Int.fmod_eq_emod_of_nonneg _ (by decide), show ((c : Int) % 16).toNat = c % 16 from by omega]; exact hex_at _ (by omega)
theorem S_ne {a b : Nat} (h : (S [a] != S [b]) = true) : a ≠ b := by rintro rfl; simp at h
theorem S_ne' {a b : Nat} (h : (S [a] != S [b]) = false) : a = b := by
  have : S [a] = S [b] := by simpa using h
  exact (List.cons.inj (S_inj this)).1
end Mine
end
section
open PySem PySem.W PyProof.Rows PySem.Calls PyProof.V PySem.Spec PySem.SeqAt
set_option linter.unusedVariables false
set_option maxRecDepth 100000
set_option maxHeartbeats 1000000
namespace Mine
def strD (l : Txts) : List PyData := l.map fun p => PyData.str (S p.1)
theorem readsAll_S {h : Heap} : ∀ l : Txts, ReadsAll h (sv l) (strD l) []
  | [] => .nil
  | p :: r => .cons (as := []) (.str _ p.2) (readsAll_S r)
theorem reads_S {h : Heap} {D : Addr} {l : Txts} {n : Nat} (ho : h.get? D = some (listOf (sv l).toArray n)) : Reads h (.ref D) (.list (strD l)) [D] := by
  exact .list ho rfl rfl (readsAll_S l)
def Fine (l : Txts) : Prop := ∀ p ∈ l, PyData.strOk (S p.1) = true
theorem canLay_S : ∀ l : Txts, Fine l → PyData.canLayAll0 (strD l) = true
  | [], _ => rfl
  | p :: r, h => by have := canLay_S r (fun q hq => h q (.tail _ hq)); simp only [strD] at this; simp [strD, PyData.canLayAll0, PyData.canLay0, this, h p (.head _)]
theorem depth_S : ∀ l : Txts, PyData.depthAll (strD l) ≤ 1
  | [] => by simp [strD, PyData.depthAll]
  | p :: r => by have := depth_S r; simp only [strD, List.map_cons, PyData.depthAll, PyData.depth] at this ⊢; omega
theorem shaped_S (l : Txts) (hl : Fine l) : shaped (.list (strD l)) = true := by
  have h1 := depth_S l
  have h2 : PyData.depth (.list (strD l)) ≤ 64 := by simp only [PyData.depth]; omega
  show (PyData.canLay0 (.list (strD l)) && decide (PyData.depth (.list (strD l)) ≤ 64)) = true
  rw [Bool.and_eq_true]
  exact ⟨by simp only [PyData.canLay0]; exact canLay_S l hl, decide_eq_true h2⟩
theorem noMix_S : ∀ l k : Txts, noMixAll (strD l) (strD k) = true
  | [], [] => by simp [strD, noMixAll]
  | [], _ :: _ => by simp [strD, noMixAll]
  | _ :: _, [] => by simp [strD, noMixAll]
  | p :: r, q :: t => by have := noMix_S r t; simp only [strD] at this; simp [strD, noMixAll, noMix, this]
theorem same_S : ∀ l k : Txts, PySem.Spec.sameAll (strD l) (strD k) = decide (l.map (·.1) = k.map (·.1))
  | [], [] => by simp [strD, PySem.Spec.sameAll]
  | [], _ :: _ => by simp [strD, PySem.Spec.sameAll]
  | _ :: _, [] => by simp [strD, PySem.Spec.sameAll]
  | p :: r, q :: t => by
    have := same_S r t
    simp only [strD] at this
    simp only [strD, List.map_cons, PySem.Spec.sameAll, PySem.Spec.same, this]
    by_cases h : p.1 = q.1
    · simp [h]
    · have : S p.1 ≠ S q.1 := fun e => h (S_inj e)
      simp [h]
section
variable {prog : Program} {w : World} {A : Around} {E : Value → Shared → Prop} {hp : Heap} {gn : Array GenState} {dr : Drawn} {tk : Nat} {os : OsState} {h₀ : Heap} {L a b : Addr} {news : Led} {l k : Txts} {n n' : Nat} {Q : Value → Shared → Prop}
theorem neL (N : News h₀ L hp news) (ha : (a, listOf (sv l).toArray n) ∈ news) (hb : (b, listOf (sv k).toArray n') ∈ news) (hu : A.units + 64 < cLine) (fl : Fine l) (fk : Fine k) (h : Q (.bool (!decide (l.map (·.1) = k.map (·.1)))) ⟨hp, gn, dr, tk, os⟩) :
    wpAny (model prog w) A (compareOp .NotEq (.ref a) (.ref b)) Q E ⟨hp, gn, dr, tk, os⟩ :=
  ne_dataH_same (reads_S (N _ ha).1) (reads_S (N _ hb).1) (shaped_S l fl) (shaped_S k fk) hu (by simp only [noMix]; exact noMix_S l k) (by simp only [PySem.Spec.same]; rw [same_S]; exact h)
theorem eqL (N : News h₀ L hp news) (ha : (a, listOf (sv l).toArray n) ∈ news) (hb : (b, listOf (sv k).toArray n') ∈ news) (hu : A.units + 64 < cLine) (fl : Fine l) (fk : Fine k) (h : Q (.bool (decide (l.map (·.1) = k.map (·.1)))) ⟨hp, gn, dr, tk, os⟩) :
    wpAny (model prog w) A (compareOp .Eq (.ref a) (.ref b)) Q E ⟨hp, gn, dr, tk, os⟩ :=
  eq_dataH_same (reads_S (N _ ha).1) (reads_S (N _ hb).1) (shaped_S l fl) (shaped_S k fk) hu (by simp only [noMix]; exact noMix_S l k) (by simp only [PySem.Spec.same]; rw [same_S]; exact h)
end
end Mine
end
section
open PySem PySem.W PyProof.Rows PySem.Calls
set_option linter.unusedVariables false
set_option maxRecDepth 100000
set_option maxHeartbeats 1000000
namespace Mine
open PySem.Builtin PySem.Builtin.Str
/-! ### a text split at another -/
theorem at_iff {x y : List Nat} {k : Nat} (hy : y ≠ []) : StrLaws.At (S x) (S y) (S x).length k ↔ y.isPrefixOf (x.drop k) = true := by
  unfold StrLaws.At
  rw [StrLaws.subAt_eq, S_len, S_len, S_cps, S_cps, beq_iff_eq, List.isPrefixOf_iff_prefix, List.prefix_iff_eq_take]
  constructor
  · intro h; exact h.2.symm
  · intro h
    refine ⟨?_, h.symm⟩
    have := congrArg List.length h
    rw [List.length_take, List.length_drop] at this
    have : 0 < y.length := List.length_pos_iff.mpr hy
    omega
theorem sub_S (x : List Nat) (a b : Nat) : strSub (S x) a b = S ((x.drop a).take (b - a)) := by
  apply PySem.Str.ext'
  apply Array.toList_inj.mp
  rw [StrLaws.strSub_toList]
theorem chain_split {x y : List Nat} (hy : y ≠ []) : ∀ (cuts : List Nat) (a f : Nat), StrLaws.ChainG (S x) (S y) (S x).length a cuts f → (∀ k, f ≤ k → ¬ StrLaws.At (S x) (S y) (S x).length k) →
    StrLaws.partsFrom (S x) (S y).length a cuts = (splitL y (x.drop a)).map S
  | [], a, f, h, hn => by
    have e : f = a := h
    subst e
    rw [splitL_last fun i hi => ?_]
    · show [strSub (S x) f (S x).length] = _
      rw [sub_S, S_len, List.take_of_length_le (by rw [List.length_drop]; exact Nat.le_refl _)]
      rfl
    · rw [List.drop_drop]
      have := hn (f + i) (by omega)
      rw [at_iff hy] at this
      exact Bool.eq_false_iff.mpr this
  | c :: r, a, f, h, hn => by
    obtain ⟨h1, h2, h3, h4⟩ := h
    have h2' := (at_iff hy).mp h2
    have e2 : x.drop c = y ++ x.drop (c + y.length) := by
      rw [List.isPrefixOf_iff_prefix] at h2'
      obtain ⟨z, hz⟩ := h2'
      have : x.drop (c + y.length) = z := by rw [← List.drop_drop, ← hz]; simp
      rw [this, hz]
    have hcl : c < x.length := by
      have hyl : 0 < y.length := List.length_pos_iff.mpr hy
      have := congrArg List.length e2
      rw [List.length_drop, List.length_append] at this
      omega
    have e1 : x.drop a = (x.drop a).take (c - a) ++ (y ++ x.drop (c + y.length)) := by
      rw [← e2]
      have : x.drop c = (x.drop a).drop (c - a) := by rw [List.drop_drop]; congr 1; omega
      rw [this, List.take_append_drop]
    show strSub (S x) a c :: StrLaws.partsFrom (S x) (S y).length (c + (S y).length) r = _
    rw [chain_split hy r _ f h4 hn, sub_S]
    rw [e1, splitL_cons hy fun i hi => ?_]
    · rw [List.map_cons, S_len, ← e1]
    · rw [← e1, List.drop_drop]
      rw [List.length_take, List.length_drop] at hi
      have := h3 (a + i) (by omega) (by omega)
      rw [at_iff hy] at this
      exact Bool.eq_false_iff.mpr this
theorem split_S {x y : List Nat} (hy : y ≠ []) (hc : ∀ c ∈ y, c < 256) : Txt.split (S x) (S y) = (splitL y x).map S := by
  obtain ⟨f, hG, hn⟩ := StrLaws.occ_tight (S x) (S y) (by rw [S_len]; exact List.length_pos_iff.mpr hy)
  have key := chain_split hy _ 0 f hG hn
  rw [List.drop_zero] at key
  have one : StrLaws.partsFrom (S x) (S y).length 0 [] = [S x] := by show [strSub (S x) 0 (S x).length] = _; rw [StrLaws.sub_whole]
  have hk : Str.strKind (S y) = 1 := by
    unfold Str.strKind
    rw [if_pos]
    rw [Array.all_eq_true']
    intro c hm
    simpa using hc c (by simpa using hm)
  have hk2 : 1 ≤ Str.strKind (S x) := by unfold Str.strKind; (repeat' split) <;> decide
  unfold Txt.split
  rw [hk, show decide (Str.strKind (S x) < 1) = false from by simp; omega, Bool.or_false]
  split
  · rename_i hl
    have hl : x.length < y.length := by simpa [S_len] using hl
    have : ∀ i, i < x.length → y.isPrefixOf (x.drop i) = false := fun i hi => by
      cases h : y.isPrefixOf (x.drop i) with
      | false => rfl
      | true =>
        have := (List.isPrefixOf_iff_prefix.mp h).length_le
        rw [List.length_drop] at this
        omega
    rw [splitL_last this]; rfl
  · split
    · rename_i he
      have he : occurrences (S x) (S y) 0 (S x).length ((S x).length + 1) = [] := by simpa using he
      rw [he, one] at key
      exact key
    · rw [StrLaws.partsBetween_eq]; exact key

/-- the tokens apart: a list of texts is some sv -/
theorem strValues_S {l : List (PySem.Str × Tok)} {zs : List (List Nat)} (h : l.map (·.1) = zs.map S) : ∃ r : Txts, strValues l = sv r ∧ r.map (·.1) = zs := by
  induction l generalizing zs with
  | nil =>
    cases zs with
    | nil => exact ⟨[], rfl, rfl⟩
    | cons _ _ => cases h
  | cons p l ih =>
    cases zs with
    | nil => cases h
    | cons z zs =>
      obtain ⟨a, t⟩ := p
      have e1 : a = S z := (List.cons.inj h).1
      obtain ⟨r, h1, h2⟩ := ih (List.cons.inj h).2
      exact ⟨(z, t) :: r, by show Value.str a t :: strValues l = _; rw [h1, e1]; rfl, by show z :: r.map (·.1) = _; rw [h2]⟩

section
variable {prog : Program} {w : World} {A : Around} {E : Value → Shared → Prop} {hp : Heap} {gn : Array GenState} {dr : Drawn} {tk : Nat} {os : OsState} {t u : Tok} {x y : List Nat} {h₀ : Heap} {L a b : Addr} {m : PySem.Str → Option Value} {news : Led} {l k : Txts} {n n' : Nat} {Q : Value → Shared → Prop} {value slice : PySem.Expr}
theorem split_rule (hF : Fr h₀ L hp m) (hN : News h₀ L hp news) (hy : y ≠ []) (hc : ∀ c ∈ y, c < 256) (hsz : x.length ≤ 1000000)
    (h : ∀ (D : Addr) (r : Txts) h' k, r.map (·.1) = splitL y x → Fr h₀ L h' m → News h₀ L h' ((D, listOf (sv r).toArray 0) :: news) → (∀ p ∈ news, p.1 < D) → Q (.ref D) ⟨h', gn, dr, k, os⟩) :
    wpAny (model prog w) A (call (.builtin "str.split") [.str (S x) t, .str (S y) u]) Q E ⟨hp, gn, dr, tk, os⟩ :=
  splitN1 (s := ⟨hp, gn, dr, tk, os⟩) hF hN (by rw [S_len]; simpa using hy) (fun l h' k e F N => by
    rw [split_S hy hc] at e
    obtain ⟨r, e1, e2⟩ := strValues_S e
    rw [e1] at N
    exact h _ r h' k e2 F N fun p hp => Heap.lt_size (hN p hp).1) (by rw [S_len]; exact Nat.le_trans (Nat.add_le_add_right hsz 2) (by decide))
theorem lstN (N : News h₀ L hp news) (ha : (a, listOf (sv l).toArray n) ∈ news) : hp.IsList a (sv l).toArray := ⟨_, (N _ ha).1, rfl, n, rfl⟩
theorem sv_get {i : Nat} {p : List Nat × Tok} (h : l[i]? = some p) : (sv l).toArray[i]? = some (.str (S p.1) p.2) := by simp [sv, h]
theorem item_L {i : Int} {z : List Nat} (N : News h₀ L hp news) (ha : (a, listOf (sv l).toArray n) ∈ news) (h0 : 0 ≤ i) (hfit : i < 2 ^ 63) (hz : (l.map (·.1))[i.toNat]? = some z)
    (h : ∀ t', Q (.str (S z) t') ⟨hp, gn, dr, tk, os⟩)
    (hs : subscripted slice false (.ref a) (.int i u) = operate [.ref a, .int i u] (getItem (.ref a) (.int i u)) := by with_unfolding_all rfl) :
    wpAny (model prog w) A (subscriptTail value slice (.ref a) (.int i u)) Q E ⟨hp, gn, dr, tk, os⟩ := by
  rw [List.getElem?_map, Option.map_eq_some_iff] at hz
  obtain ⟨p, hp', rfl⟩ := hz
  exact tail_any (lstN N ha).typeIs slot_list_getitem.lookup (wpAny_getItem_list (lstN N ha) h0 hfit (sv_get hp') (h _)) hs
theorem getLast_L {z : List Nat} (N : News h₀ L hp news) (ha : (a, listOf (sv l).toArray n) ∈ news) (hz : (l.map (·.1)).getLast? = some z)
    (h : ∀ t', Q (.str (S z) t') ⟨hp, gn, dr, tk, os⟩)
    (hs : subscripted slice false (.ref a) (.int (-1) u) = operate [.ref a, .int (-1) u] (getItem (.ref a) (.int (-1) u)) := by with_unfolding_all rfl) :
    wpAny (model prog w) A (subscriptTail value slice (.ref a) (.int (-1) u)) Q E ⟨hp, gn, dr, tk, os⟩ := by
  rw [List.getLast?_map, Option.map_eq_some_iff] at hz
  obtain ⟨p, hp', rfl⟩ := hz
  have hne : l ≠ [] := by rintro rfl; simp at hp'
  have hpos : 0 < l.length := List.length_pos_iff.mpr hne
  have hsz : (sv l).toArray.size = l.length := by simp [sv]
  rw [List.getLast?_eq_getElem?] at hp'
  refine tail_any (lstN N ha).typeIs slot_list_getitem.lookup (wpAny_getItem_list_neg (lstN N ha) (by decide) (by rw [hsz]; omega) (by decide) ?_ (h p.2)) hs
  rw [hsz, show ((-1 : Int) + (l.length : Int)).toNat = l.length - 1 from by omega]
  exact sv_get hp'
theorem add_L (F : Fr h₀ L hp m) (N : News h₀ L hp news) (ha : (a, listOf (sv l).toArray n) ∈ news) (hb : (b, listOf (sv k).toArray n') ∈ news) (hsz : l.length + k.length ≤ 100000)
    (h : ∀ D h', Fr h₀ L h' m → News h₀ L h' ((D, listOf (sv (l ++ k)).toArray 0) :: news) → (∀ p ∈ news, p.1 < D) → Q (.ref D) ⟨h', gn, dr, tk, os⟩) :
    wpAny (model prog w) A (binaryOp .Add (.ref a) (.ref b)) Q E ⟨hp, gn, dr, tk, os⟩ :=
  add_lists (s := ⟨hp, gn, dr, tk, os⟩) F N (lstN N ha) (lstN N hb) (fun h' F' N' => by
    rw [← sv_append] at N'
    exact h _ h' F' N' fun p hp => Heap.lt_size (N p hp).1) (by rw [sv_len, sv_len]; exact Nat.le_trans hsz (by decide))
theorem sv_drop (l : Txts) (i : Nat) : (sv l).drop i = sv (l.drop i) := by simp [sv, List.map_drop]
theorem sv_take (l : Txts) (i : Nat) : (sv l).take i = sv (l.take i) := by simp [sv, List.map_take]
theorem sliceL_from1 {ui : Tok} (F : Fr h₀ L hp m) (N : News h₀ L hp news) (ha : (a, listOf (sv l).toArray n) ∈ news) (hsz : l.length ≤ 100000)
    (h : ∀ D h', Fr h₀ L h' m → News h₀ L h' ((D, listOf (sv (l.drop 1)).toArray 0) :: news) → (∀ p ∈ news, p.1 < D) → Q (.ref D) ⟨h', gn, dr, tk, os⟩)
    (hs : subscripted slice false (.ref a) (.ref hp.objs.size) = operate [.ref hp.objs.size, .ref a] (getItem (.ref a) (.ref hp.objs.size)) := by with_unfolding_all rfl) (ht : ∀ r, letTemporaryGo value (.ref a) r = pure () := by intro _; with_unfolding_all rfl) :
    wpAny (model prog w) A (subscriptTail value slice (.ref a) (.ref hp.objs.size)) Q E ⟨hp.push { cls := .type "slice", data := .fields #[.int 1 ui, .none, .none] }, gn, dr, tk, os⟩ :=
  kms_slice_lit (s := ⟨hp, gn, dr, tk, os⟩) F N (lstN N ha) (IsPart.int 1 ui) IsPart.none (zs := sv (l.drop 1)) (by
    unfold kms_pick kms_lo kms_hi
    simp only
    rw [if_neg (by decide), ← sv_drop]
    rw [sv_len]
    cases l with
    | nil => rfl
    | cons p r =>
      rw [show min (1 : Int).toNat (p :: r).length = 1 from by simp]
      exact List.take_of_length_le (by rw [List.length_drop, sv_len]; exact Nat.le_refl _)) (fun D h' F' N' l1 => h D h' F' N' l1) hs ht (by rw [List.size_toArray, sv_len]; exact Nat.le_trans hsz (by decide))
theorem sliceL_upto1 {uj : Tok} (F : Fr h₀ L hp m) (N : News h₀ L hp news) (ha : (a, listOf (sv l).toArray n) ∈ news) (hsz : l.length ≤ 100000)
    (h : ∀ D h', Fr h₀ L h' m → News h₀ L h' ((D, listOf (sv l.dropLast).toArray 0) :: news) → (∀ p ∈ news, p.1 < D) → Q (.ref D) ⟨h', gn, dr, tk, os⟩)
    (hs : subscripted slice false (.ref a) (.ref hp.objs.size) = operate [.ref hp.objs.size, .ref a] (getItem (.ref a) (.ref hp.objs.size)) := by with_unfolding_all rfl) (ht : ∀ r, letTemporaryGo value (.ref a) r = pure () := by intro _; with_unfolding_all rfl) :
    wpAny (model prog w) A (subscriptTail value slice (.ref a) (.ref hp.objs.size)) Q E ⟨hp.push { cls := .type "slice", data := .fields #[.none, .int (-1) uj, .none] }, gn, dr, tk, os⟩ :=
  kms_slice_lit (s := ⟨hp, gn, dr, tk, os⟩) F N (lstN N ha) IsPart.none (IsPart.int (-1) uj) (zs := sv l.dropLast) (by
    unfold kms_pick kms_lo kms_hi
    simp only
    rw [if_pos (by decide), List.dropLast_eq_take, ← sv_take]
    rw [sv_len]
    rfl) (fun D h' F' N' l1 => h D h' F' N' l1) hs ht (by rw [List.size_toArray, sv_len]; exact Nat.le_trans hsz (by decide))
end
end Mine
end
section
open PySem PySem.W PyProof.Rows PySem.Calls
set_option linter.unusedVariables false
set_option linter.unusedSimpArgs false
set_option maxRecDepth 100000
set_option maxHeartbeats 1000000
namespace Mine
def Small (h : List (List Nat)) : Prop := ∀ p ∈ h, ∀ c ∈ p, c < 256
theorem Small.nil : Small [] := fun _ h => nomatch h
theorem Small.append {a b : List (List Nat)} (h : Small a) (h' : Small b) : Small (a ++ b) := fun p hp => (List.mem_append.mp hp).elim (h p) (h' p)
theorem fill_mem (L : Nat) : ∀ (ps : List (List Nat)) (acc : List Nat), ∀ p ∈ (fill L acc ps).2, p ∈ ps
  | [], acc, p, h => by simp [fill] at h
  | q :: ps, acc, p, h => by
    unfold fill at h
    split at h
    · exact .tail _ (fill_mem L ps _ p h)
    · exact h
theorem sendF_mem (L : Nat) : ∀ (n : Nat) (h : List (List Nat)), ∀ p ∈ (sendF L n h).2, p ∈ h
  | 0, h, p, hp => hp
  | n + 1, h, p, hp => by
    unfold sendF at hp
    split at hp
    · exact hp
    · exact fill_mem L h [] p (sendF_mem L n _ p hp)
theorem Small.send {L : Nat} {h : List (List Nat)} (hs : Small h) : Small (send L h).2 := fun p hp => hs p (sendF_mem L _ h p hp)
theorem piece_small {c : Nat} (hc : c < 256) : Small [piece c] := fun p hp => by
  rw [List.mem_singleton] at hp
  subst hp
  unfold piece
  have h1 := hexd_rng (n := c / 16) (by omega)
  have h2 := hexd_rng (n := c % 16) (by omega)
  split
  · intro d hd; rw [List.mem_singleton] at hd; omega
  · intro d hd; simp only [List.mem_cons, List.not_mem_nil, or_false] at hd; omega
theorem fine_of_small {l : Txts} (h : Small (l.map (·.1))) : Fine l := fun p hp => by
  show PyData.strOk (S p.1) = true
  unfold PyData.strOk
  rw [Array.all_eq_true']
  intro c hc
  have := h p.1 (List.mem_map_of_mem hp) c (by simpa using hc)
  exact decide_eq_true (by omega)
theorem weight_good {h : List (List Nat)} (hg : AllGood h) : weight h ≤ 2 * h.flatten.length := by
  have := flatten_len_ge hg
  unfold weight
  have e : (h.map (·.length)).sum = h.flatten.length := by rw [List.length_flatten]
  rw [e]; omega
theorem weight_sent {L : Nat} (hL : 4 ≤ L) {h : List (List Nat)} (hg : AllGood h) : weight (send L h).1 ≤ 4 * h.flatten.length := by
  have h1 := wrap_send hL h.length h hg (Nat.le_refl _)
  have h2 := wrapF_weight hL h.length h.flatten
  rw [h1] at h2
  dsimp only at h2
  omega
theorem weight_tailRows {L : Nat} (h : List (List Nat)) : weight (tailRows L h) ≤ h.flatten.length + 10 := by
  by_cases hw : white h = true
  · obtain ⟨g, c, rfl, hc⟩ := white_split hw
    rw [tailRows_white hc]
    simp only [List.flatten_append, List.flatten_cons, List.flatten_nil, List.append_nil, List.length_append, List.length_cons, List.length_nil]
    (repeat' split) <;> simp only [weight_cons, weight_nil, List.length_append, List.length_cons, List.length_nil, quoteL] <;> omega
  · rw [tailRows_plain (by simpa using hw), weight_cons, weight_nil]; omega
/-! ### the first row -/
theorem fill_take {L : Nat} : ∀ (g : List (List Nat)) (acc : List Nat) (q : List Nat) (r : List (List Nat)), acc.length + g.flatten.length < L → L ≤ acc.length + g.flatten.length + q.length → fill L acc (g ++ q :: r) = (acc ++ g.flatten, q :: r)
  | [], acc, q, r, h1, h2 => by
    simp only [List.flatten_nil, List.length_nil, Nat.add_zero] at h1 h2
    show fill L acc (q :: r) = _
    unfold fill
    rw [if_neg (by omega)]; simp
  | p :: g, acc, q, r, h1, h2 => by
    rw [List.flatten_cons, List.length_append] at h1 h2
    show fill L acc (p :: (g ++ q :: r)) = _
    unfold fill
    rw [if_pos (by omega), fill_take g (acc ++ p) q r (by rw [List.length_append]; omega) (by rw [List.length_append]; omega)]
    simp
theorem fill_cut {L : Nat} : ∀ (ps : List (List Nat)) (acc : List Nat), acc.length < L → L ≤ acc.length + ps.flatten.length → ∃ g q r, ps = g ++ q :: r ∧ acc.length + g.flatten.length < L ∧ L ≤ acc.length + g.flatten.length + q.length
  | [], acc, h1, h2 => by simp at h2; omega
  | p :: ps, acc, h1, h2 => by
    rw [List.flatten_cons, List.length_append] at h2
    by_cases h : acc.length + p.length < L
    · obtain ⟨g, q, r, e, h3, h4⟩ := fill_cut ps (acc ++ p) (by rw [List.length_append]; omega) (by rw [List.length_append]; omega)
      rw [List.length_append] at h3 h4
      exact ⟨p :: g, q, r, by rw [e]; rfl, by rw [List.flatten_cons, List.length_append]; omega, by rw [List.flatten_cons, List.length_append]; omega⟩
    · exact ⟨[], p, ps, rfl, by simpa using h1, by simp; omega⟩
def row0 (rows : List (List Nat)) : List Nat := rows.headD []
theorem good_k : Good [107] := .inl ⟨107, rfl, by decide, rfl⟩
theorem white_k {h : List (List Nat)} {n : Nat} (hn : n ≠ 0) : white (h ++ List.replicate n [107]) = false := by
  obtain ⟨m, rfl⟩ := Nat.exists_eq_succ_of_ne_zero hn
  rw [List.replicate_succ', ← List.append_assoc, white_snoc]; rfl
theorem good_ks {h : List (List Nat)} (hh : AllGood h) (n : Nat) : AllGood (h ++ List.replicate n [107]) := hh.append fun p hp => by
  obtain ⟨_, rfl⟩ := List.mem_replicate.mp hp
  exact good_k
theorem flat_ks (n : Nat) : (List.replicate n [107]).flatten.length = n := by simp [List.length_flatten]
theorem row0_k {L : Nat} {h : List (List Nat)} (hs : h.flatten.length + 1 ≤ L) : row0 (rowsOf L (h ++ List.replicate 1 [107])) = h.flatten ++ [107] := by
  unfold rowsOf
  rw [send_of_le (by rw [List.flatten_append, List.length_append, flat_ks]; exact hs), List.nil_append, tailRows_plain (white_k (by decide))]
  simp [row0]
theorem row0_ks {L : Nat} (hL : 4 ≤ L) {h : List (List Nat)} (hh : AllGood h) {n : Nat} (hn : n ≠ 0) (hs : h.flatten.length = L) :
    ∃ g q r, h = g ++ q :: r ∧ g.flatten.length < L ∧ L ≤ g.flatten.length + q.length ∧ row0 (rowsOf L (h ++ List.replicate n [107])) = g.flatten ++ [61] := by
  obtain ⟨g, q, r, e, h1, h2⟩ := fill_cut (L := L) h [] (by rw [List.length_nil]; omega) (by rw [List.length_nil]; omega)
  simp only [List.length_nil, Nat.zero_add] at h1 h2
  refine ⟨g, q, r, e, h1, h2, ?_⟩
  unfold rowsOf
  rw [send_of_lt hL (good_ks hh n) (by rw [List.flatten_append, List.length_append, flat_ks, hs]; exact Nat.lt_add_of_pos_right (Nat.pos_of_ne_zero hn))]
  have ef : h ++ List.replicate n [107] = g ++ q :: (r ++ List.replicate n [107]) := by rw [e]; simp
  rw [ef, fill_take g [] q _ (by simpa using h1) (by simpa using h2)]
  simp [row0]
theorem row0_fact {L : Nat} (hL : 4 ≤ L) {h : List (List Nat)} (hh : AllGood h) (hs : h.flatten.length ≤ L) :
    ((row0 (tailRows L h) = row0 (rowsOf L (h ++ List.replicate 1 [107])) ∧ row0 (rowsOf L (h ++ List.replicate 1 [107])) = row0 (rowsOf L (h ++ List.replicate (L + 2) [107]))) ↔ (h.flatten.length = L ∧ white h = true)) := by
  constructor
  · rintro ⟨h1, h2⟩
    by_cases hw : white h = true
    · refine ⟨?_, hw⟩
      obtain ⟨g, c, rfl, hc⟩ := white_split hw
      have hc61 : c ≠ 61 := by omega
      apply Classical.byContradiction
      intro hne
      have hfl : (g ++ [[c]]).flatten = g.flatten ++ [c] := by simp
      rw [hfl, List.length_append, List.length_singleton] at hs hne
      rw [row0_k (by rw [hfl, List.length_append, List.length_singleton]; omega), tailRows_white hc, hfl] at h1
      split at h1
      · simp only [row0, List.headD_cons, quoteL, List.append_assoc] at h1
        have := List.append_cancel_left h1
        simp at this
        all_goals exact absurd this.1.symm hc61
      · rw [if_pos (by omega)] at h1
        simp only [row0, List.headD_cons, List.append_assoc] at h1
        have := List.append_cancel_left h1
        simp at this
    · exfalso
      rw [tailRows_plain (by simpa using hw)] at h1
      simp only [row0, List.headD_cons] at h1
      by_cases hlt : h.flatten.length + 1 ≤ L
      · rw [show (rowsOf L (h ++ List.replicate 1 [107])).headD [] = h.flatten ++ [107] from row0_k hlt] at h1
        have := congrArg List.length h1
        simp at this
      · obtain ⟨g, q, r, e, h3, h4, h5⟩ := row0_ks hL hh (n := 1) (by decide) (by omega)
        rw [show (rowsOf L (h ++ List.replicate 1 [107])).headD [] = g.flatten ++ [61] from h5, e, List.flatten_append, List.flatten_cons] at h1
        have h6 := List.append_cancel_left h1
        have hq : Good q := hh q (by rw [e]; simp)
        rcases hq.cases with ⟨d, rfl, hd, _⟩ | ⟨a, b, rfl, _⟩
        · simp at h6; exact hd h6.1
        · simp at h6
  · rintro ⟨hs', hw⟩
    obtain ⟨g, c, rfl, hc⟩ := white_split hw
    have hfl : (g ++ [[c]]).flatten = g.flatten ++ [c] := by simp
    have hgl : g.flatten.length + 1 = L := by rw [hfl] at hs'; simpa using hs'
    have key : ∀ n, n ≠ 0 → row0 (rowsOf L (g ++ [[c]] ++ List.replicate n [107])) = g.flatten ++ [61] := fun n hn => by
      unfold rowsOf
      rw [send_of_lt hL (good_ks hh n) (by rw [List.flatten_append, List.length_append, flat_ks]; omega)]
      have ef : g ++ [[c]] ++ List.replicate n [107] = g ++ [c] :: List.replicate n [107] := by simp
      rw [ef, fill_take g [] [c] _ (by rw [List.length_nil]; omega) (by rw [List.length_nil, List.length_singleton]; omega)]
      simp [row0]
    rw [key 1 (by decide), key (L + 2) (by omega), tailRows_white hc, if_neg (by omega), if_neg (by omega)]
    exact ⟨rfl, rfl⟩
theorem get_row {a b : List (List Nat)} (hb : b ≠ []) : (a ++ b)[a.length]? = some (row0 b) := by
  cases b with
  | nil => exact absurd rfl hb
  | cons x r => simp [row0]
end Mine
end
section
open PySem PySem.W PyProof.Rows PySem.Calls
set_option linter.unusedVariables false
set_option linter.unusedSimpArgs false
set_option maxRecDepth 100000
set_option maxHeartbeats 1000000
namespace Mine
theorem fold_rep (a : Array Nat) : ∀ (n : Nat) (acc : Array Nat), (((List.replicate n a).foldl (· ++ ·) acc).toList) = acc.toList ++ (List.replicate n a.toList).flatten
  | 0, acc => by simp
  | n + 1, acc => by
    rw [List.replicate_succ, List.foldl_cons, fold_rep a n]
    simp [List.replicate_succ]
theorem mul_one_S (c : Nat) (n : Int) : Txt.mul (S [c]) n = S (List.replicate n.toNat c) := by
  unfold Txt.mul
  by_cases h1 : n < 1
  · rw [if_pos h1, show n.toNat = 0 from by omega]; rfl
  · rw [if_neg h1]
    by_cases h2 : n = 1
    · subst h2; rfl
    · rw [if_neg (by simp [h2, PySem.Str.length])]
      apply PySem.Str.ext'
      apply Array.toList_inj.mp
      rw [fold_rep]
      simp [List.flatten_replicate_singleton]
theorem last13 (l : List Nat) : cutL l (some (-1)) none = [13] ↔ l.getLast? = some 13 := by
  rcases List.eq_nil_or_concat l with rfl | ⟨g, c, rfl⟩
  · simp [cutL]
  · rw [List.concat_eq_append]
    have e : cutL (g ++ [c]) (some (-1)) none = [c] := by
      unfold cutL loN hiN clampN
      simp only [show (-1 : Int) < 0 from by decide, if_true, List.length_append, List.length_singleton]
      rw [show ((-1 : Int) + ((g.length + 1 : Nat) : Int)).toNat = g.length from by omega, List.drop_left]
      exact List.take_of_length_le (by rw [List.length_singleton]; omega)
    rw [e]; simp
section
variable {prog : Program} {w : World} {A : Around} {E : Value → Shared → Prop} {hp : Heap} {gn : Array GenState} {dr : Drawn} {tk : Nat} {os : OsState} {t u : Tok} {h₀ : Heap} {L a : Addr} {news : Led} {l : Txts} {n : Nat} {Q : Value → Shared → Prop}
theorem len_L (N : News h₀ L hp news) (ha : (a, listOf (sv l).toArray n) ∈ news) (hsz : l.length ≤ 100000) (h : ∀ t' k, Q (.int (l.length : Int) t') ⟨hp, gn, dr, k, os⟩) : wpAny (model prog w) A (call (.builtin "len") [.ref a]) Q E ⟨hp, gn, dr, tk, os⟩ := by
  have e : (sv l).toArray.size = l.length := by simp [sv]
  refine PyProof.Rows.len_list (s := ⟨hp, gn, dr, tk, os⟩) (lstN N ha) (by rw [e]; omega) ?_
  rw [e]; exact h _ _
theorem mul_S {c : Nat} {i : Int} (h0 : 0 ≤ i) (h1 : i ≤ 100000) (h : ∀ t' k, Q (.str (S (List.replicate i.toNat c)) t') ⟨hp, gn, dr, k, os⟩) : wpAny (model prog w) A (binaryOp .Mult (.str (S [c]) t) (.int i u)) Q E ⟨hp, gn, dr, tk, os⟩ :=
  SB.mul (mulOk_of 1 100000 (by rw [S_len]; exact Nat.le_refl _) (by omega) (by omega) (by decide) (by decide)) fun t' k => by
    rw [mul_one_S]; exact h t' k
theorem ne_S {a b : List Nat} (h : Q (.bool (!decide (a = b))) ⟨hp, gn, dr, tk, os⟩) : wpAny (model prog w) A (compareOp .NotEq (.str (S a) t) (.str (S b) u)) Q E ⟨hp, gn, dr, tk, os⟩ :=
  PySem.P.ne_str (by
    have : ((S a).cps.toList != (S b).cps.toList) = !decide (a = b) := by rw [bne, S_beq]
    rw [this]; exact h)
end
end Mine
namespace Mine
theorem joinL_len {e : List Nat} (he : e.length ≤ 2) : ∀ ys : List (List Nat), (joinL e ys).length ≤ 2 * weight ys
  | [] => Nat.zero_le _
  | [x] => by rw [weight_cons, weight_nil]; show x.length ≤ _; omega
  | x :: y :: r => by
    have := joinL_len he (y :: r)
    rw [weight_cons]
    show (x ++ e ++ joinL e (y :: r)).length ≤ _
    rw [List.length_append, List.length_append]; omega
theorem benc_len {L : Nat} (hL : 4 ≤ L) {e x : List Nat} (he : e.length ≤ 2) (hx : x.length ≤ 1000) : (benc L e x).length ≤ 100000 := by
  rw [benc_U]
  refine Nat.le_trans (joinL_len he _) ?_
  rw [weight_append]
  have h1 := weight_flat hL he (linesL brkU (enc x))
  have h2 := wsum_lines (enc x)
  have h3 := enc_len hx
  have h4 : weight (if lastNl x then [[]] else []) ≤ 1 := by split <;> simp [weight]
  omega
theorem EolOk.len {e : List Nat} (h : EolOk e) : e.length ≤ 2 := by rcases h with rfl | rfl | rfl <;> decide
theorem EolOk.ne {e : List Nat} (h : EolOk e) : e ≠ [] := by rcases h with rfl | rfl | rfl <;> decide
theorem EolOk.small {e : List Nat} (h : EolOk e) : ∀ c ∈ e, c < 256 := by rcases h with rfl | rfl | rfl <;> decide
theorem bodyRows_noNl {L : Nat} (hL : 4 ≤ L) (t : List Nat) : ∀ r ∈ bodyRows L t, NoNl r := fun r hr => by
  obtain ⟨l, hl, hr⟩ := List.mem_flatMap.mp hr
  exact rowsOf_noNl hL (pieces_good _) r hr
theorem split_benc {L : Nat} (hL : 4 ≤ L) {e t : List Nat} (he : EolOk e) (hne : bodyRows L t ≠ []) : splitL e (benc L e t) = bodyRows L t := by
  rw [benc_rows hL]
  exact split_rows he hne (bodyRows_noNl hL t)
/-- the row at the place of what is sent -/
theorem row_now {L : Nat} (hL : 4 ≤ L) {e t : List Nat} {s : LSt} (he : EolOk e) (h : Seen t s) (hne : t ≠ []) (hn : lastNl t = false) : (splitL e (benc L e t))[(sentOf L s).length]? = some (row0 (tailRows L (heldOf L s))) := by
  have e1 := rows_seen (L := L) h hne
  rw [hn] at e1
  rw [split_benc hL he (by rw [e1]; simp [tailRows_ne]), e1]
  exact get_row (tailRows_ne _ _)
theorem row_more {L : Nat} (hL : 4 ≤ L) {e t : List Nat} {s : LSt} (he : EolOk e) (h : Seen t s) {n : Nat} (hn : n ≠ 0) : (splitL e (benc L e (t ++ List.replicate n 107)))[(sentOf L s).length]? = some (row0 (rowsOf L (heldOf L s ++ List.replicate n [107]))) := by
  have e1 := rows_more hL h hn
  rw [split_benc hL he (by rw [e1]; simp [rowsOf_ne]), e1]
  exact get_row (rowsOf_ne _ _)
end Mine
namespace Mine
theorem told_ended {L : Nat} (hL : 4 ≤ L) {e t : List Nat} {st : LSt} {sl : Txts} {tz : Tok} (h : Seen t st) (hne : t ≠ []) (hn : lastNl t = true) (hs : sl.map (·.1) = sentOf L st) : benc L e t = joinL e ((sl ++ [([], tz)] : Txts).map (·.1)) := by
  rw [benc_rows hL, rows_seen h hne, hn, List.map_append, hs]; rfl
theorem told_open {L : Nat} (hL : 4 ≤ L) {e t : List Nat} {st : LSt} {sl r : Txts} (h : Seen t st) (hne : t ≠ []) (hn : lastNl t = false) (hs : sl.map (·.1) = sentOf L st) (hr : r.map (·.1) = tailRows L (heldOf L st)) : benc L e t = joinL e ((sl ++ r : Txts).map (·.1)) := by
  rw [benc_rows hL, rows_seen h hne, hn, List.map_append, hs, hr]; rfl
end Mine
end
section
open PySem PySem.W PyProof.Rows PySem.Calls
set_option linter.unusedVariables false
set_option maxRecDepth 100000
set_option maxHeartbeats 1000000
namespace Mine
/-- a part of a body that goes on: what holds behind it -/
def NextTo (P : Shared → Prop) (f : Flow) (s : Shared) : Prop := f = .next ∧ P s
theorem execs_app {M : Model} {A : Around} {E : Value → Shared → Prop} {s : Shared} {env : Env} {a b : List Stmt} {Q : Flow → Shared → Prop} (P : Shared → Prop) (h1 : wpAny M A (execs a env) (NextTo P) E s) (h2 : ∀ s', P s' → wpAny M A (execs b env) Q E s') : wpAny M A (execs (a ++ b) env) Q E s := by
  intro Γ p hΓ
  have key : ∀ (a : List Stmt) (p : Pos) (s : Shared), Sem.wp M Γ (execs a env) (fun f _ s' => NextTo P f s') (fun e _ s' => E e s') p s → Sem.wp M Γ (execs (a ++ b) env) (fun f _ s' => Q f s') (fun e _ s' => E e s') p s := by
    intro a
    induction a with
    | nil => intro p s h; exact h2 s h.2 Γ p hΓ
    | cons st r ih =>
      intro p s h
      rw [execs_cons, Sem.wp_bind'] at h
      show Sem.wp M Γ (execs (st :: (r ++ b)) env) _ _ _ _
      rw [execs_cons, Sem.wp_bind']
      refine Sem.wp_mono M Γ _ (fun f p' s' h' => ?_) (fun _ _ _ h' => h') _ _ h
      cases f with
      | next => exact ih p' s' h'
      | _ => exact absurd h'.1 (by intro e; cases e)
  exact key a p s (h1 Γ p hΓ)
theorem execs_mid4 {M : Model} {A : Around} {E : Value → Shared → Prop} {s : Shared} {env : Env} {s1 s2 s3 s4 : Stmt} {b : List Stmt} {Q : Flow → Shared → Prop} (P : Shared → Prop) (h1 : wpAny M A (execs [s1, s2, s3, s4] env) (NextTo P) E s) (h2 : ∀ s', P s' → wpAny M A (execs b env) Q E s') : wpAny M A (execs (s1 :: s2 :: s3 :: s4 :: b) env) Q E s :=
  execs_app P h1 h2
theorem execs_midL {M : Model} {A : Around} {E : Value → Shared → Prop} {s : Shared} {env : Env} {s1 s2 s3 s4 : Stmt} {b : List Stmt} {Q : Flow → Shared → Prop} {h₀ : Heap} {L I : Addr} {it : Obj} {J : (PySem.Str → Option Value) → Led → Prop} {s₁ : Shared}
    (h1 : wpAny M A (execs [s1, s2, s3, s4] env) (NextTo (LEnd h₀ L s₁ I it J)) E s) (h2 : ∀ s', LEnd h₀ L s₁ I it J s' → wpAny M A (execs b env) (LPost h₀ L s₁ I it J Q) E s') : wpAny M A (execs (s1 :: s2 :: s3 :: s4 :: b) env) (LPost h₀ L s₁ I it J Q) E s :=
  execs_app _ h1 h2
theorem NextTo.intro {h₀ : Heap} {L I : Addr} {it : Obj} {J : (PySem.Str → Option Value) → Led → Prop} {s₁ : Shared} {h' : Heap} {tk : Nat} {m' : PySem.Str → Option Value} {all : Led} (F : Fr h₀ L h' m') (N : News h₀ L h' all) (news' : Led)
    (hI : (I, it) ∈ all) (sub : ∀ p ∈ news', p ∈ all) (off : ∀ p ∈ news', p.1 ≠ I) (j : J m' news') : NextTo (LEnd h₀ L s₁ I it J) .next { s₁ with heap := h', toks := tk } :=
  ⟨rfl, h', tk, m', news', rfl, F, fun p hp => by rcases List.mem_cons.mp hp with rfl | hp; exact N _ hI; exact N _ (sub p hp), off, j⟩
theorem lk_same {σ : Type} {loc : σ → List (PySem.Str × Value)} {names : List PySem.Str} {m₀ m₁ : PySem.Str → Option Value} {c : σ} (h1 : ∀ p ∈ loc c, m₁ p.1 = some p.2) (h2 : ∀ z, names.contains z = false → m₁ z = m₀ z) : m₁ = lk (loc c) (fun y => if names.contains y then m₁ y else m₀ y) := by
  funext y
  refine (lk_eq h1 ?_).symm
  cases hy : names.contains y with
  | true => rfl
  | false => exact (h2 y hy).symm
end Mine
namespace Mine
section
variable {L : Nat} {e text : List Nat} {st : LSt} {sl hl rr hh r : Txts} {c : Nat} {t : Tok}
theorem law_joined (hst : Seen text st) (hc : c < 256) (hsl : sl.map (·.1) = sentOf L st) (hhl : hl.map (·.1) = heldOf L st) (h1 : [c] = [10]) (h2 : cutL text (some (-1)) none = [13]) :
    ∃ st', Seen (text ++ [c]) st' ∧ sl.map (·.1) = sentOf L st' ∧ hl.map (·.1) = heldOf L st' := by
  have e1 : c = 10 := (List.cons.inj h1).1
  have hj : (st.2.2 && c == 10) = true := by
    rw [hst.cr, (last13 text).mp h2, e1]; rfl
  have h := write_joined (L := L) st c hj
  exact ⟨_, hst.snoc hc, by rw [h.1]; exact hsl, by rw [h.2]; exact hhl⟩
theorem law_nl (hst : Seen text st) (hc : c < 256) (hsl : sl.map (·.1) = sentOf L st) (hhl : hl.map (·.1) = heldOf L st) (hn : isNl c = true) (hj : (st.2.2 && c == 10) = false) (hr : r.map (·.1) = tailRows L (hl.map (·.1))) :
    ∃ st', Seen (text ++ [c]) st' ∧ (sl ++ r : Txts).map (·.1) = sentOf L st' ∧ ([] : Txts).map (·.1) = heldOf L st' := by
  have h := write_nl (L := L) st c ((brk_octet hc).trans hn) hj
  exact ⟨_, hst.snoc hc, by rw [h.1, List.map_append, hsl, hr, hhl], by rw [h.2]; rfl⟩
theorem law_lf (hst : Seen text st) (hc : c < 256) (hsl : sl.map (·.1) = sentOf L st) (hhl : hl.map (·.1) = heldOf L st) (h1 : [c] = [10]) (h2 : ¬ cutL text (some (-1)) none = [13]) (hr : r.map (·.1) = tailRows L (hl.map (·.1))) :
    ∃ st', Seen (text ++ [c]) st' ∧ (sl ++ r : Txts).map (·.1) = sentOf L st' ∧ ([] : Txts).map (·.1) = heldOf L st' := by
  have e1 : c = 10 := (List.cons.inj h1).1
  refine law_nl hst hc hsl hhl (by rw [e1]; rfl) ?_ hr
  rw [hst.cr]
  have : (text.getLast? == some 13) = false := by rw [beq_eq_false_iff_ne]; exact fun e => h2 ((last13 text).mpr e)
  rw [this]; rfl
theorem law_cr (hst : Seen text st) (hc : c < 256) (hsl : sl.map (·.1) = sentOf L st) (hhl : hl.map (·.1) = heldOf L st) (h1 : [c] = [13]) (hr : r.map (·.1) = tailRows L (hl.map (·.1))) :
    ∃ st', Seen (text ++ [c]) st' ∧ (sl ++ r : Txts).map (·.1) = sentOf L st' ∧ ([] : Txts).map (·.1) = heldOf L st' := by
  have e1 : c = 13 := (List.cons.inj h1).1
  refine law_nl hst hc hsl hhl (by rw [e1]; rfl) ?_ hr
  rw [e1]; simp
theorem law_plain (hL : 4 ≤ L) (hst : Seen text st) (hc : c < 256) (hsl : sl.map (·.1) = sentOf L st) (hhl : hl.map (·.1) = heldOf L st) (h1 : ¬ [c] = [10]) (h2 : ¬ [c] = [13])
    (hr : rr.map (·.1) = (send L ((hl ++ [(piece c, t)] : Txts).map (·.1))).1) (hH : hh.map (·.1) = (send L ((hl ++ [(piece c, t)] : Txts).map (·.1))).2) :
    ∃ st', Seen (text ++ [c]) st' ∧ (sl ++ rr : Txts).map (·.1) = sentOf L st' ∧ hh.map (·.1) = heldOf L st' := by
  have hb : isBrk c = false := by
    rw [brk_octet hc, isNl, Bool.or_eq_false_iff, beq_eq_false_iff_ne, beq_eq_false_iff_ne]
    exact ⟨fun e => h1 (by rw [e]), fun e => h2 (by rw [e])⟩
  have h := write_plain hL st c hb
  have e1 : (hl ++ [(piece c, t)] : Txts).map (·.1) = heldOf L st ++ [piece c] := by rw [List.map_append, hhl]; rfl
  rw [e1] at hr hH
  exact ⟨_, hst.snoc hc, by rw [h.1, List.map_append, hsl, hr], by rw [h.2, hH]⟩
theorem nl_one {c : Nat} (h : [c] = [10]) : isNl c = true := by rw [(List.cons.inj h).1]; rfl
theorem nl_two {c : Nat} (h : [c] = [13]) : isNl c = true := by rw [(List.cons.inj h).1]; rfl
theorem nl_no {c : Nat} (h1 : ¬ [c] = [10]) (h2 : ¬ [c] = [13]) : isNl c = false := by
  rw [isNl, Bool.or_eq_false_iff, beq_eq_false_iff_ne, beq_eq_false_iff_ne]
  exact ⟨fun e => h1 (by rw [e]), fun e => h2 (by rw [e])⟩
theorem item_now (er : r.map (·.1) = splitL e (benc L e text)) (hL : 4 ≤ L) (he : EolOk e) (hst : Seen text st) (hne : text ≠ []) (hn : lastNl text = false) (hsl : sl.map (·.1) = sentOf L st) :
    (r.map (·.1))[((sl.length : Nat) : Int).toNat]? = some (row0 (tailRows L (heldOf L st))) := by
  have h := row_now hL he hst hne hn
  have e1 : sl.length = (sentOf L st).length := by rw [← hsl, List.length_map]
  rw [er, Int.toNat_natCast, e1]; exact h
theorem item_more {n : Nat} (er : r.map (·.1) = splitL e (benc L e (text ++ List.replicate n 107))) (hn : n ≠ 0) (hL : 4 ≤ L) (he : EolOk e) (hst : Seen text st) (hsl : sl.map (·.1) = sentOf L st) :
    (r.map (·.1))[((sl.length : Nat) : Int).toNat]? = some (row0 (rowsOf L (heldOf L st ++ List.replicate n [107]))) := by
  have h := row_more hL he hst hn
  have e1 : sl.length = (sentOf L st).length := by rw [← hsl, List.length_map]
  rw [er, Int.toNat_natCast, e1]; exact h
theorem item_one (er : r.map (·.1) = splitL e (benc L e (text ++ [107]))) (hL : 4 ≤ L) (he : EolOk e) (hst : Seen text st) (hsl : sl.map (·.1) = sentOf L st) :
    (r.map (·.1))[((sl.length : Nat) : Int).toNat]? = some (row0 (rowsOf L (heldOf L st ++ List.replicate 1 [107]))) := item_more (n := 1) er (by decide) hL he hst hsl
theorem item_many (er : r.map (·.1) = splitL e (benc L e (text ++ List.replicate ((L : Int) + 2).toNat 107))) (hL : 4 ≤ L) (he : EolOk e) (hst : Seen text st) (hsl : sl.map (·.1) = sentOf L st) :
    (r.map (·.1))[((sl.length : Nat) : Int).toNat]? = some (row0 (rowsOf L (heldOf L st ++ List.replicate (L + 2) [107]))) := by
  rw [show ((L : Int) + 2).toNat = L + 2 from by omega] at er
  exact item_more er (by omega) hL he hst hsl
end
theorem loc4 {m₀ : PySem.Str → Option Value} {a b c d : PySem.Str} {v1 v2 v3 v4 : Value} (h1 : m₀ a = some v1) (h2 : m₀ b = some v2) (h3 : m₀ c = some v3) (h4 : m₀ d = some v4) : ∀ p ∈ [(a, v1), (b, v2), (c, v3), (d, v4)], m₀ p.1 = some p.2 := fun p hp => by
  simp only [List.mem_cons, List.not_mem_nil, or_false] at hp
  rcases hp with rfl | rfl | rfl | rfl <;> assumption
theorem off3 {I a b x y : Addr} {o1 o2 o3 o4 : Obj} {rest : Led} (off : ∀ p ∈ ((x, o3) :: (y, o4) :: rest : Led), p.1 ≠ I) (h1 : @LT.lt Nat instLTNat I a) (h2 : @LT.lt Nat instLTNat I b) : ∀ p ∈ ((a, o1) :: (b, o2) :: rest : Led), p.1 ≠ I := fun p hp => by
  rcases List.mem_cons.mp hp with rfl | hp
  · exact Nat.ne_of_gt h1
  · rcases List.mem_cons.mp hp with rfl | hp
    · exact Nat.ne_of_gt h2
    · exact off p (.tail _ (.tail _ hp))
theorem oct_more {text : List Nat} (h : ∀ d ∈ text, d < 256) (n : Nat) : ∀ d ∈ text ++ List.replicate n 107, d < 256 := fun d hd => by
  rcases List.mem_append.mp hd with hd | hd
  · exact h d hd
  · have := (List.mem_replicate.mp hd).2; omega
theorem oct_k {text : List Nat} (h : ∀ d ∈ text, d < 256) : ∀ d ∈ text ++ [107], d < 256 := oct_more h 1
end Mine
namespace Mine
section
variable {A B C : List Nat} {n L : Nat} {w : Bool}
theorem cmp1 (f : (A = B ∧ B = C) ↔ (n = L ∧ w = true)) (a : A = B) (l : (n : Int) = (L : Int)) (h : (decide (B = C) != w) = true) : False := by
  have hn : n = L := by omega
  by_cases hbc : B = C
  · have := (f.mp ⟨a, hbc⟩).2
    simp [hbc, this] at h
  · cases w with
    | false => simp [hbc] at h
    | true => exact hbc (f.mpr ⟨hn, rfl⟩).2
theorem cmp2 (f : (A = B ∧ B = C) ↔ (n = L ∧ w = true)) (a : A = B) (l : (n : Int) ≠ (L : Int)) (h : (decide (B = C) != ((n : Int) == (L : Int))) = true) : False := by
  have e : ((n : Int) == (L : Int)) = false := beq_eq_false_iff_ne.mpr l
  rw [e] at h
  by_cases hbc : B = C
  · have := (f.mp ⟨a, hbc⟩).1
    exact l (by omega)
  · simp [hbc] at h
theorem cmp3 (f : (A = B ∧ B = C) ↔ (n = L ∧ w = true)) (a : ¬ A = B) (l : (n : Int) = (L : Int)) (h : (decide (A = B) != w) = true) : False := by
  have hn : n = L := by omega
  cases w with
  | false => simp [a] at h
  | true => exact a (f.mpr ⟨hn, rfl⟩).1
theorem cmp4 (a : ¬ A = B) (l : (n : Int) ≠ (L : Int)) (h : (decide (A = B) != ((n : Int) == (L : Int))) = true) : False := by
  have e : ((n : Int) == (L : Int)) = false := beq_eq_false_iff_ne.mpr l
  rw [e] at h
  simp [a] at h
end
theorem row_fact {L : Nat} {st : LSt} {hl : Txts} (hL : 4 ≤ L) (hhl : hl.map (·.1) = heldOf L st) (hh : AllGood (hl.map (·.1))) (hs : (hl.map (·.1)).flatten.length ≤ L) :
    ((row0 (tailRows L (heldOf L st)) = row0 (rowsOf L (heldOf L st ++ List.replicate 1 [107])) ∧ row0 (rowsOf L (heldOf L st ++ List.replicate 1 [107])) = row0 (rowsOf L (heldOf L st ++ List.replicate (L + 2) [107]))) ↔ ((hl.map (·.1)).flatten.length = L ∧ white (hl.map (·.1)) = true)) := by
  rw [← hhl]; exact row0_fact hL hh hs
end Mine
namespace Mine
theorem sub3 {a b : Addr × Obj} {rest all : Led} (h1 : a ∈ all) (h2 : b ∈ all) (h3 : ∀ p ∈ rest, p ∈ all) : ∀ p ∈ a :: b :: rest, p ∈ all := fun p hp => by
  rcases List.mem_cons.mp hp with rfl | hp
  · exact h1
  · rcases List.mem_cons.mp hp with rfl | hp
    · exact h2
    · exact h3 p hp
end Mine
end
section
open PySem PySem.W PyProof.Rows PySem.Calls
set_option linter.unusedVariables false
set_option linter.unusedSimpArgs false
set_option maxRecDepth 100000
set_option maxHeartbeats 1000000
namespace Mine
theorem fine_nil : Fine [] := fun _ h => nomatch h
theorem last_some {α : Type} {l : List α} (h : ¬ l = []) : ∃ z, l.getLast? = some z := ⟨l.getLast h, List.getLast?_eq_some_getLast h⟩
theorem S_eqb (a b : List Nat) : (S a == S b) = decide (a = b) := by
  by_cases h : a = b
  · simp [h]
  · have : S a ≠ S b := fun e => h (S_inj e)
    simp [h, this]
theorem any_white {zs : List (List Nat)} {z : List Nat} (hz : zs.getLast? = some z) : ([S [32], S [9]].any fun x => x == S z) = white zs := by
  rw [white, hz]
  simp only [List.any_cons, List.any_nil, Bool.or_false, S_eqb]
  have e : ∀ y : List Nat, decide (y = z) = (some z == some y) := fun y => by
    by_cases h : y = z
    · subst h; simp
    · have h' : ¬ z = y := fun e => h e.symm
      simp [h, h']
  rw [e, e]
theorem retI_sub {h₀ h' : Heap} {L : Addr} {m : PySem.Str → Option Value} {news all : Led} {s : Shared} {Q : Value → Shared → Prop} {x y : Int} {t : Tok} {tk' : Nat}
    (hret : ∀ v added h' tk', Fr h₀ L h' m → News h₀ L h' (added ++ news) → (∀ q ∈ news, ∀ p ∈ added, q.1 < p.1) → OutI x added v → Q v { s with heap := h', toks := tk' }) (e : y = x) (F : Fr h₀ L h' m) (N : News h₀ L h' all) (sub : ∀ p ∈ news, p ∈ all) : Q (.int y t) { s with heap := h', toks := tk' } :=
  retI hret e F fun p hp => N p (sub p hp)
theorem retB_sub {h₀ h' : Heap} {L : Addr} {m : PySem.Str → Option Value} {news all : Led} {s : Shared} {Q : Value → Shared → Prop} {x y : Bool} {tk' : Nat}
    (hret : ∀ v added h' tk', Fr h₀ L h' m → News h₀ L h' (added ++ news) → (∀ q ∈ news, ∀ p ∈ added, q.1 < p.1) → OutB x added v → Q v { s with heap := h', toks := tk' }) (e : y = x) (F : Fr h₀ L h' m) (N : News h₀ L h' all) (sub : ∀ p ∈ news, p ∈ all) : Q (.bool y) { s with heap := h', toks := tk' } :=
  retB hret e F fun p hp => N p (sub p hp)
theorem cut_useI {prog : Program} {w : World} {K : Frag} {f : Addr} {dep : Nat} {vs : List Value} {pre : Led → Prop} {x : Int} (C : Cut prog w K f dep vs pre (OutI x))
    {p : Program} {loose : List PySem.Str} {mean : ExcName → Option Value} {mg mb : PySem.Str → Option Value} {dp un : Nat} {gd : Option (List Code)} {cn : PySem.Str} {cs : Scope} {a : Addr} {ccd : Value} {cl : List (PySem.Str × Addr)} {outer : List Env} {A₀ : Around} {base h₀ : Heap} {L : Addr} {m : PySem.Str → Option Value}
    {news : Led} {hp : Heap} {gn : Array GenState} {dr : Drawn} {tk : Nat} {os : OsState} {Q E : Value → Shared → Prop}
    (B : Below A₀ base outer h₀) (F : Fr h₀ L hp m) (X : K.In h₀) (N : News h₀ L hp news) (T : Top p loose mean mg mb h₀) (hk : cs.kind = .function) (hpre : pre news) (hd : dp + dep < recursionLimit) (hu : un + 8 * dep < cLine)
    (ret : ∀ t h' tk', Fr h₀ L h' m → News h₀ L h' news → Q (.int x t) ⟨h', gn, dr, tk', os⟩) :
    wpAny (model prog w) (ktrTop dp un gd cn cs L a ccd cl outer) (call (.ref f) vs) Q E ⟨hp, gn, dr, tk, os⟩ := cut_use C B F X N T hk hpre hd hu fun v added h' tk' F' N' _ o => by
  obtain ⟨rfl, t, rfl⟩ := o
  exact ret t h' tk' F' N'
theorem cut_useB {prog : Program} {w : World} {K : Frag} {f : Addr} {dep : Nat} {vs : List Value} {pre : Led → Prop} {x : Bool} (C : Cut prog w K f dep vs pre (OutB x))
    {p : Program} {loose : List PySem.Str} {mean : ExcName → Option Value} {mg mb : PySem.Str → Option Value} {dp un : Nat} {gd : Option (List Code)} {cn : PySem.Str} {cs : Scope} {a : Addr} {ccd : Value} {cl : List (PySem.Str × Addr)} {outer : List Env} {A₀ : Around} {base h₀ : Heap} {L : Addr} {m : PySem.Str → Option Value}
    {news : Led} {hp : Heap} {gn : Array GenState} {dr : Drawn} {tk : Nat} {os : OsState} {Q E : Value → Shared → Prop}
    (B : Below A₀ base outer h₀) (F : Fr h₀ L hp m) (X : K.In h₀) (N : News h₀ L hp news) (T : Top p loose mean mg mb h₀) (hk : cs.kind = .function) (hpre : pre news) (hd : dp + dep < recursionLimit) (hu : un + 8 * dep < cLine)
    (ret : ∀ h' tk', Fr h₀ L h' m → News h₀ L h' news → Q (.bool x) ⟨h', gn, dr, tk', os⟩) :
    wpAny (model prog w) (ktrTop dp un gd cn cs L a ccd cl outer) (call (.ref f) vs) Q E ⟨hp, gn, dr, tk, os⟩ := cut_use C B F X N T hk hpre hd hu fun v added h' tk' F' N' _ o => by
  obtain ⟨rfl, rfl⟩ := o
  exact ret h' tk' F' N'
/-- a new list of texts comes back -/
def OutL (zs : List (List Nat)) (added : Led) (v : Value) : Prop := ∃ D r, v = .ref D ∧ added = [(D, listOf (sv r).toArray 0)] ∧ r.map (·.1) = zs
theorem retL {h₀ h' : Heap} {L : Addr} {m : PySem.Str → Option Value} {news all : Led} {s : Shared} {Q : Value → Shared → Prop} {zs : List (List Nat)} {r : Txts} {D : Addr} {tk' : Nat}
    (hret : ∀ v added h' tk', Fr h₀ L h' m → News h₀ L h' (added ++ news) → (∀ q ∈ news, ∀ p ∈ added, q.1 < p.1) → OutL zs added v → Q v { s with heap := h', toks := tk' }) (F : Fr h₀ L h' m) (N : News h₀ L h' ((D, listOf (sv r).toArray 0) :: all)) (lt : ∀ p ∈ all, p.1 < D) (sub : ∀ p ∈ news, p ∈ all) (e : r.map (·.1) = zs) : Q (.ref D) { s with heap := h', toks := tk' } :=
  hret _ [(D, listOf (sv r).toArray 0)] h' tk' F (fun p hp => by rcases List.mem_cons.mp hp with rfl | hp; exact N _ (.head _); exact N _ (.tail _ (sub p hp))) (fun q hq p hp => by rw [List.mem_singleton.mp hp]; exact lt q (sub q hq)) ⟨D, r, rfl, rfl, e⟩
theorem newL {M : Model} {A : Around} {E : Value → Shared → Prop} {hp : Heap} {gn : Array GenState} {dr : Drawn} {tk : Nat} {os : OsState} {h₀ : Heap} {L : Addr} {m : PySem.Str → Option Value} {news : Led} {Q : Value → Shared → Prop} {vs : List Value} (r : Txts) (e : vs = sv r) (hsz : vs.length ≤ 100000) (F : Fr h₀ L hp m) (N : News h₀ L hp news)
    (h : ∀ D h', Fr h₀ L h' m → News h₀ L h' ((D, listOf (sv r).toArray 0) :: news) → (∀ p ∈ news, p.1 < D) → Q (.ref D) ⟨h', gn, dr, tk, os⟩) : wpAny M A (newList vs) Q E ⟨hp, gn, dr, tk, os⟩ := by
  subst e
  exact newList_K (s := ⟨hp, gn, dr, tk, os⟩) F N (fun D h' F' N' l => h D h' F' N' l) (Nat.le_trans hsz (by decide))
theorem written_white {L : Nat} {zs : List (List Nat)} {mk : List Nat} (hw : white zs = true) (hm : mk = if zs.getLast?.getD [] = [32] then [61, 50, 48] else [61, 48, 57]) : tailRows L zs =
    if zs.flatten.length + 2 ≤ L then [zs.dropLast.flatten ++ mk] else if zs.flatten.length + 1 = L then [zs.dropLast.flatten ++ zs.getLast?.getD [] ++ [61], []] else [zs.dropLast.flatten ++ [61], mk] := by
  obtain ⟨g, c, rfl, hc⟩ := white_split hw
  have hq : mk = quoteL c := by
    rw [hm, List.getLast?_append, List.getLast?_singleton, Option.some_or, Option.getD_some]
    rcases hc with rfl | rfl <;> decide
  rw [tailRows_white hc, hq]
  simp only [List.flatten_append, List.flatten_cons, List.flatten_nil, List.append_nil, List.length_append, List.length_cons, List.length_nil, List.dropLast_concat,
    List.getLast?_append, List.getLast?_singleton, Option.some_or, Option.getD_some, Nat.zero_add, Nat.add_assoc]
theorem weight_last (zs : List (List Nat)) : (zs.getLast?.getD []).length ≤ weight zs := by
  rcases List.eq_nil_or_concat zs with rfl | ⟨g, p, rfl⟩
  · exact Nat.le_refl _
  · rw [List.concat_eq_append, weight_append, List.getLast?_append, List.getLast?_singleton, Option.some_or, Option.getD_some, weight_cons]; omega
theorem weight_dropLast (zs : List (List Nat)) : weight zs.dropLast ≤ weight zs := by
  rcases List.eq_nil_or_concat zs with rfl | ⟨g, p, rfl⟩
  · exact Nat.le_refl _
  · rw [List.concat_eq_append, List.dropLast_concat, weight_append]; omega
theorem join0_S {prog : Program} {w : World} {A : Around} {E : Value → Shared → Prop} {hp : Heap} {gn : Array GenState} {dr : Drawn} {tk : Nat} {os : OsState} {t : Tok} {h₀ : Heap} {L : Addr} {news : Led} {Q : Value → Shared → Prop} {D : Addr} {n : Nat} {l : Txts} (hN : News h₀ L hp news) (hD : (D, listOf (sv l).toArray n) ∈ news) (hw : weight (l.map (·.1)) ≤ 200000)
    (h : ∀ t' k, Q (.str (S (l.map (·.1)).flatten) t') ⟨hp, gn, dr, k, os⟩) : wpAny (model prog w) A (call (.builtin "str.join") [.str (S []) t, .ref D]) Q E ⟨hp, gn, dr, tk, os⟩ :=
  join_S hN hD rfl (by decide) hw fun t' k => by rw [joinL_nil]; exact h t' k
theorem last_white {zs : List (List Nat)} (h : white zs = true) : zs.getLast? = some (zs.getLast?.getD []) := by
  cases e : zs.getLast? with
  | none => rw [white, e] at h; cases h
  | some z => rfl
theorem append_L {prog : Program} {w : World} {A : Around} {E : Value → Shared → Prop} {hp : Heap} {gn : Array GenState} {dr : Drawn} {tk : Nat} {os : OsState} {h₀ : Heap} {L D : Addr} {m : PySem.Str → Option Value} {news news' : Led} {its : Array Value} {n : Nat} {x : Value} {Q : Value → Shared → Prop} (F : Fr h₀ L hp m) (N : News h₀ L hp news) (U : Upd D (listOf its n) (listOf (its.push x) (n + 1)) news news')
    (h : ∀ h', Fr h₀ L h' m → News h₀ L h' news' → Q .none ⟨h', gn, dr, tk, os⟩) (hsz : its.size ≤ sizeLine) : wpAny (model prog w) A (call (.builtin "list.append") [.ref D, x]) Q E ⟨hp, gn, dr, tk, os⟩ :=
  append_K (s := ⟨hp, gn, dr, tk, os⟩) F N U h hsz
theorem allLt_lt {d : Addr} : ∀ {l : Led}, AllLt d l → ∀ p ∈ l, p.1 < d
  | [], _, _, h => nomatch h
  | _ :: _, h, _, .head _ => h.1
  | _ :: _, h, _, .tail _ m => allLt_lt h.2 _ m
theorem loc2 {m₀ : PySem.Str → Option Value} {a b : PySem.Str} {v v' : Value} (h : m₀ a = some v) (h' : m₀ b = some v') : ∀ p ∈ [(a, v), (b, v')], m₀ p.1 = some p.2 := fun p hp => by
  rcases List.mem_cons.mp hp with rfl | hp
  · exact h
  · rw [List.mem_singleton.mp hp]; exact h'
theorem news_twice {h₀ h : Heap} {L : Addr} {all : Led} {q : Addr × Obj} (N : News h₀ L h all) (hq : q ∈ all) : News h₀ L h (q :: all) := fun p hp => by
  rcases List.mem_cons.mp hp with rfl | hp
  · exact N _ hq
  · exact N _ hp
def Join (h₀ : Heap) (L : Addr) (m : PySem.Str → Option Value) (news : Led) (gn : Array GenState) (dr : Drawn) (os : OsState) (P : Led → Value → Prop) (v : Value) (s : Shared) : Prop :=
  ∃ h k added, s = ⟨h, gn, dr, k, os⟩ ∧ Fr h₀ L h m ∧ News h₀ L h (added ++ news) ∧ P added v
theorem join_eval {M : Model} {A : Around} {E : Value → Shared → Prop} {hp : Heap} {gn : Array GenState} {dr : Drawn} {tk : Nat} {os : OsState} {h₀ : Heap} {L : Addr} {m : PySem.Str → Option Value} {news : Led} {Q : Value → Shared → Prop} {t : Sem Value} (P : Led → Value → Prop) (F : Fr h₀ L hp m) (N : News h₀ L hp news)
    (h1 : wpAny M A t (Join h₀ L m news gn dr os P) E ⟨hp, gn, dr, tk, os⟩)
    (h2 : ∀ v h k added, Fr h₀ L h m → News h₀ L h (added ++ news) → P added v → Q v ⟨h, gn, dr, k, os⟩) : wpAny M A t Q E ⟨hp, gn, dr, tk, os⟩ :=
  wpAny_mono h1 (fun v s ⟨h, k, added, e, F, N, p⟩ => e ▸ h2 v h k added F N p) fun _ _ z => z
theorem Join.int {h₀ h : Heap} {L : Addr} {m : PySem.Str → Option Value} {news all : Led} {gn : Array GenState} {dr : Drawn} {os : OsState} {k : Nat} {i : Int} {t : Tok} (F : Fr h₀ L h m) (N : News h₀ L h all) (sub : ∀ p ∈ news, p ∈ all) :
    Join h₀ L m news gn dr os (fun added v => added = [] ∧ ∃ i t, v = .int i t) (.int i t) ⟨h, gn, dr, k, os⟩ := ⟨h, k, [], rfl, F, fun p hp => N p (sub p hp), rfl, i, t, rfl⟩
theorem Join.eol {h₀ h : Heap} {L : Addr} {m : PySem.Str → Option Value} {news all : Led} {gn : Array GenState} {dr : Drawn} {os : OsState} {k : Nat} {e : List Nat} {t : Tok} (he : EolOk e) (F : Fr h₀ L h m) (N : News h₀ L h all) (sub : ∀ p ∈ news, p ∈ all) :
    Join h₀ L m news gn dr os (fun added v => added = [] ∧ ∃ e t, EolOk e ∧ v = .str (S e) t) (.str (S e) t) ⟨h, gn, dr, k, os⟩ := ⟨h, k, [], rfl, F, fun p hp => N p (sub p hp), rfl, e, t, he, rfl⟩
theorem newL1 {M : Model} {A : Around} {E : Value → Shared → Prop} {hp : Heap} {gn : Array GenState} {dr : Drawn} {tk : Nat} {os : OsState} {h₀ : Heap} {L : Addr} {m : PySem.Str → Option Value} {news : Led} {Q : Value → Shared → Prop} {x : List Nat} {t : Tok} (F : Fr h₀ L hp m) (N : News h₀ L hp news)
    (h : ∀ D h', Fr h₀ L h' m → News h₀ L h' ((D, listOf (sv [(x, t)]).toArray 0) :: news) → (∀ p ∈ news, p.1 < D) → Q (.ref D) ⟨h', gn, dr, tk, os⟩) : wpAny M A (newList [.str (S x) t]) Q E ⟨hp, gn, dr, tk, os⟩ :=
  newL [(x, t)] rfl (Nat.le_of_ble_eq_true rfl) F N h
theorem Join.run {h₀ h : Heap} {L D : Addr} {o : Obj} {m : PySem.Str → Option Value} {news all : Led} {gn : Array GenState} {dr : Drawn} {os : OsState} {k n : Nat} {vs : List Value} {rs : List Int} (F : Fr h₀ L h m) (N : News h₀ L h ((D, o) :: all)) (e : o = listOf vs.toArray n) (hI : IntsAre vs rs) (hl : rs.length ≤ 16) (hne : rs ≠ []) (sub : ∀ p ∈ news, p ∈ all) :
    Join h₀ L m news gn dr os (fun added v => ∃ D vs rs n, added = [(D, listOf vs.toArray n)] ∧ v = .ref D ∧ IntsAre vs rs ∧ rs.length ≤ 16 ∧ rs ≠ []) (.ref D) ⟨h, gn, dr, k, os⟩ :=
  ⟨h, k, [(D, listOf vs.toArray n)], rfl, F, fun p hp => by
    rcases List.mem_cons.mp hp with rfl | hp
    · rw [← e]; exact N _ (.head _)
    · exact N _ (.tail _ (sub p hp)), D, vs, rs, n, rfl, rfl, hI, hl, hne⟩
theorem cut_useL {prog : Program} {w : World} {K : Frag} {f : Addr} {dep : Nat} {vs : List Value} {pre : Led → Prop} {zs : List (List Nat)} (C : Cut prog w K f dep vs pre (OutL zs))
    {p : Program} {loose : List PySem.Str} {mean : ExcName → Option Value} {mg mb : PySem.Str → Option Value} {dp un : Nat} {gd : Option (List Code)} {cn : PySem.Str} {cs : Scope} {a : Addr} {ccd : Value} {cl : List (PySem.Str × Addr)} {outer : List Env} {A₀ : Around} {base h₀ : Heap} {L : Addr} {m : PySem.Str → Option Value}
    {news : Led} {hp : Heap} {gn : Array GenState} {dr : Drawn} {tk : Nat} {os : OsState} {Q E : Value → Shared → Prop}
    (hzw : weight zs ≤ 100)
    (B : Below A₀ base outer h₀) (F : Fr h₀ L hp m) (X : K.In h₀) (N : News h₀ L hp news) (T : Top p loose mean mg mb h₀) (hk : cs.kind = .function) (hpre : pre news) (hd : dp + dep < recursionLimit) (hu : un + 8 * dep < cLine)
    (ret : ∀ (D : Addr) (r : Txts) h' tk', r.map (·.1) = zs → r.length ≤ 100 → weight (r.map (·.1)) ≤ 100 → Fr h₀ L h' m → News h₀ L h' ((D, listOf (sv r).toArray 0) :: news) → (∀ p ∈ news, p.1 < D) → Q (.ref D) ⟨h', gn, dr, tk', os⟩) :
    wpAny (model prog w) (ktrTop dp un gd cn cs L a ccd cl outer) (call (.ref f) vs) Q E ⟨hp, gn, dr, tk, os⟩ := cut_use C B F X N T hk hpre hd hu fun v added h' tk' F' N' lt o => by
  obtain ⟨D, r, rfl, rfl, e⟩ := o
  exact ret D r h' tk' e (by have := weight_len (r.map (·.1)); rw [List.length_map, e] at this; exact Nat.le_trans this hzw) (by rw [e]; exact hzw) F' N' fun q hq => lt q hq _ (.head _)
theorem piece_good1 (c : Nat) (t : Tok) : AllGood (([(piece c, t)] : Txts).map (·.1)) := fun p hp => by
  rw [List.map_cons, List.map_nil, List.mem_singleton] at hp; subst hp; exact piece_good c
theorem piece_len (c : Nat) : (piece c).length ≤ 3 := by rcases (piece_good c).size with h | h <;> omega
theorem turn_any {M : Model} {A : Around} {t : Sem Flow} {h₀ : Heap} {L I : Addr} {s₁ s : Shared} {it : Obj} {J : (PySem.Str → Option Value) → Led → Prop} {Q : Flow → Shared → Prop} {E : Value → Shared → Prop}
    (h : ∀ (Q' : Flow → Shared → Prop) (E' : Value → Shared → Prop), wpAny M A t (LPost h₀ L s₁ I it J Q') E' s) : wpAny M A t (LPost h₀ L s₁ I it J Q) E s := h _ _
end Mine
end
section
open PySem PySem.W PyProof.Rows PySem.Calls PyProof.Rows.LCg
set_option linter.unusedVariables false
set_option maxRecDepth 100000
set_option maxHeartbeats 1000000
namespace Mine
section
variable {prog : Program} {w : World} {A : Around} {E : Value → Shared → Prop} {s : Shared} {h₀ : Heap} {L : Addr} {m : PySem.Str → Option Value} {env : Env}
/-- a comprehension over a text -/
def SrcS (prog : Program) (w : World) (A : Around) (h₀ : Heap) (L : Addr) (m : PySem.Str → Option Value) (env : Env) (elt : Expr) (x : PySem.Str) (scope : Scope) (cl : List (PySem.Str × Addr)) (Fin : Shared → List Value → List (Addr × Obj) → Prop) (xv : Value) (s₁ : Shared) : Prop :=
  ∃ (l : List Nat) (tx : Tok) (news : Led), xv = .str (S l) tx ∧ A.handled = none ∧ Fr h₀ L s₁.heap m ∧ News h₀ L s₁.heap news ∧ l.length ≤ 1000000 ∧
    ∀ s₂ : Shared, (∃ h, s₂ = { s₁ with heap := h }) → CompRest prog w A h₀ L m env elt x scope cl s₂ (fun _ => True) (fun i v => ∃ c t, l[i]? = some c ∧ v = .str (S [c]) t) (Fin s₂) l.length 0 [] news
theorem SrcS.intro {elt : Expr} {x : PySem.Str} {scope : Scope} {cl : List (PySem.Str × Addr)} {Fin : Shared → List Value → List (Addr × Obj) → Prop} {l : List Nat} {tx : Tok} {news : Led} {s₁ : Shared}
    (hh : A.handled = none) (F : Fr h₀ L s₁.heap m) (N : News h₀ L s₁.heap news) (hsz : l.length ≤ 1000000)
    (h : ∀ g, CompRest prog w A h₀ L m env elt x scope cl { s₁ with heap := g } (fun _ => True) (fun i v => ∃ c t, l[i]? = some c ∧ v = .str (S [c]) t) (Fin { s₁ with heap := g }) l.length 0 [] news) :
    SrcS prog w A h₀ L m env elt x scope cl Fin (.str (S l) tx) s₁ := ⟨l, tx, news, rfl, hh, F, N, hsz, fun _ ⟨g, e⟩ => e ▸ h g⟩
theorem ListComp_S {elt iter : Expr} {x : PySem.Str} {px : Pos} {scope : Scope} {cl : List (PySem.Str × Addr)} {pos : Pos} {Q : Value → Shared → Prop} (F₀ : Fr h₀ L s.heap m)
    (hclos : closureFor scope env = pure cl) (hcell : ∀ y ∈ scope.names, y.2 ≠ .cell) (hkind : scope.kind = .function)
    (hnames : ∀ y ∈ scope.names, y.2 = .local → scope.names.lookup y.1 = some .local) (hx : scope.names.lookup x = some .local)
    (h : wpAny (model prog w) A (eval iter env) (SrcS prog w A h₀ L m env elt x scope cl (fun s₂ => FinE h₀ L m s₂ Q)) E s)
    (hs : ∀ x, foldedSetIterable iter env x = pure x := by intro _; rfl) :
    wpAny (model prog w) A (eval (.ListComp elt [⟨.Name x px, iter, [], 0⟩] scope pos) env) Q E s := by
  rw [eval_ListComp]
  refine wpAny_comprehension_free (use := none) rfl hs hclos hkind hnames (wpAny_mono h (fun xv s₁ h₁ => ?_) fun _ _ e => e)
  obtain ⟨l, tx, news, rfl, hh, F, N, hsz, R⟩ := h₁
  have hsize : (S l).cps.size = l.length := by simp
  cases ha : (S l).cps.all (· < 128)
  · refine wpAny_pyIter_wide ha ?_
    have W' : Walks prog w A s₁.heap.objs.size [s₁.heap.objs.size] [s₁.heap.objs.size] l.length (fun i v => ∃ c t, l[i]? = some c ∧ v = .str (S [c]) t) (fun i h => h.IsStrIter s₁.heap.objs.size "str_iterator" (S l) tx i) := by
      have W := Walks.strWide (prog := prog) (w := w) hh s₁.heap.objs.size (S l) tx
      rw [hsize] at W
      exact { sub := W.sub, frame := W.frame, done := W.done, self := W.self,
              item := fun i s Q E hi st hQ => W.item i s Q E hi st fun v h' tk ⟨c, u, hc, hv⟩ => hQ v h' tk ⟨c, u, by simpa using hc, hv⟩ }
    refine block_U (S := fun _ => True) W' (Nat.le_trans hsz (by decide)) (fun i h st => let ⟨o, e, _⟩ := st; ⟨o, e⟩) (fun i h h' o' nw st e e' _ _ _ => by
        obtain ⟨q, hq, r⟩ := st
        rw [e] at hq; cases hq
        exact ⟨_, e', r⟩) hcell hkind hx ⟨_, Heap.get?_push_size _ rfl, rfl, rfl⟩ (fun b hb => by
        rw [List.mem_singleton.mp hb]
        show s₁.heap.objs.size < (s₁.heap.push _).objs.size
        rw [Heap.size_push]; exact Nat.lt_succ_self _)
      (F.keeps fun _ _ e => Heap.get?_push_of_some _ e) (N.grown fun _ _ e => Heap.get?_push_of_some _ e) (Nat.ne_of_lt F.ns.lt) (next_is_new F) (fun p hp => Nat.ne_of_lt (Heap.lt_size (N p hp).1)) trivial (R _ ⟨_, rfl⟩) ?_
    intro D C h tk m' ys news' F' N' o1 hn hC₀ hD₀ hCL hDL hCD offC fin
    refine ⟨m', hn, fun h'' hs'' => fin D h'' tk (F'.change hs'' hCL hC₀) (fun p hp => ?_) o1⟩
    refine ⟨hs''.extBut _ _ ?_ (N' p hp).1, (N' p hp).2⟩
    rcases List.mem_cons.mp hp with rfl | hp
    · exact Ne.symm hCD
    · exact offC p hp
  · refine wpAny_pyIter_ascii ha ?_
    have W' : Walks prog w A s₁.heap.objs.size [s₁.heap.objs.size] [s₁.heap.objs.size] l.length (fun i v => ∃ c t, l[i]? = some c ∧ v = .str (S [c]) t) (fun i h => h.IsStrIter s₁.heap.objs.size "str_ascii_iterator" (S l) tx i) := by
      have W := Walks.strAscii (prog := prog) (w := w) hh s₁.heap.objs.size (S l) tx
      rw [hsize] at W
      exact { sub := W.sub, frame := W.frame, done := W.done, self := W.self,
              item := fun i s Q E hi st hQ => W.item i s Q E hi st fun v h' tk ⟨c, u, hc, hv⟩ => hQ v h' tk ⟨c, u, by simpa using hc, hv⟩ }
    refine block_U (S := fun _ => True) W' (Nat.le_trans hsz (by decide)) (fun i h st => let ⟨o, e, _⟩ := st; ⟨o, e⟩) (fun i h h' o' nw st e e' _ _ _ => by
        obtain ⟨q, hq, r⟩ := st
        rw [e] at hq; cases hq
        exact ⟨_, e', r⟩) hcell hkind hx ⟨_, Heap.get?_push_size _ rfl, rfl, rfl⟩ (fun b hb => by
        rw [List.mem_singleton.mp hb]
        show s₁.heap.objs.size < (s₁.heap.push _).objs.size
        rw [Heap.size_push]; exact Nat.lt_succ_self _)
      (F.keeps fun _ _ e => Heap.get?_push_of_some _ e) (N.grown fun _ _ e => Heap.get?_push_of_some _ e) (Nat.ne_of_lt F.ns.lt) (next_is_new F) (fun p hp => Nat.ne_of_lt (Heap.lt_size (N p hp).1)) trivial (R _ ⟨_, rfl⟩) ?_
    intro D C h tk m' ys news' F' N' o1 hn hC₀ hD₀ hCL hDL hCD offC fin
    refine ⟨m', hn, fun h'' hs'' => fin D h'' tk (F'.change hs'' hCL hC₀) (fun p hp => ?_) o1⟩
    refine ⟨hs''.extBut _ _ ?_ (N' p hp).1, (N' p hp).2⟩
    rcases List.mem_cons.mp hp with rfl | hp
    · exact Ne.symm hCD
    · exact offC p hp
/-- a comprehension's turns: each item gives a value, nothing else is left behind -/
theorem compRest_fn {α β : Type} {n : Nat} {elt : Expr} {x : PySem.Str} {scope : Scope} {cl : List (PySem.Str × Addr)} {Sx : List (Addr × Obj) → Prop} {P : Nat → Value → Prop} {Fin : List Value → List (Addr × Obj) → Prop} {news : Led} (zs : List α) (g : α → β) (I1 : α → Value → Prop) (O1 : β → Value → Prop)
    (hn : zs.length = n) (hP : ∀ i v, i < n → P i v → ∃ z, zs[i]? = some z ∧ I1 z v)
    (turn : ∀ z v I oI C oC D m₂ ys h tk (E' : Value → Shared → Prop), z ∈ zs → I1 z v → NsObj oC m₂ → m₂ x = some v → Fr h₀ L h m → News h₀ L h ((I, oI) :: (C, oC) :: (D, lst ys) :: news) → Off3 I C D news → ((@Ne Nat I C) ∧ (@Ne Nat I D) ∧ (@Ne Nat C D)) →
      wpAny (model prog w) A (eval elt (compEnvC scope cl C env)) (CompEnd h₀ L m { s with heap := h, toks := tk } I oI C oC D (lst ys) Sx (fun y news' => news' = news ∧ O1 (g z) y)) E' { s with heap := h, toks := tk })
    (fin : ∀ ys : List Value, ys.length = zs.length → (∀ (i : Nat) b, (zs.map g)[i]? = some b → ∃ y, ys[i]? = some y ∧ O1 b y) → Fin ys news) : CompRest prog w A h₀ L m env elt x scope cl s Sx P Fin n 0 [] news := by
  have key : ∀ (j i : Nat) (ys : List Value), i + j = n → ys.length = i → (∀ (k : Nat) b, (zs.map g)[k]? = some b → k < i → ∃ y, ys[k]? = some y ∧ O1 b y) → CompRest prog w A h₀ L m env elt x scope cl s Sx P Fin j i ys news := by
    intro j
    induction j with
    | zero =>
      intro i ys hi hl hy
      refine CompRest.zero (fin ys (by omega) fun k b hb => hy k b hb ?_)
      have := (List.getElem?_eq_some_iff.mp hb).1
      rw [List.length_map] at this; omega
    | succ j ih =>
      intro i ys hi hl hy
      refine CompRest.succ ?_
      intro v I oI C oC D m₂ h tk E' hv hC hx F N off ne
      obtain ⟨z, hz, hI⟩ := hP i v (by omega) hv
      refine wpAny_mono (turn z v I oI C oC D m₂ ys h tk E' (List.mem_of_getElem? hz) hI hC hx F N off ne) (fun y s₂ hq => ?_) fun _ _ e => e
      obtain ⟨h', tk', nw, e, F', N', off', hS, hn', hO⟩ := hq
      rw [hn'] at N' off' hS
      refine ⟨h', tk', news, e, F', N', off', hS, ?_⟩
      refine ih (i + 1) _ (by omega) (by rw [List.length_append, List.length_singleton, hl]) fun k b hb hk => ?_
      by_cases h1 : k < i
      · obtain ⟨y', h2, h3⟩ := hy k b hb h1
        exact ⟨y', by rw [List.getElem?_append_left (by omega)]; exact h2, h3⟩
      · have : k = i := by omega
        subst this
        rw [List.getElem?_map, hz] at hb
        have hb : g z = b := Option.some.inj hb
        subst hb
        exact ⟨y, by rw [List.getElem?_append_right (by omega), hl, Nat.sub_self]; rfl, hO⟩
  exact key n 0 [] (by omega) rfl (fun _ _ _ h => absurd h (Nat.not_lt_zero _))
def IsS (z : List Nat) (v : Value) : Prop := ∃ t, v = .str (S z) t
def IsI (z : Int) (v : Value) : Prop := ∃ t, v = .int z t
theorem all_sv : ∀ {ys : List Value} {zs : List (List Nat)}, ys.length = zs.length → (∀ (i : Nat) b, zs[i]? = some b → ∃ y, ys[i]? = some y ∧ IsS b y) → ∃ r : Txts, ys = sv r ∧ r.map (·.1) = zs
  | [], [], _, _ => ⟨[], rfl, rfl⟩
  | [], _ :: _, h, _ => by simp at h
  | _ :: _, [], h, _ => by simp at h
  | y :: ys, z :: zs, h, hy => by
    obtain ⟨y', e, t, rfl⟩ := hy 0 z rfl
    have e : y = .str (S z) t := Option.some.inj e
    obtain ⟨r, h1, h2⟩ := all_sv (ys := ys) (zs := zs) (by simpa using h) fun i b hb => hy (i + 1) b hb
    exact ⟨(z, t) :: r, by rw [e, h1]; rfl, by rw [← h2]; rfl⟩
theorem all_ints : ∀ {ys : List Value} {zs : List Int}, ys.length = zs.length → (∀ (i : Nat) b, zs[i]? = some b → ∃ y, ys[i]? = some y ∧ IsI b y) → IntsAre ys zs
  | [], [], _, _ => .nil
  | [], _ :: _, h, _ => by simp at h
  | _ :: _, [], h, _ => by simp at h
  | y :: ys, z :: zs, h, hy => by
    obtain ⟨y', e, t, rfl⟩ := hy 0 z rfl
    have e : y = .int z t := Option.some.inj e
    rw [e]
    exact .cons _ _ (all_ints (by simpa using h) fun i b hb => hy (i + 1) b hb)
end
end Mine
end
section
open PySem PySem.W PyProof.Rows PySem.Calls
set_option linter.unusedVariables false
set_option maxRecDepth 100000
set_option maxHeartbeats 1000000
namespace Mine
open PySem.Builtin PySem.Builtin.Str
theorem occ_split {x y : List Nat} (hy : y ≠ []) : StrLaws.partsFrom (S x) (S y).length 0 (occurrences (S x) (S y) 0 (S x).length ((S x).length + 1)) = (splitL y x).map S := by
  obtain ⟨f, hG, hn⟩ := StrLaws.occ_tight (S x) (S y) (by rw [S_len]; exact List.length_pos_iff.mpr hy)
  have key := chain_split hy _ 0 f hG hn
  rw [List.drop_zero] at key
  exact key
theorem partsFrom_len (x : PySem.Str) (w : Nat) : ∀ (cuts : List Nat) (a : Nat), (StrLaws.partsFrom x w a cuts).length = cuts.length + 1
  | [], _ => rfl
  | c :: r, a => by
    show ((_ :: StrLaws.partsFrom x w (c + w) r)).length = _
    rw [List.length_cons, partsFrom_len x w r, List.length_cons]
theorem count_S {x y : List Nat} (hy : y ≠ []) : Txt.count (S x) (S y) = ((splitL y x).length : Int) - 1 := by
  have h := congrArg List.length (occ_split (x := x) hy)
  rw [partsFrom_len, List.length_map] at h
  show (((occurrences (S x) (S y) 0 (S x).length ((S x).length + 1)).length : Nat) : Int) = _
  omega
theorem replace_S {x y z : List Nat} (hy : y ≠ []) : Txt.replace (S x) (S y) (S z) = S (joinL z (splitL y x)) := by
  have key := occ_split (x := x) hy
  have h0 : ((S y).length == 0) = false := by
    rw [S_len, beq_eq_false_iff_ne]; exact fun e => hy (List.length_eq_zero_iff.mp e)
  unfold Txt.replace
  rw [h0, Bool.false_and, Bool.or_false]
  split
  · rename_i he
    have he : occurrences (S x) (S y) 0 (S x).length ((S x).length + 1) = [] := by simpa using he
    have one : StrLaws.partsFrom (S x) (S y).length 0 [] = [S x] := by show [strSub (S x) 0 (S x).length] = _; rw [StrLaws.sub_whole]
    rw [he, one] at key
    match h : splitL y x, key with
    | [p], key =>
      have : S x = S p := by simpa using key
      rw [this]; rfl
  · rw [StrLaws.partsBetween_eq, key, StrLaws.glued_eq_join, joinL_glued]
section
variable {prog : Program} {w : World} {M : Model} {A : Around} {E : Value → Shared → Prop} {hp : Heap} {gn : Array GenState} {dr : Drawn} {tk : Nat} {os : OsState} {t u v : Tok} {x y z a b l : List Nat} {env : Env} {Q : Value → Shared → Prop}
theorem count_rule (hy : y ≠ []) (h : ∀ t' k, Q (.int (((splitL y x).length : Int) - 1) t') ⟨hp, gn, dr, k, os⟩) : wpAny (model prog w) A (call (.builtin "str.count") [.str (S x) t, .str (S y) u]) Q E ⟨hp, gn, dr, tk, os⟩ :=
  SC.count (by rw [count_S hy]; exact h _ _)
theorem replace_rule (hu : u ≠ 0) (hv : v ≠ 0) (huv : u ≠ v) (hy : y ≠ []) (hyz : y ≠ z) (hx : x.length ≤ 1000000) (hz : z.length ≤ 14)
    (h : ∀ t' k, Q (.str (S (joinL z (splitL y x))) t') ⟨hp, gn, dr, k, os⟩) : wpAny (model prog w) A (call (.builtin "str.replace") [.str (S x) t, .str (S y) u, .str (S z) v]) Q E ⟨hp, gn, dr, tk, os⟩ :=
  SC.replaceW (s := ⟨hp, gn, dr, tk, os⟩) hu hv huv (by rw [beq_eq_false_iff_ne]; exact fun e => hyz (S_inj e)) (by rw [S_len]; omega) (by rw [S_len]; exact hz) fun t' k => by rw [replace_S hy]; exact h t' k
theorem lit_SX {x : PySem.Str} {k : Nat} {pos : Pos} (e : x = S l) (h : Q (.str (S l) tk) ⟨hp, gn, dr, tk + 1, os⟩) :
    wpAny M A (eval (.Constant (.str x) k pos) env) Q E ⟨hp, gn, dr, tk, os⟩ := by subst e; exact Constant_str h
theorem add_SX (ha : a ≠ []) (hb : b ≠ []) (hl : a.length + b.length ≤ 1000000) (h : Q (.str (S (a ++ b)) tk) ⟨hp, gn, dr, tk + 1, os⟩) : wpAny (model prog w) A (binaryOp .Add (.str (S a) t) (.str (S b) u)) Q E ⟨hp, gn, dr, tk, os⟩ := by
  have h1 : ((S a).length == 0) = false := by rw [S_len, beq_eq_false_iff_ne]; exact fun e => ha (List.length_eq_zero_iff.mp e)
  have h2 : ((S b).length == 0) = false := by rw [S_len, beq_eq_false_iff_ne]; exact fun e => hb (List.length_eq_zero_iff.mp e)
  refine PySem.P.add_str ?_
  rw [h1, h2]
  refine ⟨?_, ?_⟩
  · rw [S_app, S_len, List.length_append]; exact Nat.le_trans hl (by decide)
  · rw [S_app]; exact h
end
/-- a statement, and that a token has been made -/
theorem execs_toks {M : Model} {A : Around} {E : Value → Shared → Prop} {s : Shared} {env : Env} {s1 : Stmt} {rest : List Stmt} {Q : Flow → Shared → Prop} {n : Nat} (hn : n ≤ s.toks)
    (h : wpAny M A (exec s1 env) (fun f s' => n ≤ s'.toks → match f with | .next => wpAny M A (execs rest env) Q E s' | f => Q f s') E s) : wpAny M A (execs (s1 :: rest) env) Q E s :=
  wpAny_execs_cons (wpAny_with_toks hn (wpAny_mono h (fun _ _ z => z) fun _ _ z _ => z))
end Mine
end
section
open PySem PySem.W PyProof.Rows PySem.Calls
set_option linter.unusedVariables false
set_option maxRecDepth 100000
set_option maxHeartbeats 1000000
namespace Mine
theorem any_iff {K : Type} [DecidableEq K] (kvs : List (K × Value)) (k : K) : (kvs.any fun kv => decide (kv.1 = k)) = (valueAt kvs k).isSome := by
  unfold valueAt
  induction kvs with
  | nil => rfl
  | cons p r ih =>
    rw [List.any_cons, List.find?_cons]
    by_cases h : p.1 = k
    · simp [h]
    · simp only [h, decide_false, Bool.false_or]; exact ih
theorem valueAt_cons {K : Type} [DecidableEq K] (p : K × Value) (r : List (K × Value)) (j : K) : valueAt (p :: r) j = if p.1 = j then some p.2 else valueAt r j := by
  unfold valueAt
  rw [List.find?_cons]
  by_cases h : p.1 = j
  · simp [h]
  · simp [h]
theorem valueAt_map {K : Type} [DecidableEq K] (kvs : List (K × Value)) (k j : K) (v : Value) : valueAt (kvs.map fun kv => if kv.1 = k then (kv.1, v) else kv) j = if j = k then (if (valueAt kvs k).isSome then some v else none) else valueAt kvs j := by
  induction kvs with
  | nil => simp [valueAt]
  | cons p r ih =>
    rw [List.map_cons, valueAt_cons, valueAt_cons, valueAt_cons, ih]
    by_cases h1 : p.1 = k
    · by_cases h2 : j = k
      · subst h2; simp [h1]
      · have : ¬ p.1 = j := fun e => h2 (e ▸ h1)
        have h3 : ¬ k = j := fun e => h2 e.symm
        simp [h1, h2, h3]
    · by_cases h2 : j = k
      · subst h2; simp [h1]
      · simp [h1, h2]
theorem valueAt_append {K : Type} [DecidableEq K] (kvs : List (K × Value)) (k j : K) (v : Value) : valueAt (kvs ++ [(k, v)]) j = if (valueAt kvs j).isSome then valueAt kvs j else if k = j then some v else none := by
  induction kvs with
  | nil => simp [valueAt_cons, valueAt]
  | cons p r ih =>
    rw [List.cons_append, valueAt_cons, valueAt_cons, ih]
    by_cases h : p.1 = j
    · simp [h]
    · simp [h]
theorem valueAt_put {K : Type} [DecidableEq K] (kvs : List (K × Value)) (k j : K) (v : Value) : valueAt (stored kvs k v) j = if j = k then some v else valueAt kvs j := by
  unfold stored
  rw [any_iff]
  by_cases h : (valueAt kvs k).isSome = true
  · rw [if_pos h, valueAt_map, if_pos h]
  · rw [if_neg h, valueAt_append]
    by_cases h2 : j = k
    · subst h2; rw [if_neg h, if_pos rfl, if_pos rfl]
    · have h3 : ¬ k = j := fun e => h2 e.symm
      rw [if_neg h3, if_neg h2]
      split
      · rfl
      · rename_i h4
        cases hv : valueAt kvs j with
        | none => rfl
        | some x => rw [hv] at h4; simp at h4
theorem put_len {K : Type} [DecidableEq K] (kvs : List (K × Value)) (k : K) (v : Value) : (stored kvs k v).length = if (valueAt kvs k).isSome = true then kvs.length else kvs.length + 1 := by
  unfold stored
  rw [any_iff]
  split <;> simp
theorem valueAt_mem {K : Type} [DecidableEq K] {kvs : List (K × Value)} {k : K} (h : (valueAt kvs k).isSome = true) : k ∈ kvs.map (·.1) := by
  induction kvs with
  | nil => simp [valueAt] at h
  | cons p r ih =>
    rw [valueAt_cons] at h
    by_cases h1 : p.1 = k
    · rw [List.map_cons, h1]; exact .head _
    · rw [if_neg h1] at h; exact .tail _ (ih h)
/-- the two dicts behind the texts pre -/
structure DInv (wr : List Nat → List Nat) (pre : List (List Nat)) (W R : List (PySem.Str × Value)) : Prop where
  w : ∀ k v, valueAt W (S k) = some v → ∃ r ∈ pre, ∃ t, keyL r = k ∧ v = .str (S (wr r)) t
  w' : ∀ r ∈ pre, (valueAt W (S (keyL r))).isSome = true
  r : ∀ k v, valueAt R (S k) = some v → ∃ r ∈ pre, ∃ t, wr r = k ∧ v = .str (S (keyL r)) t
  r' : ∀ r ∈ pre, (valueAt R (S (wr r))).isSome = true
  len : W.length = R.length
theorem DInv.nil (wr : List Nat → List Nat) : DInv wr [] [] [] := ⟨fun k v h => absurd h (by simp [valueAt]), (fun _ h => nomatch h), fun k v h => absurd h (by simp [valueAt]), (fun _ h => nomatch h), rfl⟩
section
variable {wr : List Nat → List Nat} {pre : List (List Nat)} {W R : List (PySem.Str × Value)} {x : List Nat}
theorem DInv.getW (h : DInv wr pre W R) (hk : ∀ r ∈ pre, keyL r = keyL x ↔ wr r = wr x) (t : Tok) : ∃ t', (valueAt W (S (keyL x))).getD (.str (S (wr x)) t) = .str (S (wr x)) t' := by
  cases hv : valueAt W (S (keyL x)) with
  | none => exact ⟨t, rfl⟩
  | some v =>
    obtain ⟨r, hr, t', h1, rfl⟩ := h.w _ _ hv
    exact ⟨t', by rw [Option.getD_some, (hk r hr).mp h1]⟩
theorem DInv.getR (h : DInv wr pre W R) (hk : ∀ r ∈ pre, keyL r = keyL x ↔ wr r = wr x) (t : Tok) : ∃ t', (valueAt R (S (wr x))).getD (.str (S (keyL x)) t) = .str (S (keyL x)) t' := by
  cases hv : valueAt R (S (wr x)) with
  | none => exact ⟨t, rfl⟩
  | some v =>
    obtain ⟨r, hr, t', h1, rfl⟩ := h.r _ _ hv
    exact ⟨t', by rw [Option.getD_some, (hk r hr).mpr h1]⟩
theorem DInv.put (h : DInv wr pre W R) (hk : ∀ r ∈ pre, keyL r = keyL x ↔ wr r = wr x) (t u : Tok) : DInv wr (pre ++ [x]) (stored W (S (keyL x)) (.str (S (wr x)) t)) (stored R (S (wr x)) (.str (S (keyL x)) u)) := by
  have hp : ∀ r, r ∈ pre ++ [x] ↔ r ∈ pre ∨ r = x := fun r => by simp
  refine ⟨?_, ?_, ?_, ?_, ?_⟩
  · intro k v hv
    rw [valueAt_put] at hv
    split at hv
    · rename_i e
      exact ⟨x, by simp, t, (S_inj e).symm, (Option.some.inj hv).symm⟩
    · obtain ⟨r, hr, h2⟩ := h.w k v hv
      exact ⟨r, (hp r).mpr (.inl hr), h2⟩
  · intro r hr
    rw [valueAt_put]
    split
    · rfl
    · rename_i hne
      rcases (hp r).mp hr with hr | rfl
      · exact h.w' r hr
      · exact absurd rfl hne
  · intro k v hv
    rw [valueAt_put] at hv
    split at hv
    · rename_i e
      exact ⟨x, by simp, u, (S_inj e).symm, (Option.some.inj hv).symm⟩
    · obtain ⟨r, hr, h2⟩ := h.r k v hv
      exact ⟨r, (hp r).mpr (.inl hr), h2⟩
  · intro r hr
    rw [valueAt_put]
    split
    · rfl
    · rename_i hne
      rcases (hp r).mp hr with hr | rfl
      · exact h.r' r hr
      · exact absurd rfl hne
  · rw [put_len, put_len, h.len]
    have : (valueAt W (S (keyL x))).isSome = (valueAt R (S (wr x))).isSome := by
      rw [Bool.eq_iff_iff]
      constructor
      · intro h1
        obtain ⟨v, hv⟩ := Option.isSome_iff_exists.mp h1
        obtain ⟨r, hr, t', h2, _⟩ := h.w _ _ hv
        rw [← (hk r hr).mp h2]; exact h.r' r hr
      · intro h1
        obtain ⟨v, hv⟩ := Option.isSome_iff_exists.mp h1
        obtain ⟨r, hr, t', h2, _⟩ := h.r _ _ hv
        rw [← (hk r hr).mpr h2]; exact h.w' r hr
    rw [this]
theorem four_le {K : Type} [DecidableEq K] {l : List K} {a b c d : K} (ha : a ∈ l) (hb : b ∈ l) (hc : c ∈ l) (hd : d ∈ l) (h1 : a ≠ b) (h2 : a ≠ c) (h3 : a ≠ d) (h4 : b ≠ c) (h5 : b ≠ d) (h6 : c ≠ d) : 4 ≤ l.length := by
  have e := List.length_erase_of_mem ha
  have hb' : b ∈ l.erase a := (List.mem_erase_of_ne h1.symm).mpr hb
  have hc' : c ∈ l.erase a := (List.mem_erase_of_ne h2.symm).mpr hc
  have hd' : d ∈ l.erase a := (List.mem_erase_of_ne h3.symm).mpr hd
  have e2 := List.length_erase_of_mem hb'
  have hc2 : c ∈ (l.erase a).erase b := (List.mem_erase_of_ne h4.symm).mpr hc'
  have hd2 : d ∈ (l.erase a).erase b := (List.mem_erase_of_ne h5.symm).mpr hd'
  have e3 := List.length_erase_of_mem hc2
  have hd3 : d ∈ ((l.erase a).erase b).erase c := (List.mem_erase_of_ne h6.symm).mpr hd2
  have p1 := List.length_pos_of_mem ha
  have p2 := List.length_pos_of_mem hb'
  have p3 := List.length_pos_of_mem hc2
  have p4 := List.length_pos_of_mem hd3
  omega
theorem DInv.four (h : DInv wr pre W R) {a : Nat} (ha : a = 13 ∨ a = 10) (m : [] ∈ pre ∧ [a] ∈ pre ∧ [a, a] ∈ pre ∧ [a, a, a] ∈ pre) : 4 ≤ W.length := by
  have k := keys4 ha
  have g0 := valueAt_mem (h.w' _ m.1)
  have g1 := valueAt_mem (h.w' _ m.2.1)
  have g2 := valueAt_mem (h.w' _ m.2.2.1)
  have g3 := valueAt_mem (h.w' _ m.2.2.2)
  rw [k.1.1] at g0
  rw [k.1.2] at g1
  rw [k.2.1] at g2
  rw [k.2.2] at g3
  have ne : ∀ {a b : List Nat}, a ≠ b → S a ≠ S b := fun h e => h (S_inj e)
  have := four_le g0 g1 g2 g3 (ne (by decide)) (ne (by decide)) (ne (by decide)) (ne (by decide)) (ne (by decide)) (ne (by decide))
  rwa [List.length_map] at this
end
end Mine
end
section
open PySem PySem.W PyProof.Rows
set_option Elab.async false
set_option maxRecDepth 100000
set_option maxHeartbeats 8000000
namespace Mine
open_top hd2 for PySem.Challenge.rw_dm5003_02
end Mine
end
theorem Mine.off_top : True := by
  w_top off
  trivial
section
open PySem PySem.W PyProof.Rows PySem.Calls
set_option Elab.async false
set_option linter.unusedVariables false
set_option linter.unusedSimpArgs false
set_option maxRecDepth 100000
set_option maxHeartbeats 8000000
namespace Mine
local macro_rules | `(tactic| walk_at "getMethod str") => `(tactic| ((with_reducible refine getm_translate ?_)))
local macro_rules | `(tactic| walk_at "eval Constant int") => `(tactic| (refine const_int_t ?_; intro t' k'))
local macro_rules | `(tactic| walk_at "binaryOp Add int int") => `(tactic| (refine add_int_t ?_; intro t' k'))
local macro_rules | `(tactic| walk_at "binaryOp Sub int int") => `(tactic| (refine sub_int_t ?_; intro t' k'))
local macro_rules | `(tactic| walk_at "len") => `(tactic| first | omega | (simp only [List.length_append, List.length_cons, List.length_nil, List.length_take, List.length_drop, quoteL]; omega) | (refine Nat.le_trans (Nat.add_le_add (cutL_le _ _ _) (Nat.le_refl _)) ?_; (simp only [List.length_append, List.length_cons, List.length_nil, quoteL]); omega))
local macro_rules | `(tactic| walk_at "lit") => `(tactic| with_reducible (first | exact lit_eq | exact lit_empty | exact lit_ws | exact lit_crlf | exact lit_tab | exact lit_sp | exact lit_lf | exact lit_cr | exact lit_k | exact lit_q20 | exact lit_q09 | exact lit_hex | rfl))
local macro_rules | `(tactic| walk_at "truthy str") => `(tactic| (refine' truthy_S ?a ?_; (case a => walk_at "len"); intro k'))
local macro_rules | `(tactic| walk_at "eval Constant str") => `(tactic| (refine' lit_S ?a ?_; (case a => walk_at "lit")))
local macro_rules | `(tactic| walk_at "binaryOp Add str str") => `(tactic| (refine' add_S ?a ?_; (case a => walk_at "len"); intro t' k'))
local macro_rules | `(tactic| walk_at "call builtin:len") => `(tactic| ((with_reducible show wpAny _ _ (call (Value.builtin _) [Value.str _ _]) _ _ _); refine' len_S ?a ?_; (case a => walk_at "len"); intro t' k'))
local macro_rules | `(tactic| walk_at "compareOp In str str") => `(tactic| (refine' in_E ?a ?_; (case a => walk_at "lit")))
local macro_rules | `(tactic| walk_at "compareOp Eq str str") => `(tactic| (refine eq_S ?_))
local macro_rules | `(tactic| walk_at "call builtin:str.translate") => `(tactic| (refine' call_translate (by assumption) ?l ?x ?n ?z ?_; (case l => exact ⟨_, Frag.In.keeps (by k_asm) (Fr.keep (by k_asm)) _ _ (by assumption), rfl, _, rfl⟩); (case x => (rw [S_cps]; assumption)); (case n => (rw [S_len]; simpa using (by assumption))); (case z => rw [S_len]; omega); rw [S_cps]; intro t' k'))
local macro_rules | `(tactic| walk_at "item") => `(tactic| first
  | ((with_reducible show wpAny _ _ (subscriptTail _ _ (Value.str (S _) _) (Value.int _ _)) _ _ _); first
    | (refine' last_S ?ne ?c ?_; (case ne => first | assumption | exact ne_of_isEmpty (by assumption)); (case c => walk_at "len"); intro t' k')
    | (refine' item_S ?a ?b ?c ?_; (case a => omega); (case b => omega); (case c => walk_at "len"); intro t' k'))
  | ((with_reducible show wpAny _ _ (subscriptTail _ _ (Value.str (PySem.Str.ofString _) _) (Value.int _ _)) _ _ _); (refine' item_E ?e ?a ?b ?c ?_; (case e => walk_at "lit"); (case a => walk_at "idx"); (case b => walk_at "idx"); (case c => decide); intro t' k')))
local macro_rules | `(tactic| walk_at "idx") => `(tactic| ((try simp only [List.length_cons, List.length_nil]); (try simp (disch := omega) only [Int.fdiv_eq_ediv_of_nonneg, Int.fmod_eq_emod_of_nonneg]); omega))
local macro_rules | `(tactic| walk_at "subscriptTail Name UnaryOp str int") => `(tactic| walk_at "item")
local macro_rules | `(tactic| walk_at "subscriptTail Name Name str int") => `(tactic| walk_at "item")
local macro_rules | `(tactic| walk_at "subscriptTail Name Constant str int") => `(tactic| walk_at "item")
local macro_rules | `(tactic| walk_at "subscriptTail Name BinOp str int") => `(tactic| walk_at "item")
local macro_rules | `(tactic| walk_at "subscriptTail Name Slice str ref") => `(tactic| first
  | ((with_reducible show wpAny _ _ (subscriptTail _ (Expr.Slice none (some _) none _) _ _) _ _ _); (refine' slice_ns ?F ?N ?c ?_; (case F => k_asm); (case N => k_asm); (case c => walk_at "len"); intro h' t' k' F' N'; (try k_sweep)))
  | ((with_reducible show wpAny _ _ (subscriptTail _ (Expr.Slice (some _) none none _) _ _) _ _ _); (refine' slice_sn ?F ?N ?c ?_; (case F => k_asm); (case N => k_asm); (case c => walk_at "len"); intro h' t' k' F' N'; (try k_sweep)))
  | ((with_reducible show wpAny _ _ (subscriptTail _ (Expr.Slice (some _) (some _) none _) _ _) _ _ _); (refine' slice_ss ?F ?N ?c ?_; (case F => k_asm); (case N => k_asm); (case c => walk_at "len"); intro h' t' k' F' N'; (try k_sweep))))
local macro_rules | `(tactic| walk_at "call ref") => `(tactic| ((with_reducible show wpAny _ _ (call (Value.ref _) [_]) _ _ _); k_dflt (refine' callA ?F ?N ?m ?U ?_ ?z; (case F => k_asm); (case N => k_asm); (case m => k_mem); (case U => k_upd); (case z => walk_at "room")); intro h' F' N'; (try k_sweep)))
local macro_rules | `(tactic| walk_at "halt") => `(tactic| ((fail_if_success (with_reducible show wpAny _ _ (pyIter _) _ _ _)); (fail_if_success (with_reducible show wpAny _ _ (exec (Stmt.While _ _ _ _) _) _ _ _)); (fail_if_success (with_reducible show wpAny _ _ (newList _) _ _ _)); (fail_if_success (with_reducible show wpAny _ _ (getAttr (Value.ref _) (PySem.Str.ofString "append") _) _ _ _)); (fail_if_success (with_reducible show wpAny _ _ (call (Value.builtin "str.splitlines") _) _ _ _)); (fail_if_success (with_reducible show wpAny _ _ (call (Value.builtin "str.join") _) _ _ _))))
local macro_rules | `(tactic| walk_at "go") => `(tactic| repeat' (first | (k_unfold; (try dsimp only)) | (walk_at "halt"; (first | walk1 | (dsimp only; walk1) | (leave1; walk_say "STEP leave1"; try dsimp only)))))
local macro_rules | `(tactic| k_all) => `(tactic| exact led_ne (by assumption))
local macro_rules | `(tactic| walk_at "callWith ref") => `(tactic| ((with_reducible show wpAny _ _ (callWith _ (Value.ref _) _ (backTo _ (starEach (_ :: _) _)) []) _ _ _); k_dflt (refine' callWith_A ?N ?m ?_; (case N => k_asm); (case m => k_mem))))
local macro_rules | `(tactic| walk_at "And") => `(tactic| ((with_reducible show StandsA _ _ _ ∧ _); refine ⟨standsA_of (by k_asm) (by k_mem), ?_⟩; (try dsimp only [List.nil_append, List.cons_append])))
local macro_rules | `(tactic| walk_at "names") => `(tactic| (intro z hz; (simp only [List.contains_cons, List.contains_nil, Bool.or_false, Bool.or_eq_false_iff, beq_eq_false_iff_ne, ne_eq] at hz); (simp only [List.contains_cons, List.contains_nil, Bool.or_false, Bool.or_eq_true, beq_iff_eq, hz, or_self, if_false]); (try rfl)))
local macro_rules | `(tactic| walk_at "StandsA") => `(tactic| exact standsA_of (by k_asm) (by k_mem))
local macro_rules | `(tactic| walk_at "room") => `(tactic| (rw [List.size_toArray, sv_len]; exact Nat.le_trans (by assumption) (by decide : 100000 ≤ sizeLine)))
abbrev pr2 : Program := Challenge.rw_dm5003_02.row.prog
abbrev Cut2 (w : World) := Cut pr2 w (hd2.heap_39 w.params)
theorem fill2x : Challenge.rw_dm5003_02 = Challenge.rw_dm5003_02 ∧ hd2.heap_39 = hd2.heap_39 := by
  k_fill
  exact ⟨rfl, rfl⟩
theorem table2 (w : World) : ∃ its n, (hd2.heap_39 w.params).lookup 39 = some ⟨.type "list", none, .seq its n, #[]⟩ ∧ TableIs its ∧ its.size = 256 := by
  exact ⟨_, _, by k_is, TableIs.of_ok (by decide +kernel), by decide +kernel⟩
theorem quote2 (w : World) (c : Nat) (hc : c = 32 ∨ c = 9) (t : Tok) : Cut2 w 37 1 [.str (S [c]) t] (fun _ => True) (OutS (S (quoteL c))) := by
  intro p loose mean mg mb dp un gd cn cs a ccd cl outer A₀ base h₀ L m news s Q E B F X N T hk hp hd hu hret
  refine wpAny_call ?_
  k_dflt cell_enter
  k_steps
  refine retS hret ?_ (by k_asm) (by k_asm)
  rcases hc with rfl | rfl <;> decide +kernel
local macro_rules | `(tactic| walk_at "call ref") => `(tactic| ((with_reducible show wpAny _ _ (call (Value.ref 37) _) _ _ _); k_dflt (refine' cut_useS (quote2 _ _ ?hc _) ?B ?F ?X ?N ?T ?hk trivial ?hd ?hu ?_; (case B => k_asm); (case F => k_asm); (case X => k_asm); (case N => k_asm); (case T => k_asm); (case hk => exact rfl); (case hd => ktr_room); (case hu => ktr_units); (case hc => walk_at "quoted")); intro t' h' k' F' N'; (try k_sweep)))
local macro_rules | `(tactic| walk_at "quoted") => `(tactic| (rename _ ∈ [32, 9] => hq9; simpa using hq9))
local macro_rules | `(tactic| walk_at "call builtin:str.translate") => `(tactic| (k_dflt (refine' call_translate2 rfl ?F9 ?N9 (by assumption) (by assumption) ?l9 ?x9 ?n9 ?z9 ?_; (case F9 => k_asm); (case N9 => k_asm); (case l9 => exact ⟨_, Frag.In.keeps (by k_asm) (Fr.keep (by k_asm)) _ _ (by assumption), rfl, _, rfl⟩); (case x9 => assumption); (case n9 => assumption); (case z9 => omega)); intro h' t' k' F' N'; (try k_sweep)))
theorem body2 (w : World) (x e : List Nat) (L : Nat) (t te tL : Tok) (hx : ∀ c ∈ x, c < 2 ^ 62) (hne : x ≠ []) (hlen : x.length ≤ 1000) (hL : 4 ≤ L) (hL2 : L ≤ 1000) (he : e.length ≤ 2) :
    Cut2 w 50 2 [.str (S x) t, .int (L : Int) tL, .str (S e) te] (fun _ => True) (OutS (S (benc L e x))) := by
  intro p loose mean mg mb dp un gd cn cs a ccd cl outer A₀ base h₀ La m news s Q E B F X N T hk hp hd hu hret
  refine wpAny_call ?_
  refine' code_def ?k1 ?k2 ?k3 ?k4 ?k5 ?kA ?kF ?kK ?k6 ?k7 ?k8 ?k9 ?kB ?_ ?c2 ?c3 ?c4 ?c5; (case kA => exact rfl); (case kF => exact rfl); (case kK => assumption); (case k1 => k_asm); (case k2 => k_asm); (case k3 => k_asm); (case k4 => k_asm); (case k5 => k_asm); (case k6 => k_is); (case k7 => k_is); (case k8 => ktr_room); (case k9 => first | exact BindsTo.of_eq rfl | exact binds_K (by k_in) rfl (by k_is) rfl rfl rfl); (case c5 => decide); (case kB => exact locs rfl); (case c2 => exact rfl); (case c3 => exact rfl); (case c4 => exact rfl); k_whole; intro g' L' h' FG' F' N' B' X' T'; (try dsimp only); (try k_lift B'); (try k_fold)
  obtain ⟨its, nn, hK, hT, hTn⟩ := table2 w
  have hxe : (enc x).length ≤ 3000 := enc_len hlen
  have hxn : enc x ≠ [] := enc_ne hne
  walk_at "go"
  refine newList_K (by k_asm) (by k_asm) ?_
  intro en h1 F1 N1 hen
  walk_at "go"
  refine getAttr_append_N (by k_asm) (by k_asm) (by k_mem) ?_
  intro q h2 F2 N2 hq
  walk_at "go"
  refine splitlines_S (by k_asm) (by k_asm) (by omega) ?_
  intro l D h3 k3 hl F3 N3 hD
  k_lt hq
  k_lt hD
  have hws : wsum (l.map (·.1)) ≤ 3001 := by rw [hl]; have := wsum_lines (enc x); omega
  refine for_st (fun _ => []) (["line", "start", "laststart", "stop", "q", "room"] : List PySem.Str) (bodyP L e l D q en news) ([], 0) rfl F3 N3 (.head _) (fun _ h => nomatch h) ⟨[], l, rfl, rfl, rfl, rfl, rfl⟩ ?_ ?_
  · intro I hI pre v rest c u news₁ it h4 tk4 e0 hP F4 N4
    obtain ⟨out, n⟩ := c
    obtain ⟨p, r, rfl, hr, hlr, rfl, hout⟩ := hP
    obtain ⟨line, tl, r', rfl, rfl, rfl⟩ := sv_cons hr
    k_lt hI
    dsimp only [lk] at F4
    have hll : line.length ≤ 3000 := by
      have := wsum_mem (ls := l.map (·.1)) (y := line) (by rw [hlr]; simp)
      omega
    dsimp only at hout N4
    have hsz4 : out.length ≤ 30000 := by
      have e1 := weight_flat hL he (p.map (·.1))
      have e2 := weight_len ((p.map (·.1)).flatMap (lineItems L e))
      rw [← hout, List.length_map] at e2
      rw [← hout] at e1
      have e3 : wsum (p.map (·.1)) ≤ wsum (l.map (·.1)) := by rw [hlr, List.map_append, wsum_append]; omega
      omega
    walk_at "go"
    refine while_st (fun c : Nat × Tok × Txts × Nat => [("start", .int (c.1 : Int) c.2.1)]) (["start", "stop"] : List PySem.Str) (whileP L line out l I it D q en news) (fun c => line.length - c.1) (0, _, out, n) (by k_asm) (by k_asm) (loc1 rfl)
      ⟨[], line.length, rfl, (List.append_nil _).symm, Nat.zero_le _, fun h => List.length_pos_iff.mpr h, by simp, rfl⟩ ?_
    intro c u news₁ h5 tk5 hP5 F5 N5
    obtain ⟨k, tk, out5, n5⟩ := c
    obtain ⟨chunks, f, rfl, ho5, hk5, hk5', hf5, hw5⟩ := hP5
    dsimp only at ho5 hk5 hk5' hf5 hw5 N5
    dsimp only [lk] at F5
    have hsz5 : out5.length ≤ 100000 := by
      have e1 := chunks_len hL hw5
      have e2 := congrArg List.length ho5
      rw [List.length_append, List.length_map, List.length_map] at e2
      omega
    walk_at "go"
    · have g1 : (k : Int) ≤ (line.length : Int) - 1 - (L : Int) := by assumption
      have g2 : [line.getD ((k : Int) + ((L : Int) - 1) - 2).toNat 0] = [61] := by assumption
      rw [show ((k : Int) + ((L : Int) - 1) - 2).toNat = k + (L - 3) from by omega] at g2
      obtain ⟨f', hf', hw'⟩ := wrap_turn1 hL (by rw [List.length_drop]; omega) hf5 hw5 (List.cons.inj g2).1
      rename News _ _ _ _ => N6
      rw [cutL_ii (a := k) (b := k + (L - 2)) rfl (by omega) (by omega) (by omega), Nat.add_sub_cancel_left, sv_push] at N6
      exact WEnd.intro (by k_asm) N6 (k + (L - 3), _, out5 ++ [((line.drop k).take (L - 2), _)], n5 + 1) _ (fun p hp => hp) (by dsimp only; omega) ⟨chunks ++ [(line.drop k).take (L - 2)], f', rfl, by simp [ho5], by dsimp only; omega, fun _ => by dsimp only; omega, hf', hw'⟩ (loc1i rfl (by omega)) (by walk_at "names")
    · have g1 : (k : Int) ≤ (line.length : Int) - 1 - (L : Int) := by assumption
      have g2 : ¬ [line.getD ((k : Int) + ((L : Int) - 1) - 2).toNat 0] = [61] := by assumption
      have g3 : [line.getD ((k : Int) + ((L : Int) - 1) - 1).toNat 0] = [61] := by assumption
      rw [show ((k : Int) + ((L : Int) - 1) - 2).toNat = k + (L - 3) from by omega] at g2
      rw [show ((k : Int) + ((L : Int) - 1) - 1).toNat = k + (L - 2) from by omega] at g3
      obtain ⟨f', hf', hw'⟩ := wrap_turn2 hL (by rw [List.length_drop]; omega) hf5 hw5 (fun e => g2 (by rw [e])) (List.cons.inj g3).1
      rename News _ _ _ _ => N6
      rw [cutL_ii (a := k) (b := k + (L - 1)) rfl (by omega) (by omega) (by omega), Nat.add_sub_cancel_left, sv_push] at N6
      exact WEnd.intro (by k_asm) N6 (k + (L - 2), _, out5 ++ [((line.drop k).take (L - 1), _)], n5 + 1) _ (fun p hp => hp) (by dsimp only; omega) ⟨chunks ++ [(line.drop k).take (L - 1)], f', rfl, by simp [ho5], by dsimp only; omega, fun _ => by dsimp only; omega, hf', hw'⟩ (loc1i rfl (by omega)) (by walk_at "names")
    · have g1 : (k : Int) ≤ (line.length : Int) - 1 - (L : Int) := by assumption
      have g2 : ¬ [line.getD ((k : Int) + ((L : Int) - 1) - 2).toNat 0] = [61] := by assumption
      have g3 : ¬ [line.getD ((k : Int) + ((L : Int) - 1) - 1).toNat 0] = [61] := by assumption
      rw [show ((k : Int) + ((L : Int) - 1) - 2).toNat = k + (L - 3) from by omega] at g2
      rw [show ((k : Int) + ((L : Int) - 1) - 1).toNat = k + (L - 2) from by omega] at g3
      obtain ⟨f', hf', hw'⟩ := wrap_turn3 hL (by rw [List.length_drop]; omega) hf5 hw5 (fun e => g2 (by rw [e])) (fun e => g3 (by rw [e]))
      rename News _ _ _ _ => N6
      rw [cutL_ii (a := k) (b := k + (L - 1)) rfl (by omega) (by omega) (by omega), Nat.add_sub_cancel_left, sv_push] at N6
      exact WEnd.intro (by k_asm) N6 (k + (L - 1), _, out5 ++ [((line.drop k).take (L - 1) ++ [61], _)], n5 + 1) _ (fun p hp => hp) (by dsimp only; omega) ⟨chunks ++ [(line.drop k).take (L - 1) ++ [61]], f', rfl, by simp [ho5], by dsimp only; omega, fun _ => by dsimp only; omega, hf', hw'⟩ (loc1i rfl (by omega)) (by walk_at "names")
    · -- an empty line
      have g0 : line = [] := by simpa using (by assumption : line.isEmpty = true)
      have hx := wrap_exit (by rw [List.length_drop]; omega) hw5
      rename News _ _ _ _ => N6
      rw [cutL_from (a := k) rfl (by omega), sv_push] at N6
      refine LPost.next (by k_asm) N6 _ (.head _) (fun p hp => .tail _ hp) (off_of hI) ⟨.head _, ⟨(_, _), bodyP_next hlr hout ho5 ((fin_items hx).trans ?_), (fun _ h => nomatch h), ?_⟩⟩
      · subst g0; simp [tailItem, lastWs]
      · walk_at "names"
    · have g0 : k < line.length := hk5' (ne_of_isEmpty (by assumption))
      have g1 : line.getLast?.getD 0 ∈ [32, 9] := by assumption
      have g2 : 3 ≤ (k : Int) - ((line.length : Int) - 1 - (L : Int)) := by assumption
      have hx := wrap_exit (by rw [List.length_drop]; omega) hw5
      rename News _ _ _ _ => N6
      rw [cutL_last (a := k) rfl g0, sv_push] at N6
      refine LPost.next (by k_asm) N6 _ (.head _) (fun p hp => .tail _ hp) (off_of hI) ⟨.head _, ⟨(_, _), bodyP_next hlr hout ho5 ((fin_items hx).trans ?_), (fun _ h => nomatch h), ?_⟩⟩
      · rw [tail_ws g0 g1, if_pos (by rw [List.length_drop]; omega)]
      · walk_at "names"
    · have g0 : k < line.length := hk5' (ne_of_isEmpty (by assumption))
      have g1 : line.getLast?.getD 0 ∈ [32, 9] := by assumption
      have g2 : (k : Int) - ((line.length : Int) - 1 - (L : Int)) = 2 := by assumption
      have hx := wrap_exit (by rw [List.length_drop]; omega) hw5
      rename News _ _ _ _ => N6
      rw [cutL_last (a := k) rfl g0, sv_push] at N6
      refine LPost.next (by k_asm) N6 _ (.head _) (fun p hp => .tail _ hp) (off_of hI) ⟨.head _, ⟨(_, _), bodyP_next hlr hout ho5 ((fin_items hx).trans ?_), (fun _ h => nomatch h), ?_⟩⟩
      · rw [tail_ws g0 g1, if_neg (by rw [List.length_drop]; omega), if_pos (by rw [List.length_drop]; omega)]; rfl
      · walk_at "names"
    · have g0 : k < line.length := hk5' (ne_of_isEmpty (by assumption))
      have g1 : line.getLast?.getD 0 ∈ [32, 9] := by assumption
      have g2 : ¬ 3 ≤ (k : Int) - ((line.length : Int) - 1 - (L : Int)) := by assumption
      have g3 : (k : Int) - ((line.length : Int) - 1 - (L : Int)) ≠ 2 := by assumption
      have hx := wrap_exit (by rw [List.length_drop]; omega) hw5
      rename News _ _ _ _ => N6
      rw [cutL_last (a := k) rfl g0, sv_push] at N6
      refine LPost.next (by k_asm) N6 _ (.head _) (fun p hp => .tail _ hp) (off_of hI) ⟨.head _, ⟨(_, _), bodyP_next hlr hout ho5 ((fin_items hx).trans ?_), (fun _ h => nomatch h), ?_⟩⟩
      · rw [tail_ws g0 g1, if_neg (by rw [List.length_drop]; omega), if_neg (by rw [List.length_drop]; omega)]; rfl
      · walk_at "names"
    · have g0 : k < line.length := hk5' (ne_of_isEmpty (by assumption))
      have g1 : ¬ line.getLast?.getD 0 ∈ [32, 9] := by assumption
      have hx := wrap_exit (by rw [List.length_drop]; omega) hw5
      rename News _ _ _ _ => N6
      rw [cutL_from (a := k) rfl (by omega), sv_push] at N6
      refine LPost.next (by k_asm) N6 _ (.head _) (fun p hp => .tail _ hp) (off_of hI) ⟨.head _, ⟨(_, _), bodyP_next hlr hout ho5 ((fin_items hx).trans ?_), (fun _ h => nomatch h), ?_⟩⟩
      · rw [tail_no g0 g1]
      · walk_at "names"
  · intro c u news₁ h4 tk4 hP F4 N4
    obtain ⟨out, n⟩ := c
    obtain ⟨p, r, hp', hr', hlr, rfl, hout⟩ := hP
    dsimp only [lk] at F4
    dsimp only at hout N4
    have hpl : p.map (·.1) = linesL brkU (enc x) := by
      cases r with
      | nil => rw [List.append_nil] at hlr; rw [← hlr, hl]
      | cons y r' => simp [sv] at hr'
    have hw1 : weight (out.map (·.1)) ≤ 25000 := by
      have e1 := weight_flat hL he (p.map (·.1))
      rw [← hout] at e1
      have e3 : wsum (p.map (·.1)) ≤ 3001 := by rw [hpl, ← hl]; exact hws
      omega
    have hsz5 : out.length ≤ 100000 := by
      have := weight_len (out.map (·.1))
      rw [List.length_map] at this
      omega
    walk_at "go"
    · have g1 : (enc x).getLast?.getD 0 ∈ [13, 10] := by assumption
      rename News _ _ _ _ => N6
      rw [sv_push] at N6
      refine join_S (ys := out.map (·.1) ++ [[]]) N6 (.tail _ (.tail _ (.head _))) (by simp) (by omega) (by rw [weight_append, show weight [[]] = 1 from rfl]; omega) ?_
      intro t9 k9
      walk_at "go"
      refine retS_sub hret ?_ (by k_asm) (by k_asm) (fun p hp => .tail _ (.tail _ (.tail _ hp)))
      rw [benc_U, hout, hpl, if_pos ((last_enc hne).mp g1)]
    · have g1 : ¬ (enc x).getLast?.getD 0 ∈ [13, 10] := by assumption
      refine join_S (ys := out.map (·.1)) (by k_asm) (.tail _ (.tail _ (.head _))) rfl (by omega) (by omega) ?_
      intro t9 k9
      walk_at "go"
      refine retS_sub hret ?_ (by k_asm) (by k_asm) (fun p hp => .tail _ (.tail _ (.tail _ hp)))
      rw [benc_U, hout, hpl, if_neg (fun h => g1 ((last_enc hne).mpr h)), List.append_nil]
theorem body2e (w : World) (e : List Nat) (L : Nat) (t te tL : Tok) (hL : 4 ≤ L) (hL2 : L ≤ 1000) : Cut2 w 50 2 [.str (S []) t, .int (L : Int) tL, .str (S e) te] (fun _ => True) (OutS (S [])) := by
  intro p loose mean mg mb dp un gd cn cs a ccd cl outer A₀ base h₀ La m news s Q E B F X N T hk hp hd hu hret
  refine wpAny_call ?_
  refine' code_def ?k1 ?k2 ?k3 ?k4 ?k5 ?kA ?kF ?kK ?k6 ?k7 ?k8 ?k9 ?kB ?_ ?c2 ?c3 ?c4 ?c5; (case kA => exact rfl); (case kF => exact rfl); (case kK => assumption); (case k1 => k_asm); (case k2 => k_asm); (case k3 => k_asm); (case k4 => k_asm); (case k5 => k_asm); (case k6 => k_is); (case k7 => k_is); (case k8 => ktr_room); (case k9 => first | exact BindsTo.of_eq rfl | exact binds_K (by k_in) rfl (by k_is) rfl rfl rfl); (case c5 => decide); (case kB => exact locs rfl); (case c2 => exact rfl); (case c3 => exact rfl); (case c4 => exact rfl); k_whole; intro g' L' h' FG' F' N' B' X' T'; (try dsimp only); (try k_lift B'); (try k_fold)
  walk_at "go"
  exact retS hret rfl (by k_asm) (by k_asm)
theorem body2a (w : World) (x e : List Nat) (L : Nat) (t te tL : Tok) (hx : ∀ c ∈ x, c < 2 ^ 62) (hlen : x.length ≤ 1000) (hL : 4 ≤ L) (hL2 : L ≤ 1000) (he : e.length ≤ 2) :
    Cut2 w 50 2 [.str (S x) t, .int (L : Int) tL, .str (S e) te] (fun _ => True) (OutS (S (benc L e x))) := by
  by_cases h : x = []
  · subst h; exact body2e w e L t te tL hL hL2
  · exact body2 w x e L t te tL hx h hlen hL hL2 he
end Mine
end
section
open PySem PySem.W PyProof.Rows PySem.Calls
set_option Elab.async false
set_option linter.unusedVariables false
set_option linter.unusedSimpArgs false
set_option maxRecDepth 100000
set_option maxHeartbeats 8000000
namespace Mine
local macro_rules | `(tactic| walk_at "getMethod str") => `(tactic| ((with_reducible refine getm_translate ?_)))
local macro_rules | `(tactic| walk_at "eval Constant int") => `(tactic| (refine const_int_t ?_; intro t' k'))
local macro_rules | `(tactic| walk_at "binaryOp Add int int") => `(tactic| (refine add_int_t ?_; intro t' k'))
local macro_rules | `(tactic| walk_at "binaryOp Sub int int") => `(tactic| (refine sub_int_t ?_; intro t' k'))
local macro_rules | `(tactic| walk_at "len") => `(tactic| first | omega | (simp only [List.length_append, List.length_cons, List.length_nil, List.length_take, List.length_drop, quoteL]; omega) | (refine Nat.le_trans (Nat.add_le_add (cutL_le _ _ _) (Nat.le_refl _)) ?_; (simp only [List.length_append, List.length_cons, List.length_nil, quoteL]); omega))
local macro_rules | `(tactic| walk_at "lit") => `(tactic| with_reducible (first | exact lit_eq | exact lit_empty | exact lit_ws | exact lit_crlf | exact lit_tab | exact lit_sp | exact lit_lf | exact lit_cr | exact lit_k | exact lit_q20 | exact lit_q09 | exact lit_hex | rfl))
local macro_rules | `(tactic| walk_at "truthy str") => `(tactic| (refine' truthy_S ?a ?_; (case a => walk_at "len"); intro k'))
local macro_rules | `(tactic| walk_at "eval Constant str") => `(tactic| (refine' lit_S ?a ?_; (case a => walk_at "lit")))
local macro_rules | `(tactic| walk_at "binaryOp Add str str") => `(tactic| (refine' add_S ?a ?_; (case a => walk_at "len"); intro t' k'))
local macro_rules | `(tactic| walk_at "call builtin:len") => `(tactic| ((with_reducible show wpAny _ _ (call (Value.builtin _) [Value.str _ _]) _ _ _); refine' len_S ?a ?_; (case a => walk_at "len"); intro t' k'))
local macro_rules | `(tactic| walk_at "compareOp In str str") => `(tactic| (refine' in_E ?a ?_; (case a => walk_at "lit")))
local macro_rules | `(tactic| walk_at "compareOp Eq str str") => `(tactic| (refine eq_S ?_))
local macro_rules | `(tactic| walk_at "call builtin:str.translate") => `(tactic| (refine' call_translate (by assumption) ?l ?x ?n ?z ?_; (case l => exact ⟨_, Frag.In.keeps (by k_asm) (Fr.keep (by k_asm)) _ _ (by assumption), rfl, _, rfl⟩); (case x => (rw [S_cps]; assumption)); (case n => (rw [S_len]; simpa using (by assumption))); (case z => rw [S_len]; omega); rw [S_cps]; intro t' k'))
local macro_rules | `(tactic| walk_at "item") => `(tactic| first
  | ((with_reducible show wpAny _ _ (subscriptTail _ _ (Value.str (S _) _) (Value.int _ _)) _ _ _); first
    | (refine' last_S ?ne ?c ?_; (case ne => first | assumption | exact ne_of_isEmpty (by assumption)); (case c => walk_at "len"); intro t' k')
    | (refine' item_S ?a ?b ?c ?_; (case a => omega); (case b => omega); (case c => walk_at "len"); intro t' k'))
  | ((with_reducible show wpAny _ _ (subscriptTail _ _ (Value.str (PySem.Str.ofString _) _) (Value.int _ _)) _ _ _); (refine' item_E ?e ?a ?b ?c ?_; (case e => walk_at "lit"); (case a => walk_at "idx"); (case b => walk_at "idx"); (case c => decide); intro t' k')))
local macro_rules | `(tactic| walk_at "idx") => `(tactic| ((try simp only [List.length_cons, List.length_nil]); (try simp (disch := omega) only [Int.fdiv_eq_ediv_of_nonneg, Int.fmod_eq_emod_of_nonneg]); omega))
local macro_rules | `(tactic| walk_at "subscriptTail Name UnaryOp str int") => `(tactic| walk_at "item")
local macro_rules | `(tactic| walk_at "subscriptTail Name Name str int") => `(tactic| walk_at "item")
local macro_rules | `(tactic| walk_at "subscriptTail Name Constant str int") => `(tactic| walk_at "item")
local macro_rules | `(tactic| walk_at "subscriptTail Name BinOp str int") => `(tactic| walk_at "item")
local macro_rules | `(tactic| walk_at "subscriptTail Name Slice str ref") => `(tactic| first
  | ((with_reducible show wpAny _ _ (subscriptTail _ (Expr.Slice none (some _) none _) _ _) _ _ _); (refine' slice_ns ?F ?N ?c ?_; (case F => k_asm); (case N => k_asm); (case c => walk_at "len"); intro h' t' k' F' N'; (try k_sweep)))
  | ((with_reducible show wpAny _ _ (subscriptTail _ (Expr.Slice (some _) none none _) _ _) _ _ _); (refine' slice_sn ?F ?N ?c ?_; (case F => k_asm); (case N => k_asm); (case c => walk_at "len"); intro h' t' k' F' N'; (try k_sweep)))
  | ((with_reducible show wpAny _ _ (subscriptTail _ (Expr.Slice (some _) (some _) none _) _ _) _ _ _); (refine' slice_ss ?F ?N ?c ?_; (case F => k_asm); (case N => k_asm); (case c => walk_at "len"); intro h' t' k' F' N'; (try k_sweep))))
local macro_rules | `(tactic| walk_at "call ref") => `(tactic| ((with_reducible show wpAny _ _ (call (Value.ref _) [_]) _ _ _); k_dflt (refine' callA ?F ?N ?m ?U ?_ ?z; (case F => k_asm); (case N => k_asm); (case m => k_mem); (case U => k_upd); (case z => walk_at "room")); intro h' F' N'; (try k_sweep)))
local macro_rules | `(tactic| walk_at "halt") => `(tactic| ((fail_if_success (with_reducible show wpAny _ _ (pyIter _) _ _ _)); (fail_if_success (with_reducible show wpAny _ _ (exec (Stmt.While _ _ _ _) _) _ _ _)); (fail_if_success (with_reducible show wpAny _ _ (newList _) _ _ _)); (fail_if_success (with_reducible show wpAny _ _ (getAttr (Value.ref _) (PySem.Str.ofString "append") _) _ _ _)); (fail_if_success (with_reducible show wpAny _ _ (call (Value.builtin "str.splitlines") _) _ _ _)); (fail_if_success (with_reducible show wpAny _ _ (call (Value.builtin "str.join") _) _ _ _))))
local macro_rules | `(tactic| walk_at "go") => `(tactic| repeat' (first | (k_unfold; (try dsimp only)) | (walk_at "halt"; (first | walk1 | (dsimp only; walk1) | (leave1; walk_say "STEP leave1"; try dsimp only)))))
local macro_rules | `(tactic| k_all) => `(tactic| exact led_ne (by assumption))
local macro_rules | `(tactic| walk_at "callWith ref") => `(tactic| ((with_reducible show wpAny _ _ (callWith _ (Value.ref _) _ (backTo _ (starEach (_ :: _) _)) []) _ _ _); k_dflt (refine' callWith_A ?N ?m ?_; (case N => k_asm); (case m => k_mem))))
local macro_rules | `(tactic| walk_at "And") => `(tactic| ((with_reducible show StandsA _ _ _ ∧ _); refine ⟨standsA_of (by k_asm) (by k_mem), ?_⟩; (try dsimp only [List.nil_append, List.cons_append])))
local macro_rules | `(tactic| walk_at "names") => `(tactic| (intro z hz; (simp only [List.contains_cons, List.contains_nil, Bool.or_false, Bool.or_eq_false_iff, beq_eq_false_iff_ne, ne_eq] at hz); (simp only [List.contains_cons, List.contains_nil, Bool.or_false, Bool.or_eq_true, beq_iff_eq, hz, or_self, if_false]); (try rfl)))
local macro_rules | `(tactic| walk_at "StandsA") => `(tactic| exact standsA_of (by k_asm) (by k_mem))
local macro_rules | `(tactic| walk_at "room") => `(tactic| (rw [List.size_toArray, sv_len]; exact Nat.le_trans (by assumption) (by decide : 100000 ≤ sizeLine)))
theorem fill_G2 : Challenge.rw_dm5003_02 = Challenge.rw_dm5003_02 ∧ hd2.heap_39 = hd2.heap_39 := by
  k_fill
  exact ⟨rfl, rfl⟩
local macro_rules | `(tactic| walk_at "fine") => `(tactic| first | assumption | exact fine_nil)
local macro_rules | `(tactic| walk_at "mem") => `(tactic| first | assumption | exact .head _ | (refine .tail _ ?_; walk_at "mem"))
local macro_rules | `(tactic| walk_at "cut use") => `(tactic| ((case B => k_asm); (case F => k_asm); (case X => k_asm); (case N => k_asm); (case pre => walk_at "mem"); (case T => k_asm); (case hk => exact rfl); (case hd => ktr_room); (case hu => ktr_units)))
local macro_rules | `(tactic| walk_at "weight") => `(tactic| first | assumption | omega)
local macro_rules | `(tactic| walk_at "call ref") => `(tactic| ((with_reducible show wpAny _ _ (call (Value.ref 79) _) _ _ _); k_dflt (refine' cut_useB (white1 _ _ ?fl _ _ ?hw) ?B ?F ?X ?N ?T ?hk ?pre ?hd ?hu ?_; walk_at "cut use"; (case fl => walk_at "fine"); (case hw => walk_at "weight")); intro h' k' F' N'; (try k_sweep)))
local macro_rules | `(tactic| walk_at "call ref") => `(tactic| ((with_reducible show wpAny _ _ (call (Value.ref 72) _) _ _ _); k_dflt (refine' cut_useI (size1 _ _ _ _ ?hw) ?B ?F ?X ?N ?T ?hk ?pre ?hd ?hu ?_; walk_at "cut use"; (case hw => walk_at "weight")); intro t' h' k' F' N'; (try k_sweep)))
local macro_rules | `(tactic| walk_at "halt") => `(tactic| ((fail_if_success (with_reducible show wpAny _ _ (pyIter _) _ _ _)); (fail_if_success (with_reducible show wpAny _ _ (exec (Stmt.While _ _ _ _) _) _ _ _)); (fail_if_success (with_reducible show wpAny _ _ (newList _) _ _ _)); (fail_if_success (with_reducible show wpAny _ _ (getAttr (Value.ref _) (PySem.Str.ofString "append") _) _ _ _))))
local macro_rules | `(tactic| walk_at "call builtin:str.join") => `(tactic| (k_dflt (refine' join0_S ?N ?D ?w ?_; (case N => k_asm); (case D => walk_at "mem"); (case w => walk_at "weight")); intro t' k'))
local macro_rules | `(tactic| walk_at "short") => `(tactic| first | assumption | omega)
local macro_rules | `(tactic| walk_at "subscriptTail Name Slice ref ref") => `(tactic| first
  | ((with_reducible show wpAny _ _ (subscriptTail _ (Expr.Slice none (some _) none _) _ _) _ _ _); k_dflt (refine' sliceL_upto1 ?F ?N ?a ?z ?_; (case F => k_asm); (case N => k_asm); (case a => walk_at "mem"); (case z => walk_at "short")); intro D' h' F' N' l1; (try k_sweep))
  | ((with_reducible show wpAny _ _ (subscriptTail _ (Expr.Slice (some _) none none _) _ _) _ _ _); k_dflt (refine' sliceL_from1 ?F ?N ?a ?z ?_; (case F => k_asm); (case N => k_asm); (case a => walk_at "mem"); (case z => walk_at "short")); intro D' h' F' N' l1; (try k_sweep)))
local macro_rules | `(tactic| walk_at "lastitem") => `(tactic| first | assumption | (rename white _ = true => hwh; exact last_white hwh))
local macro_rules | `(tactic| walk_at "subscriptTail Name UnaryOp ref int") => `(tactic| (k_dflt (refine' getLast_L ?N ?a ?z ?_; (case N => k_asm); (case a => walk_at "mem"); (case z => walk_at "lastitem")); intro t'))
local macro_rules | `(tactic| walk_at "newL") => `(tactic| ((first
  | k_dflt (refine' newL [(_, _)] ?e ?z ?F ?N ?_; (case e => exact rfl); (case z => exact Nat.le_of_ble_eq_true rfl); (case F => k_asm); (case N => k_asm))
  | k_dflt (refine' newL [(_, _), (_, _)] ?e ?z ?F ?N ?_; (case e => exact rfl); (case z => exact Nat.le_of_ble_eq_true rfl); (case F => k_asm); (case N => k_asm))); intro en h1 F1 N1 hen; (try k_sweep)))
local macro_rules | `(tactic| walk_at "inplaceOp Add str str") => `(tactic| (refine' iadd_S ?a ?_; (case a => walk_at "len"); intro t' k'))
local macro_rules | `(tactic| walk_at "item0") => `(tactic| first | exact rfl | assumption)
local macro_rules | `(tactic| walk_at "subscriptTail Name Constant ref int") => `(tactic| (k_dflt (refine' item_L ?N ?a ?x ?y ?z ?_; (case N => k_asm); (case a => walk_at "mem"); (case x => omega); (case y => omega); (case z => walk_at "item0")); intro t'))
local macro_rules | `(tactic| walk_at "call builtin:list.append") => `(tactic| ((with_reducible show wpAny _ _ (call (Value.builtin _) [_, _]) _ _ _); k_dflt (refine' append_L ?F ?N ?U ?_ ?z; (case F => k_asm); (case N => k_asm); (case U => k_upd); (case z => walk_at "room")); intro h' F' N'; (try k_sweep)))
theorem lit_brk : PySem.Str.ofString "\x0d\n\u2028\u2029" = S [13, 10, 8232, 8233] := by decide +kernel
local macro_rules | `(tactic| walk_at "lit") => `(tactic| with_reducible exact lit_brk)
local macro_rules | `(tactic| walk_at "halt5") => `(tactic| ((fail_if_success (with_reducible show wpAny _ _ (pyIter _) _ _ _)); (fail_if_success (with_reducible show wpAny _ _ (exec (Stmt.While _ _ _ _) _) _ _ _)); (fail_if_success (with_reducible show wpAny _ _ (newList _) _ _ _)); (fail_if_success (with_reducible show WEnd _ _ _ _ _ _ _ _ _ _ _))))
local macro_rules | `(tactic| walk_at "go5") => `(tactic| repeat' (first | (k_unfold; (try dsimp only)) | (walk_at "halt5"; (first | walk1 | (dsimp only; walk1) | (leave1; walk_say "STEP leave1"; try dsimp only)))))
/-- a new list of texts comes back, whatever its count -/
def OutLn (zs : List (List Nat)) (added : Led) (v : Value) : Prop := ∃ D r n, v = .ref D ∧ added = [(D, listOf (sv r).toArray n)] ∧ r.map (·.1) = zs
theorem last1 (l : List Nat) (c : Nat) : cutL l (some (-1)) none = [c] ↔ l.getLast? = some c := by
  rcases List.eq_nil_or_concat l with rfl | ⟨g, d, rfl⟩
  · simp [cutL]
  · rw [List.concat_eq_append]
    have e : cutL (g ++ [d]) (some (-1)) none = [d] := by
      unfold cutL loN hiN clampN
      simp only [show (-1 : Int) < 0 from by decide, if_true, List.length_append, List.length_singleton]
      rw [show ((-1 : Int) + ((g.length + 1 : Nat) : Int)).toNat = g.length from by omega, List.drop_left]
      exact List.take_of_length_le (by rw [List.length_singleton]; omega)
    rw [e]; simp
theorem cut12 (x : List Nat) (k : Nat) (c : Nat) : cutL x (some ((k : Int) + 1)) (some ((k : Int) + 2)) = [c] ↔ x[k + 1]? = some c := by
  have e : cutL x (some ((k : Int) + 1)) (some ((k : Int) + 2)) = (x.drop (k + 1)).take 1 := by
    unfold cutL loN hiN clampN
    simp only
    rw [if_neg (by omega), if_neg (by omega)]
    have e1 : ((k : Int) + 1).toNat = k + 1 := by omega
    have e2 : ((k : Int) + 2).toNat = k + 2 := by omega
    rw [e1, e2]
    by_cases h : k + 1 < x.length
    · rw [show min (k + 1) x.length = k + 1 from by omega, show min (k + 2) x.length - (k + 1) = 1 from by omega]
    · have h1 : x.drop (min (k + 1) x.length) = [] := List.drop_eq_nil_of_le (by omega)
      have h2 : x.drop (k + 1) = [] := List.drop_eq_nil_of_le (by omega)
      rw [h1, h2]; simp
  rw [e]
  cases h : x[k + 1]? with
  | none =>
    have : x.length ≤ k + 1 := List.getElem?_eq_none_iff.mp h
    rw [List.drop_eq_nil_of_le this]; simp
  | some d => rw [drop_cons h]; simp
theorem brk_mem (c : Nat) : c ∈ [13, 10, 8232, 8233] ↔ isBrk c = true := by
  simp only [isBrk, List.mem_cons, List.not_mem_nil, or_false, Bool.or_eq_true, beq_iff_eq]; omega
theorem getD_at {x : List Nat} {k : Nat} (h : k < x.length) : x[k]? = some (x.getD k 0) := by
  rw [List.getD_eq_getElem?_getD, List.getElem?_eq_getElem h]; rfl
theorem loc2i {m₀ : PySem.Str → Option Value} {a b : PySem.Str} {i j : Int} {t : Tok} {v' : Value} (h : m₀ a = some (.int i t)) (e : i = j) (h' : m₀ b = some v') : ∀ p ∈ [(a, Value.int j t), (b, v')], m₀ p.1 = some p.2 := by
  subst e; exact loc2 h h'
theorem S_nil_ne {r : List Nat} (h : (S r != S []) = true) : r ≠ [] := by rintro rfl; simp at h
theorem S_nil_eq {r : List Nat} (h : (S r != S []) = false) : r = [] := by
  have : S r = S [] := by simpa using h
  exact S_inj this
theorem lastNl_13 {x : List Nat} (h : x.getLast? = some 13) : lastNl x = true := by unfold lastNl; rw [h]; rfl
theorem lastNl_10 {x : List Nat} (h : x.getLast? = some 10) : lastNl x = true := by unfold lastNl; rw [h]; rfl
theorem lastNl_no {x : List Nat} (h1 : ¬ x.getLast? = some 13) (h2 : ¬ x.getLast? = some 10) : ¬ lastNl x = true := by
  unfold lastNl
  cases h : x.getLast? with
  | none => simp
  | some c =>
    rw [h] at h1 h2
    simp only [Option.any_some, isNl, Bool.or_eq_true, beq_iff_eq]
    rintro (e | e)
    · exact h2 (by rw [e])
    · exact h1 (by rw [e])
structure RowP (x : List Nat) (en : Addr) (news : Led) (c : Nat × Tok × List Nat × Tok × Txts × Nat) (led : Led) : Prop where
  led : led = (en, listOf (sv c.2.2.2.2.1).toArray c.2.2.2.2.2) :: news
  at_ : RowsAt x c.1 (c.2.2.2.2.1.map (·.1)) c.2.2.1
  row : c.2.2.1.length ≤ c.1
  rows : c.2.2.2.2.1.length ≤ c.1
theorem rows2 (w : World) (x : List Nat) (hl : x.length ≤ 1000) (t : Tok) : Cut2 w 60 5 [.str (S x) t] (fun _ => True) (OutLn (rowsL x)) := by
  intro p loose mean mg mb dp un gd cn cs a ccd cl outer A₀ base h₀ L m news s Q E B F X N T hk hp hd hu hret
  refine wpAny_call ?_
  k_dflt cell_enter
  walk_at "go5"
  k_dflt (refine' newL [] ?e ?z ?F ?N ?_; (case e => exact rfl); (case z => exact Nat.le_of_ble_eq_true rfl); (case F => k_asm); (case N => k_asm))
  intro en h1 F1 N1 hen
  walk_at "go5"
  rename News _ _ _ _ => N6
  refine while_st (fun c : Nat × Tok × List Nat × Tok × Txts × Nat => [("place", .int (c.1 : Int) c.2.1), ("row", .str (S c.2.2.1) c.2.2.2.1)]) (["place", "row", "sign"] : List PySem.Str) (RowP x en news) (fun c => x.length - c.1) (0, ?tp9, [], ?tr9, [], 0) (by k_asm) N6 ?h09
      ⟨rfl, RowsAt.start x, Nat.le_refl _, Nat.le_refl _⟩ ?_
  case h09 =>
    intro p hp
    simp only [List.mem_cons, List.not_mem_nil, or_false] at hp
    rcases hp with rfl | rfl <;> rfl
  intro c u news₁ h5 tk5 hP5 F5 N5
  obtain ⟨k, tp, row, tr, rows, n⟩ := c
  obtain ⟨rfl, hat, hrow, hrows⟩ := hP5
  dsimp only at hat hrow hrows N5
  dsimp only [lk] at F5
  have hkl := hat.le
  have hsz9 : rows.length ≤ 100000 := by omega
  have hrw9 : row.length ≤ 1000 := by omega
  walk_at "go5"
  · have g0 : (k : Int) < (x.length : Int) := by assumption
    have g1 : [x.getD (k : Int).toNat 0] = [13] := by assumption
    have g2 : cutL x (some ((k : Int) + 1)) (some ((k : Int) + 2)) = [10] := by assumption
    rw [Int.toNat_natCast] at g1
    have g3 := getD_at (x := x) (k := k) (by omega)
    rw [(List.cons.inj g1).1] at g3
    have g4 := (cut12 x k 10).mp g2
    have g5 := (List.getElem?_eq_some_iff.mp g4).1
    rename News _ _ _ _ => N9
    rw [sv_push] at N9
    exact WEnd.intro (by k_asm) N9 (k + 2, _, [], _, rows ++ [(row, _)], n + 1) _ (fun p hp => hp) (by dsimp only; omega) ⟨rfl, by rw [List.map_append]; exact hat.two g3 g4, Nat.zero_le _, by dsimp only; rw [List.length_append, List.length_singleton]; omega⟩ (loc2i rfl (by omega) rfl) (by walk_at "names")
  · have g0 : (k : Int) < (x.length : Int) := by assumption
    have g1 : [x.getD (k : Int).toNat 0] = [13] := by assumption
    have g2 : ¬ cutL x (some ((k : Int) + 1)) (some ((k : Int) + 2)) = [10] := by assumption
    have g6 : x.getD (k : Int).toNat 0 ∈ [13, 10, 8232, 8233] := by assumption
    rw [Int.toNat_natCast] at g1 g6
    have g3 := getD_at (x := x) (k := k) (by omega)
    rename News _ _ _ _ => N9
    rw [sv_push] at N9
    exact WEnd.intro (by k_asm) N9 (k + 1, _, [], _, rows ++ [(row, _)], n + 1) _ (fun p hp => hp) (by dsimp only; omega) ⟨rfl, by rw [List.map_append]; exact hat.brk g3 ((brk_mem _).mp g6) (fun h => g2 ((cut12 x k 10).mpr h.2)), Nat.zero_le _, by dsimp only; rw [List.length_append, List.length_singleton]; omega⟩ (loc2i rfl (by omega) rfl) (by walk_at "names")
  · exfalso
    have g1 : [x.getD (k : Int).toNat 0] = [13] := by assumption
    have g6 : ¬ x.getD (k : Int).toNat 0 ∈ [13, 10, 8232, 8233] := by assumption
    exact g6 (by rw [(List.cons.inj g1).1]; simp)
  · have g0 : (k : Int) < (x.length : Int) := by assumption
    have g1 : ¬ [x.getD (k : Int).toNat 0] = [13] := by assumption
    have g6 : x.getD (k : Int).toNat 0 ∈ [13, 10, 8232, 8233] := by assumption
    rw [Int.toNat_natCast] at g1 g6
    have g3 := getD_at (x := x) (k := k) (by omega)
    rename News _ _ _ _ => N9
    rw [sv_push] at N9
    exact WEnd.intro (by k_asm) N9 (k + 1, _, [], _, rows ++ [(row, _)], n + 1) _ (fun p hp => hp) (by dsimp only; omega) ⟨rfl, by rw [List.map_append]; exact hat.brk g3 ((brk_mem _).mp g6) (fun h => g1 (by rw [h.1])), Nat.zero_le _, by dsimp only; rw [List.length_append, List.length_singleton]; omega⟩ (loc2i rfl (by omega) rfl) (by walk_at "names")
  · have g0 : (k : Int) < (x.length : Int) := by assumption
    have g6 : ¬ x.getD (k : Int).toNat 0 ∈ [13, 10, 8232, 8233] := by assumption
    rw [Int.toNat_natCast] at g6
    have g3 := getD_at (x := x) (k := k) (by omega)
    rename News _ _ _ _ => N9
    exact WEnd.intro (by k_asm) N9 (k + 1, _, row ++ [x.getD (k : Int).toNat 0], _, rows, n) _ (fun p hp => hp) (by dsimp only; omega) ⟨rfl, by rw [Int.toNat_natCast]; exact hat.sign g3 (by rw [Bool.eq_false_iff]; exact fun e => g6 ((brk_mem _).mpr e)), by dsimp only; rw [List.length_append, List.length_singleton]; omega, by dsimp only; omega⟩ (loc2i rfl (by omega) rfl) (by walk_at "names")
  all_goals
    have g0 : ¬ (k : Int) < (x.length : Int) := by assumption
    have gk : k = x.length := by omega
    rw [gk] at hat
    have hdone := hat.done
  · have g1 := S_nil_ne (by assumption : (S row != S []) = true)
    rename News _ _ _ _ => N9
    rw [sv_push] at N9
    exact hret _ [(en, listOf (sv (rows ++ [(row, _)])).toArray (n + 1))] _ _ (by k_asm) (fun p hp => N9 p hp) (fun q hq p hp => by rw [List.mem_singleton.mp hp]; exact hen q hq) ⟨en, _, _, rfl, rfl, by rw [hdone, if_pos g1, List.map_append]; rfl⟩
  · have g1 := S_nil_eq (by assumption : (S row != S []) = false)
    have g2 := (last1 x 13).mp (by assumption)
    rename News _ _ _ _ => N9
    rw [sv_push] at N9
    exact hret _ [(en, listOf (sv (rows ++ [([], _)])).toArray (n + 1))] _ _ (by k_asm) (fun p hp => N9 p hp) (fun q hq p hp => by rw [List.mem_singleton.mp hp]; exact hen q hq) ⟨en, _, _, rfl, rfl, by rw [hdone, if_neg (fun h => h g1), if_pos (lastNl_13 g2), List.map_append]; rfl⟩
  · have g1 := S_nil_eq (by assumption : (S row != S []) = false)
    have g2 := (last1 x 10).mp (by assumption)
    rename News _ _ _ _ => N9
    rw [sv_push] at N9
    exact hret _ [(en, listOf (sv (rows ++ [([], _)])).toArray (n + 1))] _ _ (by k_asm) (fun p hp => N9 p hp) (fun q hq p hp => by rw [List.mem_singleton.mp hp]; exact hen q hq) ⟨en, _, _, rfl, rfl, by rw [hdone, if_neg (fun h => h g1), if_pos (lastNl_10 g2), List.map_append]; rfl⟩
  · have g1 := S_nil_eq (by assumption : (S row != S []) = false)
    have g2 : ¬ cutL x (some (-1)) none = [13] := by assumption
    have g3 : ¬ cutL x (some (-1)) none = [10] := by assumption
    rename News _ _ _ _ => N9
    exact hret _ [(en, listOf (sv rows).toArray n)] _ _ (by k_asm) (fun p hp => N9 p hp) (fun q hq p hp => by rw [List.mem_singleton.mp hp]; exact hen q hq) ⟨en, _, _, rfl, rfl, by rw [hdone, if_neg (fun h => h g1), if_neg (lastNl_no (fun e => g2 ((last1 x 13).mpr e)) (fun e => g3 ((last1 x 10).mpr e)))]⟩
end Mine
end
section
open PySem PySem.W PyProof.Rows PySem.Calls
set_option Elab.async false
set_option linter.unusedVariables false
set_option linter.unusedSimpArgs false
set_option maxRecDepth 100000
set_option maxHeartbeats 8000000
namespace Mine
local macro_rules | `(tactic| walk_at "getMethod str") => `(tactic| ((with_reducible refine getm_translate ?_)))
local macro_rules | `(tactic| walk_at "eval Constant int") => `(tactic| (refine const_int_t ?_; intro t' k'))
local macro_rules | `(tactic| walk_at "binaryOp Add int int") => `(tactic| (refine add_int_t ?_; intro t' k'))
local macro_rules | `(tactic| walk_at "binaryOp Sub int int") => `(tactic| (refine sub_int_t ?_; intro t' k'))
local macro_rules | `(tactic| walk_at "len") => `(tactic| first | omega | (simp only [List.length_append, List.length_cons, List.length_nil, List.length_take, List.length_drop, quoteL]; omega) | (refine Nat.le_trans (Nat.add_le_add (cutL_le _ _ _) (Nat.le_refl _)) ?_; (simp only [List.length_append, List.length_cons, List.length_nil, quoteL]); omega))
local macro_rules | `(tactic| walk_at "lit") => `(tactic| with_reducible (first | exact lit_eq | exact lit_empty | exact lit_ws | exact lit_crlf | exact lit_tab | exact lit_sp | exact lit_lf | exact lit_cr | exact lit_k | exact lit_q20 | exact lit_q09 | exact lit_hex | rfl))
local macro_rules | `(tactic| walk_at "truthy str") => `(tactic| (refine' truthy_S ?a ?_; (case a => walk_at "len"); intro k'))
local macro_rules | `(tactic| walk_at "eval Constant str") => `(tactic| (refine' lit_S ?a ?_; (case a => walk_at "lit")))
local macro_rules | `(tactic| walk_at "binaryOp Add str str") => `(tactic| (refine' add_S ?a ?_; (case a => walk_at "len"); intro t' k'))
local macro_rules | `(tactic| walk_at "call builtin:len") => `(tactic| ((with_reducible show wpAny _ _ (call (Value.builtin _) [Value.str _ _]) _ _ _); refine' len_S ?a ?_; (case a => walk_at "len"); intro t' k'))
local macro_rules | `(tactic| walk_at "compareOp In str str") => `(tactic| (refine' in_E ?a ?_; (case a => walk_at "lit")))
local macro_rules | `(tactic| walk_at "compareOp Eq str str") => `(tactic| (refine eq_S ?_))
local macro_rules | `(tactic| walk_at "call builtin:str.translate") => `(tactic| (refine' call_translate (by assumption) ?l ?x ?n ?z ?_; (case l => exact ⟨_, Frag.In.keeps (by k_asm) (Fr.keep (by k_asm)) _ _ (by assumption), rfl, _, rfl⟩); (case x => (rw [S_cps]; assumption)); (case n => (rw [S_len]; simpa using (by assumption))); (case z => rw [S_len]; omega); rw [S_cps]; intro t' k'))
local macro_rules | `(tactic| walk_at "item") => `(tactic| first
  | ((with_reducible show wpAny _ _ (subscriptTail _ _ (Value.str (S _) _) (Value.int _ _)) _ _ _); first
    | (refine' last_S ?ne ?c ?_; (case ne => first | assumption | exact ne_of_isEmpty (by assumption)); (case c => walk_at "len"); intro t' k')
    | (refine' item_S ?a ?b ?c ?_; (case a => omega); (case b => omega); (case c => walk_at "len"); intro t' k'))
  | ((with_reducible show wpAny _ _ (subscriptTail _ _ (Value.str (PySem.Str.ofString _) _) (Value.int _ _)) _ _ _); (refine' item_E ?e ?a ?b ?c ?_; (case e => walk_at "lit"); (case a => walk_at "idx"); (case b => walk_at "idx"); (case c => decide); intro t' k')))
local macro_rules | `(tactic| walk_at "idx") => `(tactic| ((try simp only [List.length_cons, List.length_nil]); (try simp (disch := omega) only [Int.fdiv_eq_ediv_of_nonneg, Int.fmod_eq_emod_of_nonneg]); omega))
local macro_rules | `(tactic| walk_at "subscriptTail Name UnaryOp str int") => `(tactic| walk_at "item")
local macro_rules | `(tactic| walk_at "subscriptTail Name Name str int") => `(tactic| walk_at "item")
local macro_rules | `(tactic| walk_at "subscriptTail Name Constant str int") => `(tactic| walk_at "item")
local macro_rules | `(tactic| walk_at "subscriptTail Name BinOp str int") => `(tactic| walk_at "item")
local macro_rules | `(tactic| walk_at "subscriptTail Name Slice str ref") => `(tactic| first
  | ((with_reducible show wpAny _ _ (subscriptTail _ (Expr.Slice none (some _) none _) _ _) _ _ _); (refine' slice_ns ?F ?N ?c ?_; (case F => k_asm); (case N => k_asm); (case c => walk_at "len"); intro h' t' k' F' N'; (try k_sweep)))
  | ((with_reducible show wpAny _ _ (subscriptTail _ (Expr.Slice (some _) none none _) _ _) _ _ _); (refine' slice_sn ?F ?N ?c ?_; (case F => k_asm); (case N => k_asm); (case c => walk_at "len"); intro h' t' k' F' N'; (try k_sweep)))
  | ((with_reducible show wpAny _ _ (subscriptTail _ (Expr.Slice (some _) (some _) none _) _ _) _ _ _); (refine' slice_ss ?F ?N ?c ?_; (case F => k_asm); (case N => k_asm); (case c => walk_at "len"); intro h' t' k' F' N'; (try k_sweep))))
local macro_rules | `(tactic| walk_at "call ref") => `(tactic| ((with_reducible show wpAny _ _ (call (Value.ref _) [_]) _ _ _); k_dflt (refine' callA ?F ?N ?m ?U ?_ ?z; (case F => k_asm); (case N => k_asm); (case m => k_mem); (case U => k_upd); (case z => walk_at "room")); intro h' F' N'; (try k_sweep)))
local macro_rules | `(tactic| walk_at "halt") => `(tactic| ((fail_if_success (with_reducible show wpAny _ _ (pyIter _) _ _ _)); (fail_if_success (with_reducible show wpAny _ _ (exec (Stmt.While _ _ _ _) _) _ _ _)); (fail_if_success (with_reducible show wpAny _ _ (newList _) _ _ _)); (fail_if_success (with_reducible show wpAny _ _ (getAttr (Value.ref _) (PySem.Str.ofString "append") _) _ _ _)); (fail_if_success (with_reducible show wpAny _ _ (call (Value.builtin "str.splitlines") _) _ _ _)); (fail_if_success (with_reducible show wpAny _ _ (call (Value.builtin "str.join") _) _ _ _))))
local macro_rules | `(tactic| walk_at "go") => `(tactic| repeat' (first | (k_unfold; (try dsimp only)) | (walk_at "halt"; (first | walk1 | (dsimp only; walk1) | (leave1; walk_say "STEP leave1"; try dsimp only)))))
local macro_rules | `(tactic| k_all) => `(tactic| exact led_ne (by assumption))
local macro_rules | `(tactic| walk_at "callWith ref") => `(tactic| ((with_reducible show wpAny _ _ (callWith _ (Value.ref _) _ (backTo _ (starEach (_ :: _) _)) []) _ _ _); k_dflt (refine' callWith_A ?N ?m ?_; (case N => k_asm); (case m => k_mem))))
local macro_rules | `(tactic| walk_at "And") => `(tactic| ((with_reducible show StandsA _ _ _ ∧ _); refine ⟨standsA_of (by k_asm) (by k_mem), ?_⟩; (try dsimp only [List.nil_append, List.cons_append])))
local macro_rules | `(tactic| walk_at "names") => `(tactic| (intro z hz; (simp only [List.contains_cons, List.contains_nil, Bool.or_false, Bool.or_eq_false_iff, beq_eq_false_iff_ne, ne_eq] at hz); (simp only [List.contains_cons, List.contains_nil, Bool.or_false, Bool.or_eq_true, beq_iff_eq, hz, or_self, if_false]); (try rfl)))
local macro_rules | `(tactic| walk_at "StandsA") => `(tactic| exact standsA_of (by k_asm) (by k_mem))
local macro_rules | `(tactic| walk_at "room") => `(tactic| (rw [List.size_toArray, sv_len]; exact Nat.le_trans (by assumption) (by decide : 100000 ≤ sizeLine)))
theorem cut_useLn {prog : Program} {w : World} {K : Frag} {f : Addr} {dep : Nat} {vs : List Value} {pre : Led → Prop} {zs : List (List Nat)} (C : Cut prog w K f dep vs pre (OutLn zs))
    {p : Program} {loose : List PySem.Str} {mean : ExcName → Option Value} {mg mb : PySem.Str → Option Value} {dp un : Nat} {gd : Option (List Code)} {cn : PySem.Str} {cs : Scope} {a : Addr} {ccd : Value} {cl : List (PySem.Str × Addr)} {outer : List Env} {A₀ : Around} {base h₀ : Heap} {L : Addr} {m : PySem.Str → Option Value}
    {news : Led} {hp : Heap} {gn : Array GenState} {dr : Drawn} {tk : Nat} {os : OsState} {Q E : Value → Shared → Prop}
    (B : Below A₀ base outer h₀) (F : Fr h₀ L hp m) (X : K.In h₀) (N : News h₀ L hp news) (T : Top p loose mean mg mb h₀) (hk : cs.kind = .function) (hpre : pre news) (hd : dp + dep < recursionLimit) (hu : un + 8 * dep < cLine)
    (ret : ∀ (D : Addr) (r : Txts) (n : Nat) h' tk', r.map (·.1) = zs → Fr h₀ L h' m → News h₀ L h' ((D, listOf (sv r).toArray n) :: news) → (∀ p ∈ news, p.1 < D) → Q (.ref D) ⟨h', gn, dr, tk', os⟩) :
    wpAny (model prog w) (ktrTop dp un gd cn cs L a ccd cl outer) (call (.ref f) vs) Q E ⟨hp, gn, dr, tk, os⟩ := cut_use C B F X N T hk hpre hd hu fun v added h' tk' F' N' lt o => by
  obtain ⟨D, r, n, rfl, rfl, e⟩ := o
  exact ret D r n h' tk' e F' N' fun q hq => lt q hq _ (.head _)
theorem weight_le {B : Nat} : ∀ {ys : List (List Nat)}, (∀ y ∈ ys, y.length ≤ B) → weight ys ≤ ys.length * (B + 1)
  | [], _ => Nat.zero_le _
  | y :: r, h => by
    have h1 := h y (.head _)
    have h2 := weight_le (ys := r) fun z hz => h z (.tail _ hz)
    rw [weight_cons, List.length_cons, Nat.add_mul, Nat.one_mul]; omega
theorem sv_at {r : Txts} {i : Nat} {v : Value} (h : (sv r).toArray[i]? = some v) : ∃ z, (r.map (·.1))[i]? = some z ∧ IsS z v := by
  have h' : (sv r)[i]? = some v := by simpa using h
  unfold sv at h'
  rw [List.getElem?_map, Option.map_eq_some_iff] at h'
  obtain ⟨p, h1, h2⟩ := h'
  exact ⟨p.1, by rw [List.getElem?_map, h1]; rfl, p.2, h2.symm⟩
def EndP (h₀ : Heap) (L : Addr) (m : PySem.Str → Option Value) (news : Led) (gn : Array GenState) (dr : Drawn) (os : OsState) (s' : Shared) : Prop :=
  ∃ h k e te, s' = ⟨h, gn, dr, k, os⟩ ∧ EolOk e ∧ Fr h₀ L h (fun y => if y = PySem.Str.ofString "end" then some (.str (S e) te) else m y) ∧ News h₀ L h news
theorem stmt_end {M : Model} {A : Around} {E : Value → Shared → Prop} {hp : Heap} {gn : Array GenState} {dr : Drawn} {tk : Nat} {os : OsState} {env : Env} {st : Stmt} {rest : List Stmt} {Q : Flow → Shared → Prop} {h₀ : Heap} {L : Addr} {m : PySem.Str → Option Value} {news : Led} (F : Fr h₀ L hp m) (N : News h₀ L hp news)
    (h1 : wpAny M A (exec st env) (NextTo (EndP h₀ L m news gn dr os)) E ⟨hp, gn, dr, tk, os⟩)
    (h2 : ∀ h k e te, EolOk e → Fr h₀ L h (fun y => if y = PySem.Str.ofString "end" then some (.str (S e) te) else m y) → News h₀ L h news → wpAny M A (execs rest env) Q E ⟨h, gn, dr, k, os⟩) : wpAny M A (execs (st :: rest) env) Q E ⟨hp, gn, dr, tk, os⟩ :=
  wpAny_execs_cons (wpAny_mono h1 (fun f s' z => by
    obtain ⟨rfl, h, k, e, te, rfl, he, F', N'⟩ := z
    exact h2 h k e te he F' N') fun _ _ z => z)
theorem NextTo.fin {h₀ h : Heap} {L : Addr} {m : PySem.Str → Option Value} {news all : Led} {gn : Array GenState} {dr : Drawn} {os : OsState} {k : Nat} {e : List Nat} {x : PySem.Str} {te : Tok} (hx : x = S e) (he : EolOk e) (F : Fr h₀ L h (fun y => if y = PySem.Str.ofString "end" then some (.str x te) else m y)) (N : News h₀ L h all) (sub : ∀ p ∈ news, p ∈ all) : NextTo (EndP h₀ L m news gn dr os) .next ⟨h, gn, dr, k, os⟩ := by
  subst hx
  exact ⟨rfl, h, k, e, te, rfl, he, F, fun p hp => N p (sub p hp)⟩
theorem Join.any {h₀ h : Heap} {L : Addr} {m : PySem.Str → Option Value} {news all : Led} {gn : Array GenState} {dr : Drawn} {os : OsState} {k : Nat} {i : Int} {t : Tok} (F : Fr h₀ L h m) (N : News h₀ L h all) (sub : ∀ p ∈ news, p ∈ all) :
    Join h₀ L m news gn dr os (fun added v => added = [] ∧ ∃ i t, v = .int i t) (.int i t) ⟨h, gn, dr, k, os⟩ := Join.int F N sub
def Sgn (c : Nat) : Prop := c < 55296
def tab2N : List Nat := [97, 32, 9, 61, 13, 10, 8232, 8233, 133, 11, 12288, 98, 233, 160, 51, 68]
def SgP (added : Led) (v : Value) : Prop := ∃ D r n a b c d, added = [(D, listOf (sv r).toArray n)] ∧ v = .ref D ∧ r.map (·.1) = [[a], [b], [c], [d]] ∧ (a = 13 ∨ a = 10) ∧ Sgn b ∧ Sgn c ∧ Sgn d
theorem Join.signs {h₀ h : Heap} {L D : Addr} {o : Obj} {m : PySem.Str → Option Value} {news all : Led} {gn : Array GenState} {dr : Drawn} {os : OsState} {k n a b c d : Nat} {x1 x2 x3 x4 : PySem.Str} {t1 t2 t3 t4 : Tok} (F : Fr h₀ L h m) (N : News h₀ L h ((D, o) :: all)) (e : o = listOf #[.str x1 t1, .str x2 t2, .str x3 t3, .str x4 t4] n) (h1 : x1 = S [a]) (h2 : x2 = S [b]) (h3 : x3 = S [c]) (h4 : x4 = S [d]) (ha : a = 13 ∨ a = 10) (hb : Sgn b) (hc : Sgn c) (hd : Sgn d) (sub : ∀ p ∈ news, p ∈ all) :
    Join h₀ L m news gn dr os SgP (.ref D) ⟨h, gn, dr, k, os⟩ := by
  subst h1 h2 h3 h4 e
  exact ⟨h, k, [(D, listOf (sv [([a], t1), ([b], t2), ([c], t3), ([d], t4)]).toArray n)], rfl, F, fun p hp => by
    rcases List.mem_cons.mp hp with rfl | hp
    · exact N _ (.head _)
    · exact N _ (.tail _ (sub p hp)), D, _, n, a, b, c, d, rfl, rfl, rfl, ha, hb, hc, hd⟩
theorem tab2 (i : Nat) (h : i < 16) : (["a", " ", "\t", "=", "\x0d", "\n", "\u2028", "\u2029", "\u0085", "\x0b", "\u3000", "b", "é", "\u00a0", "3", "D"] : List PySem.Str).getD i Str.empty = S [tab2N.getD i 0] ∧ Sgn (tab2N.getD i 0) := by
  have all : ∀ i, i < 16 → (["a", " ", "\t", "=", "\x0d", "\n", "\u2028", "\u2029", "\u0085", "\x0b", "\u3000", "b", "é", "\u00a0", "3", "D"] : List PySem.Str).getD i Str.empty = S [tab2N.getD i 0] ∧ tab2N.getD i 0 < 55296 := by decide +kernel
  exact all i h
theorem lit_2028 : PySem.Str.ofString "\u2028" = S [8232] := by decide +kernel
theorem lit_2029 : PySem.Str.ofString "\u2029" = S [8233] := by decide +kernel
theorem sliceL_all {prog : Program} {w : World} {A : Around} {E : Value → Shared → Prop} {hp : Heap} {gn : Array GenState} {dr : Drawn} {tk : Nat} {os : OsState} {h₀ : Heap} {L a : Addr} {m : PySem.Str → Option Value} {news : Led} {l : Txts} {n : Nat} {Q : Value → Shared → Prop} {value slice : PySem.Expr} (F : Fr h₀ L hp m) (N : News h₀ L hp news) (ha : (a, listOf (sv l).toArray n) ∈ news) (hsz : l.length ≤ 100000)
    (h : ∀ D h', Fr h₀ L h' m → News h₀ L h' ((D, listOf (sv l).toArray 0) :: news) → (∀ p ∈ news, p.1 < D) → Q (.ref D) ⟨h', gn, dr, tk, os⟩)
    (hs : subscripted slice false (.ref a) (.ref hp.objs.size) = operate [.ref hp.objs.size, .ref a] (getItem (.ref a) (.ref hp.objs.size)) := by with_unfolding_all rfl) (ht : ∀ r, letTemporaryGo value (.ref a) r = pure () := by intro _; with_unfolding_all rfl) :
    wpAny (model prog w) A (subscriptTail value slice (.ref a) (.ref hp.objs.size)) Q E ⟨hp.push { cls := .type "slice", data := .fields #[.none, .none, .none] }, gn, dr, tk, os⟩ :=
  kms_slice_lit (s := ⟨hp, gn, dr, tk, os⟩) F N (lstN N ha) IsPart.none IsPart.none (zs := sv l) (by
    unfold kms_pick kms_lo kms_hi
    simp) (fun D h' F' N' l1 => h D h' F' N' l1) hs ht (by rw [List.size_toArray, sv_len]; exact Nat.le_trans hsz (by decide))
def growN (sg : List (List Nat)) : Nat → List (List Nat)
  | 0 => [[]]
  | i + 1 => grow i sg (growN sg i)
theorem growN_len (a b c d : Nat) : ∀ i, i ≤ 3 → (growN [[a], [b], [c], [d]] i).length ≤ 85
  | 0, _ => Nat.le_of_ble_eq_true rfl
  | 1, _ => Nat.le_of_ble_eq_true rfl
  | 2, _ => Nat.le_of_ble_eq_true rfl
  | 3, _ => Nat.le_of_ble_eq_true rfl
  | i + 4, h => by omega
theorem growN_ok {a b c d : Nat} {P : Nat → Prop} (ha : P a) (hb : P b) (hc : P c) (hd : P d) : ∀ i, ∀ t ∈ growN [[a], [b], [c], [d]] i, t.length ≤ i ∧ ∀ x ∈ t, P x
  | 0, t, h => by rw [List.mem_singleton.mp h]; exact ⟨Nat.le_refl _, fun _ h => nomatch h⟩
  | i + 1, t, h => by
    refine grow_ok (fun s hs => ?_) (growN_ok ha hb hc hd i) t h
    simp only [List.mem_cons, List.not_mem_nil, or_false] at hs
    rcases hs with rfl | rfl | rfl | rfl <;> exact ⟨rfl, fun x hx => by rw [List.mem_singleton.mp hx]; assumption⟩
theorem growN_85 (a b c d : Nat) : growN [[a], [b], [c], [d]] 3 = texts85 a b c d := rfl
theorem turn_anyQ {M : Model} {A : Around} {t : Sem Flow} {h₀ : Heap} {L I : Addr} {s₁ s : Shared} {it : Obj} {J : (PySem.Str → Option Value) → Led → Prop} {Q : Flow → Shared → Prop} {E : Value → Shared → Prop}
    (h : ∀ (Q' : Flow → Shared → Prop), wpAny M A t (LPost h₀ L s₁ I it J Q') E s) : wpAny M A t (LPost h₀ L s₁ I it J Q) E s := h _
def sizeP (sg : List (List Nat)) (T DS : Addr) (rS : Txts) (nS : Nat) (i : Nat) (c : Txts × Nat) (led : Led) : Prop :=
  led = [(T, listOf (sv c.1).toArray c.2), (DS, listOf (sv rS).toArray nS)] ∧ c.1.map (·.1) = growN sg i
def added (size : Nat) (sg : List (List Nat)) (p : List (List Nat)) : List (List Nat) := (p.filter fun t => t.length == size).flatMap fun t => sg.map (t ++ ·)
theorem added_len (size : Nat) (sg p : List (List Nat)) (h : sg.length = 4) : (added size sg p).length ≤ 4 * p.length := by
  induction p with
  | nil => simp [added]
  | cons t r ih =>
    unfold added at ih ⊢
    rw [List.filter_cons, List.length_cons]
    split
    · rw [List.flatMap_cons, List.length_append, List.length_map, h]; omega
    · omega
theorem added_snoc (size : Nat) (sg p : List (List Nat)) (t : List Nat) : added size sg (p ++ [t]) = added size sg p ++ if t.length = size then sg.map (t ++ ·) else [] := by
  unfold added
  rw [List.filter_append, List.flatMap_append]
  congr 1
  by_cases h : t.length = size
  · simp [List.filter_cons, h]
  · simp [List.filter_cons, h]
def textsP (size : Nat) (sg base : List (List Nat)) (cp : Txts) (D2 I T DS : Addr) (it : Obj) (rS : Txts) (nS : Nat) (pre rest : List Value) (c : Txts × Nat) (led : Led) : Prop :=
  ∃ p q, pre = sv p ∧ rest = sv q ∧ cp = p ++ q ∧ led = [(D2, listOf (sv cp).toArray 0), (I, it), (T, listOf (sv c.1).toArray c.2), (DS, listOf (sv rS).toArray nS)] ∧ c.1.map (·.1) = base ++ added size sg (p.map (·.1))
def signsP (z : List Nat) (start : List (List Nat)) (I2 D2 I T DS : Addr) (it2 it : Obj) (cp rS : Txts) (nS : Nat) (pre rest : List Value) (c : Txts × Nat) (led : Led) : Prop :=
  ∃ p q, pre = sv p ∧ rest = sv q ∧ rS = p ++ q ∧ led = [(I2, it2), (D2, listOf (sv cp).toArray 0), (I, it), (T, listOf (sv c.1).toArray c.2), (DS, listOf (sv rS).toArray nS)] ∧ c.1.map (·.1) = start ++ (p.map (·.1)).map (z ++ ·)
end Mine
end
section
open PySem PySem.W PyProof.Rows PySem.Calls
set_option Elab.async false
set_option linter.unusedVariables false
set_option linter.unusedSimpArgs false
set_option maxRecDepth 100000
set_option maxHeartbeats 8000000
namespace Mine
local macro_rules | `(tactic| walk_at "getMethod str") => `(tactic| ((with_reducible refine getm_translate ?_)))
local macro_rules | `(tactic| walk_at "eval Constant int") => `(tactic| (refine const_int_t ?_; intro t' k'))
local macro_rules | `(tactic| walk_at "binaryOp Add int int") => `(tactic| (refine add_int_t ?_; intro t' k'))
local macro_rules | `(tactic| walk_at "binaryOp Sub int int") => `(tactic| (refine sub_int_t ?_; intro t' k'))
local macro_rules | `(tactic| walk_at "len") => `(tactic| first | omega | (simp only [List.length_append, List.length_cons, List.length_nil, List.length_take, List.length_drop, quoteL]; omega) | (refine Nat.le_trans (Nat.add_le_add (cutL_le _ _ _) (Nat.le_refl _)) ?_; (simp only [List.length_append, List.length_cons, List.length_nil, quoteL]); omega))
local macro_rules | `(tactic| walk_at "lit") => `(tactic| with_reducible (first | exact lit_eq | exact lit_empty | exact lit_ws | exact lit_crlf | exact lit_tab | exact lit_sp | exact lit_lf | exact lit_cr | exact lit_k | exact lit_q20 | exact lit_q09 | exact lit_hex | rfl))
local macro_rules | `(tactic| walk_at "truthy str") => `(tactic| (refine' truthy_S ?a ?_; (case a => walk_at "len"); intro k'))
local macro_rules | `(tactic| walk_at "eval Constant str") => `(tactic| (refine' lit_S ?a ?_; (case a => walk_at "lit")))
local macro_rules | `(tactic| walk_at "binaryOp Add str str") => `(tactic| (refine' add_S ?a ?_; (case a => walk_at "len"); intro t' k'))
local macro_rules | `(tactic| walk_at "call builtin:len") => `(tactic| ((with_reducible show wpAny _ _ (call (Value.builtin _) [Value.str _ _]) _ _ _); refine' len_S ?a ?_; (case a => walk_at "len"); intro t' k'))
local macro_rules | `(tactic| walk_at "compareOp In str str") => `(tactic| (refine' in_E ?a ?_; (case a => walk_at "lit")))
local macro_rules | `(tactic| walk_at "compareOp Eq str str") => `(tactic| (refine eq_S ?_))
local macro_rules | `(tactic| walk_at "call builtin:str.translate") => `(tactic| (refine' call_translate (by assumption) ?l ?x ?n ?z ?_; (case l => exact ⟨_, Frag.In.keeps (by k_asm) (Fr.keep (by k_asm)) _ _ (by assumption), rfl, _, rfl⟩); (case x => (rw [S_cps]; assumption)); (case n => (rw [S_len]; simpa using (by assumption))); (case z => rw [S_len]; omega); rw [S_cps]; intro t' k'))
local macro_rules | `(tactic| walk_at "item") => `(tactic| first
  | ((with_reducible show wpAny _ _ (subscriptTail _ _ (Value.str (S _) _) (Value.int _ _)) _ _ _); first
    | (refine' last_S ?ne ?c ?_; (case ne => first | assumption | exact ne_of_isEmpty (by assumption)); (case c => walk_at "len"); intro t' k')
    | (refine' item_S ?a ?b ?c ?_; (case a => omega); (case b => omega); (case c => walk_at "len"); intro t' k'))
  | ((with_reducible show wpAny _ _ (subscriptTail _ _ (Value.str (PySem.Str.ofString _) _) (Value.int _ _)) _ _ _); (refine' item_E ?e ?a ?b ?c ?_; (case e => walk_at "lit"); (case a => walk_at "idx"); (case b => walk_at "idx"); (case c => decide); intro t' k')))
local macro_rules | `(tactic| walk_at "idx") => `(tactic| ((try simp only [List.length_cons, List.length_nil]); (try simp (disch := omega) only [Int.fdiv_eq_ediv_of_nonneg, Int.fmod_eq_emod_of_nonneg]); omega))
local macro_rules | `(tactic| walk_at "subscriptTail Name UnaryOp str int") => `(tactic| walk_at "item")
local macro_rules | `(tactic| walk_at "subscriptTail Name Name str int") => `(tactic| walk_at "item")
local macro_rules | `(tactic| walk_at "subscriptTail Name Constant str int") => `(tactic| walk_at "item")
local macro_rules | `(tactic| walk_at "subscriptTail Name BinOp str int") => `(tactic| walk_at "item")
local macro_rules | `(tactic| walk_at "subscriptTail Name Slice str ref") => `(tactic| first
  | ((with_reducible show wpAny _ _ (subscriptTail _ (Expr.Slice none (some _) none _) _ _) _ _ _); (refine' slice_ns ?F ?N ?c ?_; (case F => k_asm); (case N => k_asm); (case c => walk_at "len"); intro h' t' k' F' N'; (try k_sweep)))
  | ((with_reducible show wpAny _ _ (subscriptTail _ (Expr.Slice (some _) none none _) _ _) _ _ _); (refine' slice_sn ?F ?N ?c ?_; (case F => k_asm); (case N => k_asm); (case c => walk_at "len"); intro h' t' k' F' N'; (try k_sweep)))
  | ((with_reducible show wpAny _ _ (subscriptTail _ (Expr.Slice (some _) (some _) none _) _ _) _ _ _); (refine' slice_ss ?F ?N ?c ?_; (case F => k_asm); (case N => k_asm); (case c => walk_at "len"); intro h' t' k' F' N'; (try k_sweep))))
local macro_rules | `(tactic| walk_at "call ref") => `(tactic| ((with_reducible show wpAny _ _ (call (Value.ref _) [_]) _ _ _); k_dflt (refine' callA ?F ?N ?m ?U ?_ ?z; (case F => k_asm); (case N => k_asm); (case m => k_mem); (case U => k_upd); (case z => walk_at "room")); intro h' F' N'; (try k_sweep)))
local macro_rules | `(tactic| walk_at "halt") => `(tactic| ((fail_if_success (with_reducible show wpAny _ _ (pyIter _) _ _ _)); (fail_if_success (with_reducible show wpAny _ _ (exec (Stmt.While _ _ _ _) _) _ _ _)); (fail_if_success (with_reducible show wpAny _ _ (newList _) _ _ _)); (fail_if_success (with_reducible show wpAny _ _ (getAttr (Value.ref _) (PySem.Str.ofString "append") _) _ _ _)); (fail_if_success (with_reducible show wpAny _ _ (call (Value.builtin "str.splitlines") _) _ _ _)); (fail_if_success (with_reducible show wpAny _ _ (call (Value.builtin "str.join") _) _ _ _))))
local macro_rules | `(tactic| walk_at "go") => `(tactic| repeat' (first | (k_unfold; (try dsimp only)) | (walk_at "halt"; (first | walk1 | (dsimp only; walk1) | (leave1; walk_say "STEP leave1"; try dsimp only)))))
local macro_rules | `(tactic| k_all) => `(tactic| exact led_ne (by assumption))
local macro_rules | `(tactic| walk_at "callWith ref") => `(tactic| ((with_reducible show wpAny _ _ (callWith _ (Value.ref _) _ (backTo _ (starEach (_ :: _) _)) []) _ _ _); k_dflt (refine' callWith_A ?N ?m ?_; (case N => k_asm); (case m => k_mem))))
local macro_rules | `(tactic| walk_at "And") => `(tactic| ((with_reducible show StandsA _ _ _ ∧ _); refine ⟨standsA_of (by k_asm) (by k_mem), ?_⟩; (try dsimp only [List.nil_append, List.cons_append])))
local macro_rules | `(tactic| walk_at "names") => `(tactic| (intro z hz; (simp only [List.contains_cons, List.contains_nil, Bool.or_false, Bool.or_eq_false_iff, beq_eq_false_iff_ne, ne_eq] at hz); (simp only [List.contains_cons, List.contains_nil, Bool.or_false, Bool.or_eq_true, beq_iff_eq, hz, or_self, if_false]); (try rfl)))
local macro_rules | `(tactic| walk_at "StandsA") => `(tactic| exact standsA_of (by k_asm) (by k_mem))
local macro_rules | `(tactic| walk_at "room") => `(tactic| (rw [List.size_toArray, sv_len]; exact Nat.le_trans (by assumption) (by decide : 100000 ≤ sizeLine)))
theorem off_same {I : Addr} {l l' : Led} (h : ∀ p ∈ l, p.1 ≠ I) (e : l'.map (·.1) = l.map (·.1)) : ∀ p ∈ l', p.1 ≠ I := fun p hp => by
  have : p.1 ∈ l.map (·.1) := e ▸ List.mem_map_of_mem hp
  obtain ⟨q, hq, e2⟩ := List.mem_map.mp this
  rw [← e2]; exact h q hq
theorem sv_nil {q : Txts} (h : ([] : List Value) = sv q) : q = [] := by
  cases q with
  | nil => rfl
  | cons a r => cases h
theorem sv_same {p q : Txts} {x : Txts} (hp : sv x = sv p) (h : ([] : List Value) = sv q) (e : x = p ++ q) : x = p := by
  rw [e, sv_nil h, List.append_nil]
theorem growN_succ (sg : List (List Nat)) (i : Nat) : growN sg i ++ added i sg (growN sg i) = growN sg (i + 1) := rfl
theorem lit_e000 : PySem.Str.ofString "\ue000" = S [57344] := by decide +kernel
theorem ne_S_same {prog : Program} {w : World} {A : Around} {E : Value → Shared → Prop} {hp : Heap} {gn : Array GenState} {dr : Drawn} {tk : Nat} {os : OsState} {t u : Tok} {a : List Nat} {Q : Value → Shared → Prop} (h : Q (.bool false) ⟨hp, gn, dr, tk, os⟩) : wpAny (model prog w) A (compareOp .NotEq (.str (S a) t) (.str (S a) u)) Q E ⟨hp, gn, dr, tk, os⟩ :=
  ne_S (by rw [decide_eq_true rfl]; exact h)
theorem join_key {prog : Program} {w : World} {A : Around} {E : Value → Shared → Prop} {hp : Heap} {gn : Array GenState} {dr : Drawn} {tk : Nat} {os : OsState} {t : Tok} {h₀ : Heap} {L : Addr} {news : Led} {Q : Value → Shared → Prop} {D : Addr} {n : Nat} {l : Txts} {z : List Nat} (hN : News h₀ L hp news) (hD : (D, listOf (sv l).toArray n) ∈ news) (hy : l.map (·.1) = rowsL z) (hw : weight (rowsL z) ≤ 200000)
    (h : ∀ t' k, Q (.str (S (keyL z)) t') ⟨hp, gn, dr, k, os⟩) : wpAny (model prog w) A (call (.builtin "str.join") [.str (S [57344]) t, .ref D]) Q E ⟨hp, gn, dr, tk, os⟩ :=
  join_S hN hD hy (by decide) hw h
theorem get_same {prog : Program} {w : World} {A : Around} {E : Value → Shared → Prop} {hp : Heap} {gn : Array GenState} {dr : Drawn} {tk : Nat} {os : OsState} {h₀ : Heap} {L d : Addr} {news : Led} {o : Obj} {kvs : List (PySem.Str × Value)} {k y : PySem.Str} {t u : Tok} {Q : Value → Shared → Prop}
    (N : News h₀ L hp news) (hm : (d, o) ∈ news) (hd : o.IsDictOf (PySem.strKind prog w) kvs) (lo : (d == sysModules) = false) (x : ∃ t', (valueAt kvs k).getD (.str y u) = .str y t')
    (h : ∀ t' k, Q (.str y t') ⟨hp, gn, dr, k, os⟩) : wpAny (model prog w) A (call (.builtin "dict.get") [.ref d, .str k t, .str y u]) Q E ⟨hp, gn, dr, tk, os⟩ := by
  obtain ⟨t', e⟩ := x
  exact kdg_get2 (knd := PySem.strKind prog w) (s := ⟨hp, gn, dr, tk, os⟩) N hm hd lo (strKind_is _ _ _ _) _ rfl (by rw [e]; exact h _ _)
theorem get_m {prog : Program} {w : World} {A : Around} {E : Value → Shared → Prop} {hp : Heap} {gn : Array GenState} {dr : Drawn} {tk : Nat} {os : OsState} {h₀ : Heap} {L d : Addr} {news : Led} {o : Obj} {kvs : List (PySem.Str × Value)} {pl : Sem Bool} {Q : Value × List Value → Shared → Prop}
    (N : News h₀ L hp news) (hm : (d, o) ∈ news) (hd : o.IsDictOf (PySem.strKind prog w) kvs) (h : Q (.builtin "dict.get", [.ref d]) ⟨hp, gn, dr, tk, os⟩) : wpAny (model prog w) A (getMethod (.ref d) "get" pl) Q E ⟨hp, gn, dr, tk, os⟩ :=
  kdg_method (knd := PySem.strKind prog w) (s := ⟨hp, gn, dr, tk, os⟩) N hm hd h
theorem dict_len {prog : Program} {w : World} {A : Around} {E : Value → Shared → Prop} {hp : Heap} {gn : Array GenState} {dr : Drawn} {tk : Nat} {os : OsState} {h₀ : Heap} {L d : Addr} {news : Led} {o : Obj} {kvs : List (PySem.Str × Value)} {Q : Value → Shared → Prop}
    (N : News h₀ L hp news) (hm : (d, o) ∈ news) (hd : o.IsDictOf (PySem.strKind prog w) kvs) (lo : (d == sysModules) = false) (hsz : kvs.length ≤ 100000) (h : ∀ t' k, Q (.int (kvs.length : Int) t') ⟨hp, gn, dr, k, os⟩) : wpAny (model prog w) A (call (.builtin "len") [.ref d]) Q E ⟨hp, gn, dr, tk, os⟩ :=
  kda_len (knd := PySem.strKind prog w) (s := ⟨hp, gn, dr, tk, os⟩) N hm hd lo (Nat.le_trans hsz (by decide)) (h _ _)
theorem dict_set {prog : Program} {w : World} {A : Around} {E : Value → Shared → Prop} {hp : Heap} {gn : Array GenState} {dr : Drawn} {tk : Nat} {os : OsState} {h₀ : Heap} {L d : Addr} {m : PySem.Str → Option Value} {news : Led} {g : Obj → Led} {o : Obj} {kvs : List (PySem.Str × Value)} {k : PySem.Str} {t : Tok} {v : Value} {Q : Unit → Shared → Prop}
    (F : Fr h₀ L hp m) (N : News h₀ L hp news) (U : UpdF d o news g) (hd : o.IsDictOf (PySem.strKind prog w) kvs) (hsz : kvs.length ≤ 100000)
    (h : ∀ h' o' k', Fr h₀ L h' m → News h₀ L h' (g o') → o'.IsDictOf (PySem.strKind prog w) (stored kvs k v) → Q () ⟨h', gn, dr, k', os⟩) : wpAny (model prog w) A (setItem (.ref d) (.str k t) v) Q E ⟨hp, gn, dr, tk, os⟩ :=
  kda_set (knd := PySem.strKind prog w) (s := ⟨hp, gn, dr, tk, os⟩) F N U hd (strKind_is _ _ _ _) (Nat.le_trans hsz (by decide)) fun h' o' F' N' hd' => h h' o' _ F' N' hd'
/-- the state of the last loop: both dicts -/
def lastP (prog : Program) (w : World) (wr : List Nat → List Nat) (tx : Txts) (ntx : Nat) (rS : Txts) (nS : Nat) (DR DW T DS : Addr) (pre rest : List Value) (c : Obj × List (PySem.Str × Value) × Obj × List (PySem.Str × Value)) (led : Led) : Prop :=
  ∃ p q, pre = sv p ∧ rest = sv q ∧ tx = p ++ q ∧ led = [(DR, c.2.2.1), (DW, c.1), (T, listOf (sv tx).toArray ntx), (DS, listOf (sv rS).toArray nS)] ∧ c.1.IsDictOf (PySem.strKind prog w) c.2.1 ∧ c.2.2.1.IsDictOf (PySem.strKind prog w) c.2.2.2 ∧ DInv wr (p.map (·.1)) c.2.1 c.2.2.2 ∧ c.2.1.length ≤ p.length
theorem put_le {K : Type} [DecidableEq K] (kvs : List (K × Value)) (k : K) (v : Value) {n : Nat} (h : kvs.length ≤ n) : (stored kvs k v).length ≤ n + 1 := by
  rw [put_len]; split <;> omega
theorem lfold_weight (p : Nat → Bool) : ∀ (t : List Nat) (s : LSt), weight (t.foldl (lstep p) s).1 + (t.foldl (lstep p) s).2.1.length ≤ weight s.1 + s.2.1.length + t.length
  | [], s => Nat.le_refl _
  | c :: r, s => by
    have ih := lfold_weight p r (lstep p s c)
    rw [List.foldl_cons, List.length_cons]
    have h : weight (lstep p s c).1 + (lstep p s c).2.1.length ≤ weight s.1 + s.2.1.length + 1 := by
      unfold lstep
      split
      · exact Nat.le_succ _
      · split
        · simp only [weight_append, weight_cons, weight_nil, List.length_nil]; omega
        · simp only [List.length_append, List.length_singleton]; omega
    omega
theorem rowsL_weight (t : List Nat) : weight (rowsL t) ≤ t.length + 2 := by
  have h := lfold_weight isBrk t ([], [], false)
  unfold rowsL linesL lend
  rw [weight_append]
  have h1 : weight (if lastNl t = true then [[]] else [] : List (List Nat)) ≤ 1 := by split <;> simp [weight]
  have h2 : weight (if (lfold isBrk t).2.1 = [] then (lfold isBrk t).1 else (lfold isBrk t).1 ++ [(lfold isBrk t).2.1]) ≤ t.length + 1 := by
    unfold lfold
    simp only [weight_nil, List.length_nil] at h
    split
    · omega
    · rw [weight_append, weight_cons, weight_nil]; omega
  omega
theorem noSep {t : List Nat} (h : ∀ c ∈ t, Sgn c) : 57344 ∉ t := fun hm => absurd (h _ hm) (by unfold Sgn; decide)
end Mine
end
section
open PySem PySem.W PyProof.Rows PySem.Calls
set_option Elab.async false
set_option linter.unusedVariables false
set_option linter.unusedSimpArgs false
set_option maxRecDepth 100000
set_option maxHeartbeats 8000000
namespace Mine
local macro_rules | `(tactic| walk_at "getMethod str") => `(tactic| ((with_reducible refine getm_translate ?_)))
local macro_rules | `(tactic| walk_at "eval Constant int") => `(tactic| (refine const_int_t ?_; intro t' k'))
local macro_rules | `(tactic| walk_at "binaryOp Add int int") => `(tactic| (refine add_int_t ?_; intro t' k'))
local macro_rules | `(tactic| walk_at "binaryOp Sub int int") => `(tactic| (refine sub_int_t ?_; intro t' k'))
local macro_rules | `(tactic| walk_at "len") => `(tactic| first | omega | (simp only [List.length_append, List.length_cons, List.length_nil, List.length_take, List.length_drop, quoteL]; omega) | (refine Nat.le_trans (Nat.add_le_add (cutL_le _ _ _) (Nat.le_refl _)) ?_; (simp only [List.length_append, List.length_cons, List.length_nil, quoteL]); omega))
local macro_rules | `(tactic| walk_at "lit") => `(tactic| with_reducible (first | exact lit_eq | exact lit_empty | exact lit_ws | exact lit_crlf | exact lit_tab | exact lit_sp | exact lit_lf | exact lit_cr | exact lit_k | exact lit_q20 | exact lit_q09 | exact lit_hex | rfl))
local macro_rules | `(tactic| walk_at "truthy str") => `(tactic| (refine' truthy_S ?a ?_; (case a => walk_at "len"); intro k'))
local macro_rules | `(tactic| walk_at "eval Constant str") => `(tactic| (refine' lit_S ?a ?_; (case a => walk_at "lit")))
local macro_rules | `(tactic| walk_at "binaryOp Add str str") => `(tactic| (refine' add_S ?a ?_; (case a => walk_at "len"); intro t' k'))
local macro_rules | `(tactic| walk_at "call builtin:len") => `(tactic| ((with_reducible show wpAny _ _ (call (Value.builtin _) [Value.str _ _]) _ _ _); refine' len_S ?a ?_; (case a => walk_at "len"); intro t' k'))
local macro_rules | `(tactic| walk_at "compareOp In str str") => `(tactic| (refine' in_E ?a ?_; (case a => walk_at "lit")))
local macro_rules | `(tactic| walk_at "compareOp Eq str str") => `(tactic| (refine eq_S ?_))
local macro_rules | `(tactic| walk_at "call builtin:str.translate") => `(tactic| (refine' call_translate (by assumption) ?l ?x ?n ?z ?_; (case l => exact ⟨_, Frag.In.keeps (by k_asm) (Fr.keep (by k_asm)) _ _ (by assumption), rfl, _, rfl⟩); (case x => (rw [S_cps]; assumption)); (case n => (rw [S_len]; simpa using (by assumption))); (case z => rw [S_len]; omega); rw [S_cps]; intro t' k'))
local macro_rules | `(tactic| walk_at "item") => `(tactic| first
  | ((with_reducible show wpAny _ _ (subscriptTail _ _ (Value.str (S _) _) (Value.int _ _)) _ _ _); first
    | (refine' last_S ?ne ?c ?_; (case ne => first | assumption | exact ne_of_isEmpty (by assumption)); (case c => walk_at "len"); intro t' k')
    | (refine' item_S ?a ?b ?c ?_; (case a => omega); (case b => omega); (case c => walk_at "len"); intro t' k'))
  | ((with_reducible show wpAny _ _ (subscriptTail _ _ (Value.str (PySem.Str.ofString _) _) (Value.int _ _)) _ _ _); (refine' item_E ?e ?a ?b ?c ?_; (case e => walk_at "lit"); (case a => walk_at "idx"); (case b => walk_at "idx"); (case c => decide); intro t' k')))
local macro_rules | `(tactic| walk_at "idx") => `(tactic| ((try simp only [List.length_cons, List.length_nil]); (try simp (disch := omega) only [Int.fdiv_eq_ediv_of_nonneg, Int.fmod_eq_emod_of_nonneg]); omega))
local macro_rules | `(tactic| walk_at "subscriptTail Name UnaryOp str int") => `(tactic| walk_at "item")
local macro_rules | `(tactic| walk_at "subscriptTail Name Name str int") => `(tactic| walk_at "item")
local macro_rules | `(tactic| walk_at "subscriptTail Name Constant str int") => `(tactic| walk_at "item")
local macro_rules | `(tactic| walk_at "subscriptTail Name BinOp str int") => `(tactic| walk_at "item")
local macro_rules | `(tactic| walk_at "subscriptTail Name Slice str ref") => `(tactic| first
  | ((with_reducible show wpAny _ _ (subscriptTail _ (Expr.Slice none (some _) none _) _ _) _ _ _); (refine' slice_ns ?F ?N ?c ?_; (case F => k_asm); (case N => k_asm); (case c => walk_at "len"); intro h' t' k' F' N'; (try k_sweep)))
  | ((with_reducible show wpAny _ _ (subscriptTail _ (Expr.Slice (some _) none none _) _ _) _ _ _); (refine' slice_sn ?F ?N ?c ?_; (case F => k_asm); (case N => k_asm); (case c => walk_at "len"); intro h' t' k' F' N'; (try k_sweep)))
  | ((with_reducible show wpAny _ _ (subscriptTail _ (Expr.Slice (some _) (some _) none _) _ _) _ _ _); (refine' slice_ss ?F ?N ?c ?_; (case F => k_asm); (case N => k_asm); (case c => walk_at "len"); intro h' t' k' F' N'; (try k_sweep))))
local macro_rules | `(tactic| walk_at "call ref") => `(tactic| ((with_reducible show wpAny _ _ (call (Value.ref _) [_]) _ _ _); k_dflt (refine' callA ?F ?N ?m ?U ?_ ?z; (case F => k_asm); (case N => k_asm); (case m => k_mem); (case U => k_upd); (case z => walk_at "room")); intro h' F' N'; (try k_sweep)))
local macro_rules | `(tactic| walk_at "halt") => `(tactic| ((fail_if_success (with_reducible show wpAny _ _ (pyIter _) _ _ _)); (fail_if_success (with_reducible show wpAny _ _ (exec (Stmt.While _ _ _ _) _) _ _ _)); (fail_if_success (with_reducible show wpAny _ _ (newList _) _ _ _)); (fail_if_success (with_reducible show wpAny _ _ (getAttr (Value.ref _) (PySem.Str.ofString "append") _) _ _ _)); (fail_if_success (with_reducible show wpAny _ _ (call (Value.builtin "str.splitlines") _) _ _ _)); (fail_if_success (with_reducible show wpAny _ _ (call (Value.builtin "str.join") _) _ _ _))))
local macro_rules | `(tactic| walk_at "go") => `(tactic| repeat' (first | (k_unfold; (try dsimp only)) | (walk_at "halt"; (first | walk1 | (dsimp only; walk1) | (leave1; walk_say "STEP leave1"; try dsimp only)))))
local macro_rules | `(tactic| k_all) => `(tactic| exact led_ne (by assumption))
local macro_rules | `(tactic| walk_at "callWith ref") => `(tactic| ((with_reducible show wpAny _ _ (callWith _ (Value.ref _) _ (backTo _ (starEach (_ :: _) _)) []) _ _ _); k_dflt (refine' callWith_A ?N ?m ?_; (case N => k_asm); (case m => k_mem))))
local macro_rules | `(tactic| walk_at "And") => `(tactic| ((with_reducible show StandsA _ _ _ ∧ _); refine ⟨standsA_of (by k_asm) (by k_mem), ?_⟩; (try dsimp only [List.nil_append, List.cons_append])))
local macro_rules | `(tactic| walk_at "names") => `(tactic| (intro z hz; (simp only [List.contains_cons, List.contains_nil, Bool.or_false, Bool.or_eq_false_iff, beq_eq_false_iff_ne, ne_eq] at hz); (simp only [List.contains_cons, List.contains_nil, Bool.or_false, Bool.or_eq_true, beq_iff_eq, hz, or_self, if_false]); (try rfl)))
local macro_rules | `(tactic| walk_at "StandsA") => `(tactic| exact standsA_of (by k_asm) (by k_mem))
local macro_rules | `(tactic| walk_at "room") => `(tactic| (rw [List.size_toArray, sv_len]; exact Nat.le_trans (by assumption) (by decide : 100000 ≤ sizeLine)))
theorem fill_G3 : Challenge.rw_dm5003_02 = Challenge.rw_dm5003_02 ∧ hd2.heap_39 = hd2.heap_39 := by
  k_fill
  exact ⟨rfl, rfl⟩
local macro_rules | `(tactic| walk_at "fine") => `(tactic| first | assumption | exact fine_nil)
local macro_rules | `(tactic| walk_at "mem") => `(tactic| first | assumption | exact .head _ | (refine .tail _ ?_; walk_at "mem"))
local macro_rules | `(tactic| walk_at "cut use") => `(tactic| ((case B => k_asm); (case F => k_asm); (case X => k_asm); (case N => k_asm); (case pre => walk_at "mem"); (case T => k_asm); (case hk => exact rfl); (case hd => ktr_room); (case hu => ktr_units)))
local macro_rules | `(tactic| walk_at "weight") => `(tactic| first | assumption | omega)
local macro_rules | `(tactic| walk_at "call ref") => `(tactic| ((with_reducible show wpAny _ _ (call (Value.ref 79) _) _ _ _); k_dflt (refine' cut_useB (white1 _ _ ?fl _ _ ?hw) ?B ?F ?X ?N ?T ?hk ?pre ?hd ?hu ?_; walk_at "cut use"; (case fl => walk_at "fine"); (case hw => walk_at "weight")); intro h' k' F' N'; (try k_sweep)))
local macro_rules | `(tactic| walk_at "call ref") => `(tactic| ((with_reducible show wpAny _ _ (call (Value.ref 72) _) _ _ _); k_dflt (refine' cut_useI (size1 _ _ _ _ ?hw) ?B ?F ?X ?N ?T ?hk ?pre ?hd ?hu ?_; walk_at "cut use"; (case hw => walk_at "weight")); intro t' h' k' F' N'; (try k_sweep)))
local macro_rules | `(tactic| walk_at "halt") => `(tactic| ((fail_if_success (with_reducible show wpAny _ _ (pyIter _) _ _ _)); (fail_if_success (with_reducible show wpAny _ _ (exec (Stmt.While _ _ _ _) _) _ _ _)); (fail_if_success (with_reducible show wpAny _ _ (newList _) _ _ _)); (fail_if_success (with_reducible show wpAny _ _ (getAttr (Value.ref _) (PySem.Str.ofString "append") _) _ _ _))))
local macro_rules | `(tactic| walk_at "call builtin:str.join") => `(tactic| (k_dflt (refine' join0_S ?N ?D ?w ?_; (case N => k_asm); (case D => walk_at "mem"); (case w => walk_at "weight")); intro t' k'))
local macro_rules | `(tactic| walk_at "short") => `(tactic| first | assumption | omega)
local macro_rules | `(tactic| walk_at "subscriptTail Name Slice ref ref") => `(tactic| first
  | ((with_reducible show wpAny _ _ (subscriptTail _ (Expr.Slice none (some _) none _) _ _) _ _ _); k_dflt (refine' sliceL_upto1 ?F ?N ?a ?z ?_; (case F => k_asm); (case N => k_asm); (case a => walk_at "mem"); (case z => walk_at "short")); intro D' h' F' N' l1; (try k_sweep))
  | ((with_reducible show wpAny _ _ (subscriptTail _ (Expr.Slice (some _) none none _) _ _) _ _ _); k_dflt (refine' sliceL_from1 ?F ?N ?a ?z ?_; (case F => k_asm); (case N => k_asm); (case a => walk_at "mem"); (case z => walk_at "short")); intro D' h' F' N' l1; (try k_sweep)))
local macro_rules | `(tactic| walk_at "lastitem") => `(tactic| first | assumption | (rename white _ = true => hwh; exact last_white hwh))
local macro_rules | `(tactic| walk_at "subscriptTail Name UnaryOp ref int") => `(tactic| (k_dflt (refine' getLast_L ?N ?a ?z ?_; (case N => k_asm); (case a => walk_at "mem"); (case z => walk_at "lastitem")); intro t'))
local macro_rules | `(tactic| walk_at "newL") => `(tactic| ((first
  | k_dflt (refine' newL [(_, _)] ?e ?z ?F ?N ?_; (case e => exact rfl); (case z => exact Nat.le_of_ble_eq_true rfl); (case F => k_asm); (case N => k_asm))
  | k_dflt (refine' newL [(_, _), (_, _)] ?e ?z ?F ?N ?_; (case e => exact rfl); (case z => exact Nat.le_of_ble_eq_true rfl); (case F => k_asm); (case N => k_asm))); intro en h1 F1 N1 hen; (try k_sweep)))
local macro_rules | `(tactic| walk_at "inplaceOp Add str str") => `(tactic| (refine' iadd_S ?a ?_; (case a => walk_at "len"); intro t' k'))
local macro_rules | `(tactic| walk_at "item0") => `(tactic| first | exact rfl | assumption)
local macro_rules | `(tactic| walk_at "subscriptTail Name Constant ref int") => `(tactic| (k_dflt (refine' item_L ?N ?a ?x ?y ?z ?_; (case N => k_asm); (case a => walk_at "mem"); (case x => omega); (case y => omega); (case z => walk_at "item0")); intro t'))
local macro_rules | `(tactic| walk_at "call builtin:list.append") => `(tactic| ((with_reducible show wpAny _ _ (call (Value.builtin _) [_, _]) _ _ _); k_dflt (refine' append_L ?F ?N ?U ?_ ?z; (case F => k_asm); (case N => k_asm); (case U => k_upd); (case z => walk_at "room")); intro h' F' N'; (try k_sweep)))
local macro_rules | `(tactic| walk_at "halt7") => `(tactic| ((fail_if_success (with_reducible show wpAny _ _ (pyIter _) _ _ _)); (fail_if_success (with_reducible show wpAny _ _ (exec (Stmt.While _ _ _ _) _) _ _ _)); (fail_if_success (with_reducible show Join _ _ _ _ _ _ _ _ _ _)); (fail_if_success (with_reducible show NextTo _ _ _)); (fail_if_success (with_reducible show wpAny _ _ (execs (Stmt.Assign _ (Expr.Subscript (Expr.Name _ _) (Expr.BinOp _ _ _ _) _) _ :: _) _) _ _ _)); (fail_if_success (with_reducible show wpAny _ _ (eval (Expr.IfExp _ _ _ _) _) _ _ _))))
local macro_rules | `(tactic| walk_at "go7") => `(tactic| repeat' (first | (k_unfold; (try dsimp only)) | (walk_at "halt7"; (first | walk1 | (dsimp only; walk1) | (leave1; walk_say "STEP leave1"; try dsimp only)))))
local macro_rules | `(tactic| walk_at "compareOp NotEq str str") => `(tactic| (refine ne_S ?_))
local macro_rules | `(tactic| walk_at "call builtin:len") => `(tactic| ((with_reducible show wpAny _ _ (call (Value.builtin _) [Value.ref _]) _ _ _); k_dflt (refine' len_L ?N ?a ?z ?_; (case N => k_asm); (case a => walk_at "mem"); (case z => walk_at "short")); intro t' k'))
local macro_rules | `(tactic| walk_at "weight") => `(tactic| first | assumption | omega | ((simp only [List.map_append, weight_append, List.map_cons, List.map_nil, weight_cons, weight_nil, List.length_nil]); omega))
local macro_rules | `(tactic| walk_at "call builtin:str.join") => `(tactic| (k_dflt (refine' join_S ?N ?D rfl ?e ?w ?_; (case N => k_asm); (case D => walk_at "mem"); (case e => omega); (case w => walk_at "weight")); intro t' k'))
local macro_rules | `(tactic| walk_at "short") => `(tactic| first | assumption | omega | ((simp only [List.length_append, List.length_cons, List.length_nil]); omega))
local macro_rules | `(tactic| walk_at "short") => `(tactic| first | assumption | omega | ((simp only [List.length_append, List.length_cons, List.length_nil, List.length_replicate]; omega)))
local macro_rules | `(tactic| walk_at "len") => `(tactic| first | omega | (simp only [List.length_append, List.length_cons, List.length_nil, List.length_replicate]; omega))
local macro_rules | `(tactic| walk_at "go8") => `(tactic| repeat' (first | (k_unfold; (try dsimp only)) | (walk_at "halt8"; (first | ((with_reducible show wpAny _ _ (call (Value.ref _) _) _ _ _); walk_at "ours") | ((fail_if_success (with_reducible show wpAny _ _ (call (Value.ref _) _) _ _ _)); (first | walk1 | (dsimp only; walk1) | (leave1; walk_say "STEP leave1"; try dsimp only)))))))
local macro_rules | `(tactic| walk_at "halt8") => `(tactic| ((fail_if_success (with_reducible show wpAny _ _ (compareOp CmpOp.NotEq (Value.ref _) (Value.ref _)) _ _ _)); (fail_if_success (with_reducible show wpAny _ _ (eval (Expr.ListComp _ _ _ _) _) _ _ _)); (fail_if_success (with_reducible show wpAny _ _ (exec (Stmt.Assign _ (Expr.ListComp _ _ _ _) _) _) _ _ _)); (fail_if_success (with_reducible show LCg.CompSrc _ _ _ _ _ _ _ _ _ _ _ _ _ _)); (fail_if_success (with_reducible show LCg.CompEnd _ _ _ _ _ _ _ _ _ _ _ _ _ _)); (fail_if_success (with_reducible show LPost _ _ _ _ _ _ _ _ _)); (fail_if_success (with_reducible show wpAny _ _ (pyIter _) _ _ _)); (fail_if_success (with_reducible show wpAny _ _ (exec (Stmt.While _ _ _ _) _) _ _ _)); (fail_if_success (with_reducible show Join _ _ _ _ _ _ _ _ _ _))))
local macro_rules | `(tactic| walk_at "ours") => `(tactic| ((with_reducible show wpAny _ _ (call (Value.ref 50) _) _ _ _); k_dflt (refine' cut_useS (body2a _ _ _ _ _ _ _ ?o ?l ?a ?b ?e) ?B ?F ?X ?N ?T ?hk trivial ?hd ?hu ?_; (case B => k_asm); (case F => k_asm); (case X => k_asm); (case N => k_asm); (case T => k_asm); (case hk => exact rfl); (case hd => ktr_room); (case hu => ktr_units); (case o => walk_at "octets"); (case l => walk_at "short"); (case a => omega); (case b => omega); (case e => exact EolOk.len (by assumption))); intro t' h' k' F' N'; (try k_sweep)))
local macro_rules | `(tactic| walk_at "halt9") => `(tactic| ((fail_if_success (with_reducible show wpAny _ _ (pyIter _) _ _ _)); (fail_if_success (with_reducible show Join _ _ _ _ _ _ _ _ _ _)); (fail_if_success (with_reducible show wpAny _ _ (execs (Stmt.Assign _ (Expr.List (Expr.Subscript _ _ _ :: _) _) _ :: _) _) _ _ _)); (fail_if_success (with_reducible show wpAny _ _ (eval (Expr.Subscript (Expr.Tuple _ _ _) _ _) _) _ _ _)); (fail_if_success (with_reducible show wpAny _ _ (eval (Expr.IfExp _ _ _ _) _) _ _ _))))
local macro_rules | `(tactic| walk_at "go9") => `(tactic| repeat' (first | (k_unfold; (try dsimp only)) | (walk_at "halt9"; (first | walk1 | (dsimp only; walk1) | (leave1; walk_say "STEP leave1"; try dsimp only)))))
local macro_rules | `(tactic| walk_at "halt11") => `(tactic| ((fail_if_success (with_reducible show wpAny _ _ (execs (Stmt.For _ _ _ _ _ :: _) _) _ _ _)); (fail_if_success (with_reducible show LPost _ _ _ _ _ _ _ _ _)); (fail_if_success (with_reducible show wpAny _ _ (pyIter _) _ _ _)); (fail_if_success (with_reducible show Join _ _ _ _ _ _ _ _ _ _)); (fail_if_success (with_reducible show wpAny _ _ (execs (Stmt.Assign _ (Expr.List (Expr.Subscript _ _ _ :: _) _) _ :: _) _) _ _ _)); (fail_if_success (with_reducible show wpAny _ _ (eval (Expr.Subscript (Expr.Tuple _ _ _) _ _) _) _ _ _)); (fail_if_success (with_reducible show wpAny _ _ (eval (Expr.IfExp _ _ _ _) _) _ _ _))))
local macro_rules | `(tactic| walk_at "go11") => `(tactic| repeat' (first | (k_unfold; (try dsimp only)) | (walk_at "halt11"; (first | walk1 | (dsimp only; walk1) | (leave1; walk_say "STEP leave1"; try dsimp only)))))
local macro_rules | `(tactic| walk_at "halt10") => `(tactic| ((fail_if_success (with_reducible show wpAny _ _ (pyIter _) _ _ _)); (fail_if_success (with_reducible show Join _ _ _ _ _ _ _ _ _ _))))
local macro_rules | `(tactic| walk_at "go10") => `(tactic| repeat' (first | (k_unfold; (try dsimp only)) | (walk_at "halt10"; (first | walk1 | (dsimp only; walk1) | (leave1; walk_say "STEP leave1"; try dsimp only)))))
local macro_rules | `(tactic| walk_at "sg") => `(tactic| first | exact lit_cr | exact lit_lf | exact lit_2028 | exact lit_2029)
local macro_rules | `(tactic| walk_at "subscriptTail Name Slice ref ref") => `(tactic| (k_dflt (refine' sliceL_all ?F9 ?N9 ?a9 ?z9 ?_; (case F9 => k_asm); (case N9 => k_asm); (case a9 => walk_at "mem"); (case z9 => walk_at "short")); intro D' h' F' N' l1; (try k_lt l1); (try k_sweep)))
local macro_rules | `(tactic| walk_at "ours") => `(tactic| ((with_reducible show wpAny _ _ (call (Value.ref 60) _) _ _ _); k_dflt (refine' cut_useLn (rows2 _ _ ?hl _) ?B ?F ?X ?N ?T ?hk trivial ?hd ?hu ?_; (case B => k_asm); (case F => k_asm); (case X => k_asm); (case N => k_asm); (case T => k_asm); (case hk => exact rfl); (case hd => ktr_room); (case hu => ktr_units); (case hl => omega)); intro D' r' n' h' k' er' F' N' l1; (try k_lt l1); (try k_sweep)))
local macro_rules | `(tactic| walk_at "octets") => `(tactic| assumption)
local macro_rules | `(tactic| walk_at "lit") => `(tactic| with_reducible exact lit_e000)
local macro_rules | `(tactic| walk_at "compareOp NotEq str str") => `(tactic| (with_reducible refine ne_S_same ?_))
local macro_rules | `(tactic| walk_at "halt12") => `(tactic| ((fail_if_success (with_reducible show wpAny _ _ (setItem _ _ _) _ _ _)); (fail_if_success (with_reducible show wpAny _ _ (call (Value.builtin "dict.get") _) _ _ _)); (fail_if_success (with_reducible show wpAny _ _ (call (Value.builtin "str.join") _) _ _ _)); (fail_if_success (with_reducible show wpAny _ _ (getMethod (Value.ref _) _ _) _ _ _)); (fail_if_success (with_reducible show LPost _ _ _ _ _ _ _ _ _)); (fail_if_success (with_reducible show wpAny _ _ (pyIter _) _ _ _))))
local macro_rules | `(tactic| walk_at "go12") => `(tactic| repeat' (first | (k_unfold; (try dsimp only)) | (walk_at "halt12"; (first | ((with_reducible show wpAny _ _ (call (Value.ref _) _) _ _ _); walk_at "ours") | ((fail_if_success (with_reducible show wpAny _ _ (call (Value.ref _) _) _ _ _)); (first | walk1 | (dsimp only; walk1) | (leave1; walk_say "STEP leave1"; try dsimp only)))))))
local macro_rules | `(tactic| walk_at "call builtin:len") => `(tactic| ((with_reducible show wpAny _ _ (call (Value.builtin _) [Value.ref _]) _ _ _); k_dflt (refine' dict_len ?N ?a ?d ?lo ?z ?_; (case N => k_asm); (case a => walk_at "mem"); (case d => with_reducible assumption); (case lo => assumption); (case z => walk_at "short")); intro t' k'))
theorem law2 : PySem.Challenge.rw_dm5003_02.Holds := hd2 (by
  k_go0
  walk_at "go9"
  rename News _ _ _ _ => N1
  rename Fr _ _ _ _ => F1
  refine' join_eval (fun added v => added = [] ∧ ∃ i t, v = .int i t) F1 N1 ?_ ?_
  · walk1
    walk_at "go9"
    · exact Join.int (by k_asm) (by k_asm) (fun p hp => .tail _ hp)
    · rename decide (_ = []) = false => hd9
      rename _ ∨ _ => ho9
      exact absurd (List.length_eq_zero_iff.mp (by omega)) (of_decide_eq_false hd9)
    · exact Join.int (by k_asm) (by k_asm) (fun p hp => .tail _ hp)
  · intro v h2 k2 added F2 N2 hv
    obtain ⟨rfl, f, tf, rfl⟩ := hv
    rw [List.nil_append] at N2
    walk_at "go9"
    rename News _ _ _ _ => N3
    rename Fr _ _ _ _ => F3
    refine' join_eval (fun added v => added = [] ∧ ∃ i t, v = .int i t) F3 N3 ?_ ?_
    · walk1
      walk_at "go9"
      all_goals exact Join.int (by k_asm) (by k_asm) (fun p hp => hp)
    · intro v h4 k4 added F4 N4 hv
      obtain ⟨rfl, f2, tf2, rfl⟩ := hv
      rw [List.nil_append] at N4
      walk_at "go9"
      refine wpAny_execs_cons ?_
      walk1
      rename News _ _ _ _ => N5
      rename Fr _ _ _ _ => F5
      refine' join_eval SgP F5 N5 ?_ ?_
      · have hr1 := fmod_rng f2 (b := 16) (by decide)
        have hr2 := fmod_rng (f2.fdiv 16) (b := 16) (by decide)
        walk_at "go10"
        all_goals
          rename News _ _ _ _ => N9
          exact Join.signs (by k_asm) N9 rfl (by walk_at "sg") (by walk_at "sg") (tab2 _ (by omega)).1 (tab2 _ (by omega)).1 (by first | exact .inl rfl | exact .inr rfl) (by unfold Sgn; decide) (tab2 _ (by omega)).2 (tab2 _ (by omega)).2 (fun p hp => hp)
      · intro v h6 k6 added F6 N6 hv
        obtain ⟨DS, rS, nS, a, b, c, d, rfl, rfl, hrS, ha, hb, hc, hd⟩ := hv
        rw [List.singleton_append] at N6
        walk_at "go9"
        rename News _ _ _ _ => N7
        rename Fr _ _ _ _ => F7
        refine' join_eval (fun added v => added = [] ∧ ∃ e t, EolOk e ∧ v = .str (S e) t) F7 N7 ?_ ?_
        · walk1
          walk_at "go10"
          · exact Join.eol (.inl rfl) (by k_asm) (by k_asm) (fun p hp => .tail _ hp)
          · exact Join.eol (.inr (.inl rfl)) (by k_asm) (by k_asm) (fun p hp => .tail _ hp)
        · intro v h8 k8 added F8 N8 hv
          obtain ⟨rfl, e, te, he, rfl⟩ := hv
          rw [List.nil_append] at N8
          obtain ⟨Ln, hLn, hL4, hL12⟩ : ∃ Ln : Nat, 4 + (f.fdiv 8).fmod 6 = (Ln : Int) ∧ 4 ≤ Ln ∧ Ln ≤ 12 := by
            have h1 := fmod_rng (f.fdiv 8) (b := 6) (by decide)
            exact ⟨(4 + (f.fdiv 8).fmod 6).toNat, by omega, by omega, by omega⟩
          rw [hLn] at F8
          walk_at "go9"
          rename IsRange _ _ _ _ _ _ _ _ => hR
          rename News _ _ _ _ => N11
          rename Fr _ _ _ _ => F11
          refine rng_st (fun _ : Txts × Nat => []) (["size", "text", "sign"] : List PySem.Str) (sizeP [[a], [b], [c], [d]] _ DS rS nS) ([([], _)], 0) rfl hR (by decide) (rangeSize_nat _ _) F11 N11 (fun _ h => nomatch h) ⟨rfl, rfl⟩ ?turn9 ?done9
          case turn9 =>
            intro I hI9 i cc u news₁ it t9 h12 tk12 hi hP F12 N12
            obtain ⟨tx, ntx⟩ := cc
            obtain ⟨rfl, htx⟩ := hP
            dsimp only at htx N12
            dsimp only [lk] at F12
            refine turn_anyQ ?_
            intro Q9
            have hi3 : i < 3 := by omega
            have htl : tx.length ≤ 85 := by
              have h1 := congrArg List.length htx
              have h2 := growN_len a b c d i (by omega)
              rw [List.length_map] at h1; omega
            have hSa : Sgn a := by rcases ha with h9 | h9 <;> (rw [h9]; unfold Sgn; decide)
            have hko := growN_ok (P := Sgn) hSa hb hc hd i
            walk_at "go11"
            refine wpAny_execs_cons ?_
            rename Fr _ _ _ _ => lF9
            (with_unfolding_all refine' For_invVF lF9 ?k19 ?k29 ?_; (case k19 => exact rfl); (case k29 => exact rfl))
            walk_at "go11"
            refine for_st2 (fun _ : Txts × Nat => []) (["text", "sign"] : List PySem.Str) (textsP i [[a], [b], [c], [d]] (growN [[a], [b], [c], [d]] i) tx _ I _ DS it rS nS) (tx, ntx) rfl (by k_asm) (by k_asm) (.head _) (fun _ h => nomatch h) ⟨[], tx, rfl, rfl, rfl, rfl, by rw [htx]; simp [added]⟩ ?turn8 ?done8
            case turn8 =>
              intro I2 hI2 pre v rest cc2 u2 news2 it2 h14 tk14 e14 hP2 off14 F14 N14
              obtain ⟨t2, n2⟩ := cc2
              obtain ⟨p, q, rfl, hq, hpq, rfl, ht2⟩ := hP2
              obtain ⟨z, tz, q', rfl, rfl, rfl⟩ := sv_cons hq
              dsimp only at ht2 N14
              dsimp only [lk] at F14
              have hz : z ∈ growN [[a], [b], [c], [d]] i := by rw [← htx, hpq]; simp
              have hzl := (hko z hz).1
              have hpl : p.length ≤ 85 := by
                have := congrArg List.length hpq
                rw [List.length_append] at this; omega
              have ht2l : t2.length ≤ 500 := by
                have h1 := congrArg List.length ht2
                have h2 := added_len i [[a], [b], [c], [d]] (p.map (·.1)) rfl
                have h3 := growN_len a b c d i (by omega)
                rw [List.length_append, List.length_map] at h1
                rw [List.length_map] at h2
                omega
              walk_at "go11"
              · refine wpAny_execs_cons ?_
                rename Fr _ _ _ _ => lF9
                (with_unfolding_all refine' For_invVF lF9 ?k18 ?k28 ?_; (case k18 => exact rfl); (case k28 => exact rfl))
                walk_at "go11"
                refine for_st2 (fun _ : Txts × Nat => []) (["sign"] : List PySem.Str) (signsP z (t2.map (·.1)) I2 _ I _ DS it2 it tx rS nS) (t2, n2) rfl (by k_asm) (by k_asm) (by walk_at "mem") (fun _ h => nomatch h) ⟨[], rS, rfl, rfl, rfl, rfl, by simp⟩ ?turn7 ?done7
                case turn7 =>
                  intro I3 hI3 pre v rest cc3 u3 news3 it3 h16 tk16 e16 hP3 off16 F16 N16
                  obtain ⟨t3, n3⟩ := cc3
                  obtain ⟨p3, q3, rfl, hq3, hpq3, rfl, ht3⟩ := hP3
                  obtain ⟨y, ty, q3', rfl, rfl, rfl⟩ := sv_cons hq3
                  dsimp only at ht3 N16
                  dsimp only [lk] at F16
                  have hy : y ∈ rS.map (·.1) := by rw [hpq3]; simp
                  have hyl : y.length = 1 := by
                    rw [hrS] at hy
                    simp only [List.mem_cons, List.not_mem_nil, or_false] at hy
                    rcases hy with rfl | rfl | rfl | rfl <;> rfl
                  have hp3l : p3.length ≤ 4 := by
                    have h1 := congrArg List.length hpq3
                    have h2 := congrArg List.length hrS
                    rw [List.length_map] at h2
                    rw [List.length_append] at h1
                    simp only [List.length_cons, List.length_nil] at h2
                    omega
                  have ht3l : t3.length ≤ 100000 := by
                    have h1 := congrArg List.length ht3
                    rw [List.length_append, List.length_map, List.length_map, List.length_map, List.length_map] at h1
                    omega
                  k_lt hI9
                  k_lt hI2
                  k_lt hI3
                  walk_at "go11"
                  rename News _ _ _ _ => N17
                  rw [sv_push] at N17
                  exact LPost.next (by k_asm) N17 _ (.head _) (fun p hp => .tail _ hp) (off_same off16 rfl) ⟨by walk_at "mem", (t3 ++ [(z ++ y, _)], n3 + 1), ⟨p3 ++ [(y, ty)], q3', by rw [sv_append]; rfl, rfl, by rw [hpq3]; simp, rfl, by
                    dsimp only
                    rw [List.map_append, ht3]; simp⟩, (fun _ h => nomatch h), by walk_at "names"⟩
                case done7 =>
                  intro cc3 u3 news3 h16 tk16 hP3 F16 N16
                  obtain ⟨t3, n3⟩ := cc3
                  obtain ⟨p3, q3, hp3, hq3, hpq3, rfl, ht3⟩ := hP3
                  dsimp only at ht3 N16
                  dsimp only [lk] at F16
                  walk_at "go11"
                  rename _ = 0 + (i : Int) => heq9
                  have hx9 := sv_same hp3 hq3 hpq3
                  exact LPost.next (by k_asm) N16 _ (.head _) (fun p hp => .tail _ hp) (off_same off14 rfl) ⟨.head _, (t3, n3), ⟨p ++ [(z, tz)], q', by rw [sv_append]; rfl, rfl, by rw [hpq]; simp, rfl, by
                    dsimp only
                    rw [ht3, ht2, ← hx9, hrS, show (p ++ [(z, tz)]).map (·.1) = p.map (·.1) ++ [z] from List.map_append, added_snoc, if_pos (show z.length = i by omega), List.append_assoc]⟩, (fun _ h => nomatch h), by walk_at "names"⟩
              rename _ ≠ 0 + (i : Int) => hne9
              exact LPost.next (by k_asm) N14 _ (.head _) (fun p hp => .tail _ hp) off14 ⟨.head _, (t2, n2), ⟨p ++ [(z, tz)], q', by rw [sv_append]; rfl, rfl, by rw [hpq]; simp, rfl, by
                dsimp only
                rw [ht2, List.map_append, List.map_cons, List.map_nil, added_snoc, if_neg (show ¬ z.length = i from fun h => hne9 (by omega)), List.append_nil]⟩, (fun _ h => nomatch h), by walk_at "names"⟩
            case done8 =>
              intro cc2 u2 news2 h14 tk14 hP2 F14 N14
              obtain ⟨t2, n2⟩ := cc2
              obtain ⟨p, q, hp1, hq, hpq, rfl, ht2⟩ := hP2
              dsimp only at ht2 N14
              dsimp only [lk] at F14
              walk_at "go9"
              have hx9 := sv_same hp1 hq hpq
              exact LPost.next (by k_asm) N14 _ (.tail _ (.head _)) (fun p hp => .tail _ (.tail _ hp)) (off_same (fun p hp => Nat.ne_of_lt (hI9 p hp)) rfl) ⟨(t2, n2), ⟨rfl, by
                dsimp only
                rw [ht2, ← hx9, htx, growN_succ]⟩, (fun _ h => nomatch h), by walk_at "names"⟩
          case done9 =>
            intro cc u news₁ h12 tk12 hP F12 N12
            obtain ⟨tx, ntx⟩ := cc
            obtain ⟨rfl, htx⟩ := hP
            dsimp only at htx N12
            dsimp only [lk] at F12
            walk_at "go9"
            have htx3 : tx.map (·.1) = growN [[a], [b], [c], [d]] 3 := htx
            have hSa : Sgn a := by rcases ha with h9 | h9 <;> (rw [h9]; unfold Sgn; decide)
            have hko := growN_ok (P := Sgn) hSa hb hc hd 3
            have htl : tx.length = 85 := by
              have h1 := congrArg List.length htx3
              rw [List.length_map, growN_85, texts85_len] at h1; exact h1
            refine for_st2 (fun _ : Obj × List (PySem.Str × Value) × Obj × List (PySem.Str × Value) => []) (["text", "key", "written"] : List PySem.Str) (lastP _ _ (benc Ln e) tx ntx rS nS _ _ _ DS) (_, [], _, []) rfl (by k_asm) (by k_asm) (by walk_at "mem") (fun _ h => nomatch h) ⟨[], tx, rfl, rfl, rfl, rfl, by assumption, by assumption, DInv.nil _, Nat.le_refl _⟩ ?turn8 ?done8
            case turn8 =>
              intro I hI9 pre v rest cc u9 news₁ it h12 tk12 e12 hP off12 F12 N12
              obtain ⟨oW, kW, oR, kR⟩ := cc
              obtain ⟨p, q, rfl, hq, hpq, rfl, hdW, hdR, hinv, hlen⟩ := hP
              obtain ⟨z, tz, q', rfl, rfl, rfl⟩ := sv_cons hq
              dsimp only at hdW hdR hinv hlen N12
              dsimp only [lk] at F12
              have hz : z ∈ growN [[a], [b], [c], [d]] 3 := by rw [← htx3, hpq]; simp
              have hzl := (hko z hz).1
              have hzo : ∀ c ∈ z, c < 2 ^ 62 := fun c hc => Nat.lt_trans ((hko z hz).2 c hc) (by decide)
              have hzk := noSep (hko z hz).2
              have hzw := rowsL_weight z
              have hpl : p.length ≤ 85 := by
                have h1 := congrArg List.length hpq
                rw [List.length_append] at h1; omega
              have hk : ∀ r ∈ p.map (·.1), keyL r = keyL z ↔ benc Ln e r = benc Ln e z := fun r hr => key_iff hL4 he (noSep (hko r (by rw [← htx3, hpq, List.map_append]; exact List.mem_append_left _ hr)).2) hzk
              k_lt hI9
              walk_at "go12"
              refine join_key (by k_asm) (.head _) (by assumption) (by omega) ?_
              intro t9 k9
              walk_at "go12"
              refine get_m (by k_asm) (by walk_at "mem") hdW ?_
              walk_at "go12"
              refine get_same (by k_asm) (by walk_at "mem") hdW (by assumption) (hinv.getW hk _) ?_
              intro t10 k10
              walk_at "go12"
              refine get_m (by k_asm) (by walk_at "mem") hdR ?_
              walk_at "go12"
              refine get_same (by k_asm) (by walk_at "mem") hdR (by assumption) (hinv.getR hk _) ?_
              intro t11 k11
              walk_at "go12"
              refine' dict_set ?F9 ?N9 ?U9 hdW (by omega) ?_
              case F9 => k_asm
              case N9 => k_asm
              case U9 => k_updF
              intro h13 oW' k13 F13 N13 hdW'
              (try dsimp only at N13)
              (try dsimp only)
              walk_at "go12"
              refine' dict_set ?F8 ?N8 ?U8 hdR (by have := hinv.len; omega) ?_
              case F8 => k_asm
              case N8 => k_asm
              case U8 => k_updF
              intro h14 oR' k14 F14 N14 hdR'
              (try dsimp only at N14)
              (try dsimp only)
              walk_at "go12"
              exact LPost.next (by k_asm) N14 _ (.tail _ (.head _)) (fun p hp => .tail _ (.tail _ hp)) (off_same off12 rfl) ⟨by walk_at "mem", (oW', _, oR', _), ⟨p ++ [(z, tz)], q', by rw [sv_append]; rfl, rfl, by rw [hpq]; simp, rfl, hdW', hdR', by rw [List.map_append]; exact hinv.put hk _ _, by dsimp only; rw [List.length_append, List.length_singleton]; exact put_le _ _ _ hlen⟩, (fun _ h => nomatch h), by walk_at "names"⟩
            case done8 =>
              intro cc u9 news₁ h12 tk12 hP F12 N12
              obtain ⟨oW, kW, oR, kR⟩ := cc
              obtain ⟨p, q, hp9, hq, hpq, rfl, hdW, hdR, hinv, hlen⟩ := hP
              dsimp only at hdW hdR hinv hlen N12
              dsimp only [lk] at F12
              have hx9 := sv_same hp9 hq hpq
              rw [← hx9] at hinv hlen
              have hf4 := hinv.four ha (by rw [htx3, growN_85]; exact texts85_mem a b c d)
              have hfl := hinv.len
              dsimp only
              walk_at "go12"
              · have e9 : decide ((3 : Int) < (kR.length : Int)) = true := decide_eq_true (by omega)
                rw [e9]
                wrow_close
              · exfalso; omega
              · exfalso; omega)
end Mine
end
theorem PySem.Challenge.cw_dm5003_02_holds : PySem.Challenge.rw_dm5003_02.Holds := by
  exact Mine.law2
