import PyProof.Rows.All
import Wide.All
import OpenK.AllK
import Wide.FinOn
import Lean
import PySem.Challenge.RW_re0109_01
set_option Elab.async false

section
/-! The plain law: what the three deeds make of a text, and what the two places tell. No program in sight. -/
namespace Mine

def foldSign (c : Nat) : List Nat :=
  if c = 8203 then [] else if c = 13255 then [99, 111, 46] else if c = 223 then [115, 115] else if c = 75 then [107] else [c]
def prepare (t : List Nat) : List Nat := t.flatMap foldSign

/-- every line's end both signs; the flag: a return has just been met -/
def lines (b : Bool) : List Nat → List Nat
  | [] => []
  | c :: r => if c = 13 then 13 :: 10 :: lines true r else if c = 10 then (if b then lines false r else 13 :: 10 :: lines false r) else c :: lines false r
/-- a dot at a line's start doubled; the flag: at a line's start -/
def dots (b : Bool) : List Nat → List Nat
  | [] => []
  | c :: r => if b && c == 46 then 46 :: 46 :: dots false r else c :: dots (c == 10) r
def quoted (t : List Nat) : List Nat := dots true (lines false t)

def cut (t : List Nat) : List Nat := t.takeWhile fun c => c != 10 && c != 58
def behindDot : List Nat → List Nat
  | [] => []
  | c :: r => if 46 ∈ r then behindDot r else if c = 46 then r else c :: r
def stripped (t : List Nat) : List Nat := behindDot (cut t)

def deedOn (t : List Nat) (d : Nat) : List Nat := if d = 0 then prepare t else if d = 1 then quoted t else stripped t

structure St where
  low : Nat
  high : Nat
  behind : List Nat
  folded : Bool
  sent : Bool

def places (a b : Nat) : List Nat := List.range' a (b - a)
def isBar (sent : Bool) (c : Nat) : Bool := c == 58 || c == 10 || (sent && c == 13)
def isStop (folded : Bool) (c : Nat) : Bool := c == 46 || (folded && c == 13255)

def tellStep (sg : List Nat) (st : St) (d : Nat) : St :=
  if d = 0 then { st with folded := true }
  else if d = 1 then { st with sent := true, behind := if st.behind = [13] then [13, 10] else st.behind }
  else
    let bars := (places st.low st.high).filter fun k => isBar st.sent (sg.getD k 0)
    let high := match bars with | b :: _ => b | [] => st.high
    let behind := match bars with | b :: _ => (if st.sent && sg.getD b 0 != 58 then [13] else []) | [] => if st.behind ≠ [] then [13] else st.behind
    let stops := (places st.low high).filter fun k => isStop st.folded (sg.getD k 0)
    let low := match stops.getLast? with | some k => k + 1 | none => st.low
    { st with low := low, high := high, behind := behind }

def render (f s : Bool) (c : Nat) : List Nat := if s && c == 13 then [13, 10] else if f then foldSign c else [c]
def tellText (sg : List Nat) (st : St) : List Nat := ((places st.low st.high).flatMap fun k => render st.folded st.sent (sg.getD k 0)) ++ st.behind
def startSt (sg : List Nat) : St := ⟨0, sg.length, [], false, false⟩
def told (sg run : List Nat) : List Nat := tellText sg (run.foldl (tellStep sg) (startSt sg))

/-! ## lists -/
theorem filter_head_range' (p : Nat → Bool) : ∀ (n a : Nat), ((List.range' a n).filter p) = [] ∧ (∀ k, a ≤ k → k < a + n → p k = false) ∨
    ∃ b r, (List.range' a n).filter p = b :: r ∧ a ≤ b ∧ b < a + n ∧ p b = true ∧ ∀ k, a ≤ k → k < b → p k = false
  | 0, a => .inl ⟨rfl, fun k h1 h2 => absurd h2 (by omega)⟩
  | n + 1, a => by
    rw [List.range'_succ, List.filter_cons]
    cases h : p a with
    | true => exact .inr ⟨a, _, rfl, Nat.le_refl _, by omega, h, fun k h1 h2 => absurd h2 (by omega)⟩
    | false =>
      simp only [Bool.false_eq_true, if_false]
      rcases filter_head_range' p n (a + 1) with ⟨e, q⟩ | ⟨b, r, e, q1, q2, q3, q4⟩
      · exact .inl ⟨e, fun k h1 h2 => by
          by_cases hk : k = a
          · rw [hk]; exact h
          · exact q k (by omega) (by omega)⟩
      · exact .inr ⟨b, r, e, by omega, by omega, q3, fun k h1 h2 => by
          by_cases hk : k = a
          · rw [hk]; exact h
          · exact q4 k (by omega) h2⟩
theorem filter_last_range' (p : Nat → Bool) : ∀ (n a : Nat), (((List.range' a n).filter p).getLast? = none ∧ (∀ k, a ≤ k → k < a + n → p k = false)) ∨
    ∃ b, ((List.range' a n).filter p).getLast? = some b ∧ a ≤ b ∧ b < a + n ∧ p b = true ∧ ∀ k, b < k → k < a + n → p k = false
  | 0, a => .inl ⟨rfl, fun k h1 h2 => absurd h2 (by omega)⟩
  | n + 1, a => by
    rw [List.range'_concat, List.filter_append, Nat.one_mul]
    cases h : p (a + n) with
    | true =>
      refine .inr ⟨a + n, by simp [h], by omega, by omega, h, fun k h1 h2 => absurd h2 (by omega)⟩
    | false =>
      have e1 : ((List.range' a n).filter p ++ [a + n].filter p) = (List.range' a n).filter p := by simp [h]
      rw [e1]
      rcases filter_last_range' p n a with ⟨e, q⟩ | ⟨b, e, q1, q2, q3, q4⟩
      · exact .inl ⟨e, fun k h1 h2 => by
          by_cases hk : k = a + n
          · rw [hk]; exact h
          · exact q k h1 (by omega)⟩
      · exact .inr ⟨b, e, q1, by omega, q3, fun k h1 h2 => by
          by_cases hk : k = a + n
          · rw [hk]; exact h
          · exact q4 k h1 (by omega)⟩

/-- the signs between two places -/
def mid (sg : List Nat) (a b : Nat) : List Nat := (places a b).map fun k => sg.getD k 0
theorem tell_mid (sg : List Nat) (st : St) : tellText sg st = (mid sg st.low st.high).flatMap (render st.folded st.sent) ++ st.behind := by
  unfold tellText mid
  rw [List.flatMap_map]
theorem mid_split (sg : List Nat) {a b c : Nat} (h1 : a ≤ b) (h2 : b ≤ c) : mid sg a c = mid sg a b ++ mid sg b c := by
  unfold mid places
  rw [← List.map_append]
  congr 1
  have : c - a = (b - a) + (c - b) := by omega
  rw [this, ← List.range'_append_1]
  congr 2
  omega
theorem mid_cons (sg : List Nat) {b c : Nat} (h : b < c) : mid sg b c = sg.getD b 0 :: mid sg (b + 1) c := by
  unfold mid places
  have : c - b = (c - (b + 1)) + 1 := by omega
  rw [this, List.range'_succ]
  rfl
theorem mid_nil (sg : List Nat) (b : Nat) : mid sg b b = [] := by
  unfold mid places
  rw [Nat.sub_self]; rfl
theorem mid_mem {sg : List Nat} {a b : Nat} {P : Nat → Prop} (h : ∀ k, a ≤ k → k < b → P (sg.getD k 0)) : ∀ c ∈ mid sg a b, P c := by
  intro c hc
  unfold mid places at hc
  obtain ⟨k, hk, rfl⟩ := List.mem_map.mp hc
  rw [List.mem_range'_1] at hk
  exact h k hk.1 (by omega)
theorem mid_mem' {sg : List Nat} {a b : Nat} {P : Nat → Prop} (h : ∀ c ∈ mid sg a b, P c) (k : Nat) (h1 : a ≤ k) (h2 : k < b) : P (sg.getD k 0) := by
  refine h _ ?_
  unfold mid places
  exact List.mem_map.mpr ⟨k, List.mem_range'_1.mpr ⟨h1, by omega⟩, rfl⟩
theorem mid_all (sg : List Nat) : mid sg 0 sg.length = sg := by
  apply List.ext_getElem
  · simp [mid, places]
  · intro i h1 h2
    simp [mid, places, List.getD_eq_getElem?_getD, h2]

/-! ## the signs -/
theorem fold_fold (c : Nat) : (foldSign c).flatMap foldSign = foldSign c := by
  unfold foldSign
  split
  · rfl
  · split
    · rfl
    · split
      · rfl
      · split
        · rfl
        · rename_i h1 h2 h3 h4
          simp [h1, h2, h3, h4]
theorem fold_render (f s : Bool) (c : Nat) : (render f s c).flatMap foldSign = render true s c := by
  unfold render
  cases h : (s && c == 13) with
  | true => rfl
  | false =>
    cases f with
    | true => simpa using fold_fold c
    | false => simp
theorem fold_flat (f s : Bool) (l : List Nat) : (l.flatMap (render f s)).flatMap foldSign = l.flatMap (render true s) := by
  rw [List.flatMap_assoc]
  congr 1
  funext c
  exact fold_render f s c
theorem flat_congr {g g' : Nat → List Nat} {l : List Nat} (h : ∀ c ∈ l, g c = g' c) : l.flatMap g = l.flatMap g' := by
  induction l with
  | nil => rfl
  | cons a r ih => rw [List.flatMap_cons, List.flatMap_cons, h a List.mem_cons_self, ih fun c hc => h c (List.mem_cons_of_mem _ hc)]

theorem lines_append_plain (b : Bool) : ∀ (a r : List Nat), (∀ c ∈ a, c ≠ 10 ∧ c ≠ 13) → a ≠ [] → lines b (a ++ r) = a ++ lines false r
  | [], _, _, h => absurd rfl h
  | [c], r, h, _ => by
    have := h c List.mem_cons_self
    show lines b (c :: r) = _
    simp [lines, this.1, this.2]
  | c :: d :: a, r, h, _ => by
    have := h c List.mem_cons_self
    have ih := lines_append_plain false (d :: a) r (fun x hx => h x (List.mem_cons_of_mem _ hx)) (by simp)
    show lines b (c :: ((d :: a) ++ r)) = _
    rw [show lines b (c :: ((d :: a) ++ r)) = c :: lines false ((d :: a) ++ r) by simp [lines, this.1, this.2], ih]
    rfl
theorem lines_plain (a r : List Nat) (h : ∀ c ∈ a, c ≠ 10 ∧ c ≠ 13) : lines false (a ++ r) = a ++ lines false r := by
  cases a with
  | nil => rfl
  | cons c a => exact lines_append_plain false (c :: a) r h (by simp)
theorem dots_plain (b : Bool) : ∀ (a r : List Nat), (∀ c ∈ a, c ≠ 46 ∧ c ≠ 10) → a ≠ [] → dots b (a ++ r) = a ++ dots false r
  | [], _, _, h => absurd rfl h
  | [c], r, h, _ => by
    have := h c List.mem_cons_self
    have e : (c == 10) = false := by simp [this.2]
    show dots b (c :: r) = _
    simp [dots, this.1, e]
  | c :: d :: a, r, h, _ => by
    have := h c List.mem_cons_self
    have ih := dots_plain false (d :: a) r (fun x hx => h x (List.mem_cons_of_mem _ hx)) (by simp)
    show dots b (c :: ((d :: a) ++ r)) = _
    have e : (c == 10) = false := by simp [this.2]
    rw [show dots b (c :: ((d :: a) ++ r)) = c :: dots false ((d :: a) ++ r) by simp [dots, this.1, e], ih]
    rfl
theorem dots_noLine : ∀ (a r : List Nat), (∀ c ∈ a, c ≠ 10) → dots false (a ++ r) = a ++ dots false r
  | [], _, _ => rfl
  | c :: a, r, h => by
    have := h c List.mem_cons_self
    have ih := dots_noLine a r (fun x hx => h x (List.mem_cons_of_mem _ hx))
    show dots false (c :: (a ++ r)) = _
    have e : (c == 10) = false := by simp [this]
    rw [show dots false (c :: (a ++ r)) = c :: dots false (a ++ r) by simp [dots, e], ih]
    rfl
theorem behindDot_none : ∀ (t : List Nat), 46 ∉ t → behindDot t = t
  | [], _ => rfl
  | c :: r, h => by
    rw [List.mem_cons, not_or] at h
    have : ¬ c = 46 := fun e => h.1 e.symm
    simp [behindDot, h.2, this]
theorem behindDot_some : ∀ (a r : List Nat), 46 ∉ r → behindDot (a ++ 46 :: r) = r
  | [], r, h => by simp [behindDot, h]
  | c :: a, r, h => by
    have ih := behindDot_some a r h
    show behindDot (c :: (a ++ 46 :: r)) = r
    simp [behindDot, ih]


/-! ## what a sign becomes -/
theorem fold_mem {c x : Nat} (h : x ∈ foldSign c) : x = c ∨ x = 99 ∨ x = 111 ∨ (x = 46 ∧ c = 13255) ∨ x = 115 ∨ x = 107 := by
  unfold foldSign at h
  split at h
  · cases h
  · split at h
    · rename_i e; simp at h; rcases h with h | h | h <;> simp [h, e]
    · split at h
      · simp at h; simp [h]
      · split at h
        · simp at h; simp [h]
        · simp at h; simp [h]
theorem render_mem {f s : Bool} {c x : Nat} (h : x ∈ render f s c) : x = c ∨ x = 99 ∨ x = 111 ∨ (x = 46 ∧ c = 13255 ∧ f = true) ∨ x = 115 ∨ x = 107 ∨ (s = true ∧ c = 13 ∧ x = 10) := by
  unfold render at h
  cases hb : (s && c == 13) with
  | true =>
    rw [hb] at h
    simp at hb h
    rcases h with h | h <;> simp [h, hb]
  | false =>
    rw [hb] at h
    simp only [Bool.false_eq_true, if_false] at h
    cases f with
    | true => rcases fold_mem h with q | q | q | q | q | q <;> simp [q]
    | false => simp at h; exact .inl h
theorem flat_no (f s : Bool) (l : List Nat) (h : ∀ c ∈ l, c ≠ 10 ∧ c ≠ 58) (hs : s = true → ∀ c ∈ l, c ≠ 13) : ∀ x ∈ l.flatMap (render f s), x ≠ 10 ∧ x ≠ 58 := by
  intro x hx
  obtain ⟨c, hc, hx⟩ := List.mem_flatMap.mp hx
  have := h c hc
  rcases render_mem hx with q | q | q | q | q | q | q
  · rw [q]; exact this
  · omega
  · omega
  · omega
  · omega
  · omega
  · exact absurd q.2.1 (hs q.1 c hc)
theorem flat_no13 (f s : Bool) (l : List Nat) (h : ∀ c ∈ l, c ≠ 10 ∧ c ≠ 13) : ∀ x ∈ l.flatMap (render f s), x ≠ 10 ∧ x ≠ 13 := by
  intro x hx
  obtain ⟨c, hc, hx⟩ := List.mem_flatMap.mp hx
  have := h c hc
  rcases render_mem hx with q | q | q | q | q | q | q
  · rw [q]; exact this
  · omega
  · omega
  · omega
  · omega
  · omega
  · exact absurd q.2.1 this.2
theorem flat_no46 (f s : Bool) (l : List Nat) (h : ∀ c ∈ l, isStop f c = false) : 46 ∉ l.flatMap (render f s) := by
  intro hx
  obtain ⟨c, hc, hx⟩ := List.mem_flatMap.mp hx
  have := h c hc
  simp only [isStop, Bool.or_eq_false_iff, beq_eq_false_iff_ne, Bool.and_eq_false_iff] at this
  rcases render_mem hx with q | q | q | q | q | q | q
  · exact this.1 q.symm
  · omega
  · omega
  · rcases this.2 with z | z
    · rw [z] at q; simp at q
    · exact z q.2.1
  · omega
  · omega
  · omega
theorem render_stop {f : Bool} {c : Nat} (s : Bool) (h : isStop f c = true) : ∃ x, render f s c = x ++ [46] := by
  simp only [isStop, Bool.or_eq_true, beq_iff_eq, Bool.and_eq_true] at h
  rcases h with rfl | ⟨rfl, rfl⟩
  · cases f
    · exact ⟨[], by simp [render]⟩
    · exact ⟨[], by simp [render, foldSign]⟩
  · exact ⟨[99, 111], by simp [render, foldSign]⟩

theorem stops_step (sg : List Nat) (f s : Bool) (low h : Nat) (b : List Nat) (hb : 46 ∉ b) (hlh : low ≤ h) :
    let low' := match ((places low h).filter fun k => isStop f (sg.getD k 0)).getLast? with | some k => k + 1 | none => low
    behindDot ((mid sg low h).flatMap (render f s) ++ b) = (mid sg low' h).flatMap (render f s) ++ b ∧ low ≤ low' ∧ low' ≤ h ∧ (∀ c ∈ mid sg low' h, isStop f c = false) := by
  rcases filter_last_range' (fun k => isStop f (sg.getD k 0)) (h - low) low with ⟨e, q⟩ | ⟨k, e, q1, q2, q3, q4⟩
  · have e' : ((places low h).filter fun k => isStop f (sg.getD k 0)).getLast? = none := e
    rw [e']
    dsimp only
    have hn : ∀ c ∈ mid sg low h, isStop f c = false := mid_mem fun k h1 h2 => q k h1 (by omega)
    refine ⟨behindDot_none _ ?_, Nat.le_refl _, hlh, hn⟩
    rw [List.mem_append, not_or]
    exact ⟨flat_no46 f s _ hn, hb⟩
  · have e' : ((places low h).filter fun k => isStop f (sg.getD k 0)).getLast? = some k := e
    rw [e']
    dsimp only
    have hn : ∀ c ∈ mid sg (k + 1) h, isStop f c = false := mid_mem fun j h1 h2 => q4 j (by omega) (by omega)
    refine ⟨?_, Nat.le_succ_of_le q1, Nat.succ_le_of_lt (show k < h by omega), hn⟩
    rw [mid_split sg q1 (show k ≤ h by omega), mid_cons sg (show k < h by omega), List.flatMap_append, List.flatMap_cons]
    obtain ⟨x, hx⟩ := render_stop s q3
    rw [hx]
    have : (List.flatMap (render f s) (mid sg low k) ++ (x ++ [46] ++ List.flatMap (render f s) (mid sg (k + 1) h)) ++ b) =
        (List.flatMap (render f s) (mid sg low k) ++ x) ++ 46 :: (List.flatMap (render f s) (mid sg (k + 1) h) ++ b) := by simp
    rw [this]
    refine behindDot_some _ _ ?_
    rw [List.mem_append, not_or]
    exact ⟨flat_no46 f s _ hn, hb⟩

theorem cut_append (a r : List Nat) (h : ∀ x ∈ a, x ≠ 10 ∧ x ≠ 58) : cut (a ++ r) = a ++ cut r := by
  unfold cut
  rw [List.takeWhile_append_of_pos]
  intro x hx
  have := h x hx
  simp [this.1, this.2]

/-! ## behind the first strip -/
structure Behind (sg : List Nat) (st : St) (t : List Nat) : Prop where
  text : t = tellText sg st
  le : st.low ≤ st.high
  free : ∀ c ∈ mid sg st.low st.high, c ≠ 10 ∧ c ≠ 58 ∧ c ≠ 46
  end_ : st.behind = [] ∨ ((st.behind = [13] ∨ st.behind = [13, 10]) ∧ st.sent = true ∧ ∀ c ∈ mid sg st.low st.high, c ≠ 13)

theorem behind_fold {sg : List Nat} {st : St} {t : List Nat} (B : Behind sg st t) : Behind sg (tellStep sg st 0) (deedOn t 0) := by
  obtain ⟨rfl, le, free, e⟩ := B
  refine ⟨?_, le, free, e⟩
  show prepare _ = _
  rw [tell_mid, tell_mid]
  unfold prepare
  rw [List.flatMap_append, fold_flat]
  congr 1
  show st.behind.flatMap foldSign = st.behind
  rcases e with e | ⟨e | e, _⟩ <;> rw [e] <;> rfl

theorem dots_render (f : Bool) : ∀ (l r : List Nat) (b : Bool), (∀ c ∈ l, c ≠ 10 ∧ c ≠ 46) → (∀ b', dots b' r = r) → dots b (l.flatMap (render f true) ++ r) = l.flatMap (render f true) ++ r
  | [], r, b, _, hr => hr b
  | c :: l, r, b, h, hr => by
    have hc := h c List.mem_cons_self
    have ih := fun b' => dots_render f l r b' (fun x hx => h x (List.mem_cons_of_mem _ hx)) hr
    rw [List.flatMap_cons, List.append_assoc]
    generalize List.flatMap (render f true) l ++ r = X at ih
    unfold render
    by_cases h13 : c = 13
    · subst h13
      simp [dots, ih]
    · have e13 : (true && c == 13) = false := by simp [h13]
      rw [e13]
      simp only [Bool.false_eq_true, if_false]
      cases f with
      | false =>
        simp [dots, hc.2, ih]
      | true =>
        simp only [if_true]
        unfold foldSign
        split
        · simpa using ih b
        · split
          · simp [dots, ih]
          · split
            · simp [dots, ih]
            · split
              · simp [dots, ih]
              · simp [dots, hc.2, ih]
theorem lines_unsent (f : Bool) : ∀ (l : List Nat), (∀ c ∈ l, c ≠ 10) → ∀ b, lines b (l.flatMap (render f false)) = l.flatMap (render f true)
  | [], _, _ => rfl
  | c :: l, h, b => by
    have hc := h c List.mem_cons_self
    have ih := lines_unsent f l (fun x hx => h x (List.mem_cons_of_mem _ hx))
    rw [List.flatMap_cons, List.flatMap_cons]
    by_cases h13 : c = 13
    · subst h13
      cases f <;> simp [render, foldSign, lines, ih]
    · have hp : ∀ x ∈ render f false c, x ≠ 10 ∧ x ≠ 13 := fun x hx => flat_no13 f false [c] (by simp [hc, h13]) x (by simpa using hx)
      have er : render f true c = render f false c := by simp [render, h13]
      rw [er]
      cases hr : render f false c with
      | nil => simp only [List.nil_append]; exact ih b
      | cons y ys => rw [lines_append_plain b (y :: ys) _ (by rw [← hr]; exact hp) (by simp), ih false]
theorem lines_sent (f : Bool) (r : List Nat) : ∀ (l : List Nat), (∀ c ∈ l, c ≠ 10) → lines false (l.flatMap (render f true) ++ r) = l.flatMap (render f true) ++ lines false r
  | [], _ => rfl
  | c :: l, h => by
    have hc := h c List.mem_cons_self
    have ih := lines_sent f r l (fun x hx => h x (List.mem_cons_of_mem _ hx))
    rw [List.flatMap_cons, List.append_assoc, List.append_assoc]
    by_cases h13 : c = 13
    · subst h13
      simp [render, lines, ih]
    · have hp : ∀ x ∈ render f true c, x ≠ 10 ∧ x ≠ 13 := fun x hx => flat_no13 f true [c] (by simp [hc, h13]) x (by simpa using hx)
      rw [lines_plain _ _ hp, ih]

theorem behind_quote {sg : List Nat} {st : St} {t : List Nat} (B : Behind sg st t) : Behind sg (tellStep sg st 1) (deedOn t 1) := by
  obtain ⟨rfl, le, free, e⟩ := B
  obtain ⟨low, high, behind, f, s⟩ := st
  dsimp only at *
  have h10 : ∀ c ∈ mid sg low high, c ≠ 10 := fun c hc => (free c hc).1
  have h46 : ∀ c ∈ mid sg low high, c ≠ 10 ∧ c ≠ 46 := fun c hc => ⟨(free c hc).1, (free c hc).2.2⟩
  refine ⟨?_, le, free, ?_⟩
  · show quoted _ = _
    rw [tell_mid, tell_mid]
    show quoted ((mid sg low high).flatMap (render f s) ++ behind) = (mid sg low high).flatMap (render f true) ++ (if behind = [13] then [13, 10] else behind)
    unfold quoted
    cases s with
    | false =>
      have eb : behind = [] := by rcases e with e | ⟨_, e, _⟩; exact e; cases e
      subst eb
      have z := dots_render f (mid sg low high) [] true h46 fun _ => rfl
      rw [List.append_nil] at z
      rw [List.append_nil, lines_unsent f _ h10, z]
      simp
    | true =>
      rw [lines_sent f behind _ h10]
      rcases e with e | ⟨e | e, _⟩
      · rw [e]; exact dots_render f _ [] true h46 fun _ => rfl
      · rw [e]; exact dots_render f _ [13, 10] true h46 fun b => by simp [dots]
      · rw [e]; exact dots_render f _ [13, 10] true h46 fun b => by simp [dots]
  · show (if behind = [13] then [13, 10] else behind) = [] ∨ _
    rcases e with e | ⟨e | e, h1, h2⟩
    · left; rw [e]; rfl
    · right; exact ⟨.inr (by rw [e]; rfl), rfl, h2⟩
    · right; exact ⟨.inr (by rw [e]; rfl), rfl, h2⟩

/-- a strip where the cut text is known -/
theorem strip_end {sg : List Nat} {st : St} {t : List Nat} {h' : Nat} {b' : List Nat} (hlh : st.low ≤ h') (hcut : cut t = (mid sg st.low h').flatMap (render st.folded st.sent) ++ b')
    (hb : b' = [] ∨ (b' = [13] ∧ st.sent = true)) (hfree : ∀ c ∈ mid sg st.low h', c ≠ 10 ∧ c ≠ 58) (h13 : st.sent = true → ∀ c ∈ mid sg st.low h', c ≠ 13)
    (hhigh : (tellStep sg st 2).high = h') (hbeh : (tellStep sg st 2).behind = b') : Behind sg (tellStep sg st 2) (deedOn t 2) := by
  have hb46 : 46 ∉ b' := by rcases hb with rfl | ⟨rfl, _⟩ <;> simp
  obtain ⟨q1, q2, q3, q4⟩ := stops_step sg st.folded st.sent st.low h' b' hb46 hlh
  have elow : (tellStep sg st 2).low = (match ((places st.low h').filter fun k => isStop st.folded (sg.getD k 0)).getLast? with | some k => k + 1 | none => st.low) := by
    subst hhigh
    rfl
  rw [← elow] at q1 q2 q3 q4
  have sub : ∀ c ∈ mid sg (tellStep sg st 2).low h', c ∈ mid sg st.low h' := fun c hc => by
    rw [mid_split sg q2 q3]; exact List.mem_append_right _ hc
  have ef : (tellStep sg st 2).folded = st.folded := rfl
  have es : (tellStep sg st 2).sent = st.sent := rfl
  refine ⟨?_, by rw [hhigh]; exact q3, ?_, ?_⟩
  · show behindDot (cut t) = _
    rw [hcut, q1, tell_mid, hhigh, hbeh, ef, es]
  · rw [hhigh]
    intro c hc
    have := hfree c (sub c hc)
    refine ⟨this.1, this.2, fun e => ?_⟩
    have := q4 c hc
    rw [e] at this
    simp [isStop] at this
  · rw [hbeh, hhigh, es]
    rcases hb with hb | ⟨hb, hs⟩
    · exact .inl hb
    · exact .inr ⟨.inl hb, hs, fun c hc => h13 hs c (sub c hc)⟩

theorem behind_strip {sg : List Nat} {st : St} {t : List Nat} (B : Behind sg st t) : Behind sg (tellStep sg st 2) (deedOn t 2) := by
  obtain ⟨rfl, le, free, e⟩ := B
  have hcut0 : ∀ x, tellText sg st = x → cut (tellText sg st) = cut x := fun x h => by rw [h]
  rcases filter_head_range' (fun k => isBar st.sent (sg.getD k 0)) (st.high - st.low) st.low with ⟨eb, q⟩ | ⟨b, r, eb, q1, q2, q3, q4⟩
  · have eb' : (places st.low st.high).filter (fun k => isBar st.sent (sg.getD k 0)) = [] := eb
    have h13 : st.sent = true → ∀ c ∈ mid sg st.low st.high, c ≠ 13 := fun hs => mid_mem fun k h1 h2 => by
      have := q k h1 (by omega)
      rw [hs] at this
      simp only [isBar, Bool.true_and, Bool.or_eq_false_iff, beq_eq_false_iff_ne] at this
      exact this.2
    have hfree : ∀ c ∈ mid sg st.low st.high, c ≠ 10 ∧ c ≠ 58 := fun c hc => ⟨(free c hc).1, (free c hc).2.1⟩
    refine strip_end (h' := st.high) (b' := if st.behind ≠ [] then [13] else st.behind) le ?_ ?_ hfree h13 ?_ ?_
    · rw [tell_mid, cut_append _ _ (flat_no _ _ _ hfree h13)]
      congr 1
      rcases e with e | ⟨e | e, _⟩ <;> rw [e] <;> simp [cut]
    · rcases e with e | ⟨e | e, hs, _⟩
      · left; rw [e]; rfl
      · right; rw [e]; exact ⟨rfl, hs⟩
      · right; rw [e]; exact ⟨rfl, hs⟩
    · show (match (places st.low st.high).filter (fun k => isBar st.sent (sg.getD k 0)) with | b :: _ => b | [] => st.high) = _
      rw [eb']
    · show (match (places st.low st.high).filter (fun k => isBar st.sent (sg.getD k 0)) with | b :: _ => (if st.sent && sg.getD b 0 != 58 then [13] else []) | [] => if st.behind ≠ [] then [13] else st.behind) = _
      rw [eb']
  · have eb' : (places st.low st.high).filter (fun k => isBar st.sent (sg.getD k 0)) = b :: r := eb
    have hbm := mid_mem' free b q1 (by omega)
    have hs : st.sent = true ∧ sg.getD b 0 = 13 := by
      have := q3
      simp only [isBar, Bool.or_eq_true, beq_iff_eq, Bool.and_eq_true] at this
      rcases this with (z | z) | z
      · exact absurd z hbm.2.1
      · exact absurd z hbm.1
      · exact z
    have e0 : st.behind = [] := by
      rcases e with e | ⟨_, _, e⟩
      · exact e
      · exact absurd hs.2 (mid_mem' e b q1 (by omega))
    have hfree : ∀ c ∈ mid sg st.low b, c ≠ 10 ∧ c ≠ 58 := mid_mem fun k h1 h2 => ⟨(mid_mem' free k h1 (by omega)).1, (mid_mem' free k h1 (by omega)).2.1⟩
    have h13 : st.sent = true → ∀ c ∈ mid sg st.low b, c ≠ 13 := fun hs' => mid_mem fun k h1 h2 => by
      have := q4 k h1 h2
      rw [hs'] at this
      simp only [isBar, Bool.true_and, Bool.or_eq_false_iff, beq_eq_false_iff_ne] at this
      exact this.2
    refine strip_end (h' := b) (b' := [13]) q1 ?_ (.inr ⟨rfl, hs.1⟩) hfree h13 ?_ ?_
    · rw [tell_mid, e0, List.append_nil, mid_split sg q1 (show b ≤ st.high by omega), List.flatMap_append, cut_append _ _ (flat_no _ _ _ hfree h13), mid_cons sg (show b < st.high by omega), List.flatMap_cons, hs.2, hs.1]
      rfl
    · show (match (places st.low st.high).filter (fun k => isBar st.sent (sg.getD k 0)) with | b :: _ => b | [] => st.high) = _
      rw [eb']
    · show (match (places st.low st.high).filter (fun k => isBar st.sent (sg.getD k 0)) with | b :: _ => (if st.sent && sg.getD b 0 != 58 then [13] else []) | [] => if st.behind ≠ [] then [13] else st.behind) = _
      rw [eb']
      simp [hs.1]
      simp at hs
      simp [hs.2]


/-! ## ahead of the first strip -/
/-- how the rest of the text begins where the first bar stands -/
def RestAt (sg : List Nat) (s : Bool) (p : Nat) (rest : List Nat) : Prop :=
  (p = sg.length ∧ rest = []) ∨ (p < sg.length ∧ isBar s (sg.getD p 0) = true ∧
    ((sg.getD p 0 = 58 ∧ ∃ r, rest = 58 :: r) ∨ (sg.getD p 0 ≠ 58 ∧ s = true ∧ ∃ r, rest = 13 :: 10 :: r) ∨ (sg.getD p 0 ≠ 58 ∧ s = false ∧ ∃ r, rest = 10 :: r)))
structure Ahead (sg : List Nat) (st : St) (t : List Nat) : Prop where
  low : st.low = 0
  high : st.high = sg.length
  none : st.behind = []
  ex : ∃ p rest, 0 < p ∧ (∀ k, k < p → isBar st.sent (sg.getD k 0) = false) ∧ t = (mid sg 0 p).flatMap (render st.folded st.sent) ++ rest ∧ RestAt sg st.sent p rest

theorem ahead_start (sg : List Nat) (h0 : sg.getD 0 0 = 75) : Ahead sg (startSt sg) sg := by
  refine ⟨rfl, rfl, rfl, ?_⟩
  have e : ∀ l : List Nat, l.flatMap (render false false) = l := fun l => by
    induction l with
    | nil => rfl
    | cons a r ih => rw [List.flatMap_cons, ih]; rfl
  have hl : 0 < sg.length := by
    cases sg with
    | nil => cases h0
    | cons => simp
  show ∃ p rest, 0 < p ∧ (∀ k, k < p → isBar false (sg.getD k 0) = false) ∧ sg = (mid sg 0 p).flatMap (render false false) ++ rest ∧ RestAt sg false p rest
  rcases filter_head_range' (fun k => isBar false (sg.getD k 0)) sg.length 0 with ⟨_, q⟩ | ⟨b, _, _, q1, q2, q3, q4⟩
  · exact ⟨sg.length, [], hl, fun k hk => q k (Nat.zero_le _) (by omega), by rw [e, mid_all, List.append_nil], .inl ⟨rfl, rfl⟩⟩
  · have hb : b ≠ 0 := by
      rintro rfl
      rw [h0] at q3
      cases q3
    have hlt : b < sg.length := by omega
    refine ⟨b, mid sg b sg.length, by omega, fun k hk => q4 k (Nat.zero_le _) hk, by rw [e, ← mid_split sg (Nat.zero_le _) (Nat.le_of_lt hlt), mid_all], .inr ⟨hlt, q3, ?_⟩⟩
    rw [mid_cons sg hlt]
    by_cases h58 : sg.getD b 0 = 58
    · exact .inl ⟨h58, _, by rw [h58]⟩
    · refine .inr (.inr ⟨h58, rfl, mid sg (b + 1) sg.length, ?_⟩)
      have : sg.getD b 0 = 10 := by
        simp only [isBar, Bool.false_and, Bool.or_false, Bool.or_eq_true, beq_iff_eq] at q3
        exact q3.resolve_left h58
      rw [this]

theorem ahead_fold {sg : List Nat} {st : St} {t : List Nat} (B : Ahead sg st t) : Ahead sg (tellStep sg st 0) (deedOn t 0) := by
  obtain ⟨h1, h2, h3, p, rest, hp, hk, rfl, hr⟩ := B
  refine ⟨h1, h2, h3, p, prepare rest, hp, hk, ?_, ?_⟩
  · show prepare _ = _
    unfold prepare
    rw [List.flatMap_append, fold_flat]
    rfl
  · rcases hr with ⟨a, rfl⟩ | ⟨a, b, hr⟩
    · exact .inl ⟨a, rfl⟩
    · refine .inr ⟨a, b, ?_⟩
      rcases hr with ⟨c, r, rfl⟩ | ⟨c, d, r, rfl⟩ | ⟨c, d, r, rfl⟩
      · exact .inl ⟨c, prepare r, rfl⟩
      · exact .inr (.inl ⟨c, d, prepare r, rfl⟩)
      · exact .inr (.inr ⟨c, d, prepare r, rfl⟩)

theorem dots_first {x : Nat} {a r : List Nat} (h1 : x ≠ 46) (h2 : x ≠ 10) (ha : ∀ c ∈ a, c ≠ 10) : dots true (x :: (a ++ r)) = x :: (a ++ dots false r) := by
  have e : (x == 10) = false := by simp [h2]
  rw [show dots true (x :: (a ++ r)) = x :: dots false (a ++ r) by simp [dots, h1, e], dots_noLine a r ha]

theorem quoted_first (sg : List Nat) (h0 : sg.getD 0 0 = 75) (f : Bool) (p : Nat) (hp : 0 < p) (hk : ∀ k, k < p → sg.getD k 0 ≠ 10 ∧ sg.getD k 0 ≠ 13) (rest : List Nat) (s : Bool) :
    quoted ((mid sg 0 p).flatMap (render f s) ++ rest) = (mid sg 0 p).flatMap (render f true) ++ dots false (lines false rest) := by
  have hm : ∀ c ∈ mid sg 0 p, c ≠ 10 ∧ c ≠ 13 := mid_mem fun k _ h2 => hk k h2
  have es : (mid sg 0 p).flatMap (render f s) = (mid sg 0 p).flatMap (render f true) := flat_congr fun c hc => by
    have := (hm c hc).2
    simp [render, this]
  unfold quoted
  rw [es, lines_plain _ _ (flat_no13 f true _ hm)]
  have hm1 : ∀ x ∈ (mid sg 1 p).flatMap (render f true), x ≠ 10 := fun x hx =>
    (flat_no13 f true (mid sg 1 p) (mid_mem fun k _ h2 => hk k h2) x hx).1
  rw [mid_cons sg hp, h0, List.flatMap_cons]
  cases f with
  | false => exact dots_first (by decide) (by decide) hm1
  | true => exact dots_first (by decide) (by decide) hm1

theorem ahead_quote {sg : List Nat} {st : St} {t : List Nat} (h0 : sg.getD 0 0 = 75) (B : Ahead sg st t) : Ahead sg (tellStep sg st 1) (deedOn t 1) := by
  obtain ⟨h1, h2, h3, p, rest, hp, hk, rfl, hr⟩ := B
  obtain ⟨low, high, behind, f, s⟩ := st
  dsimp only at *
  subst h1 h2 h3
  refine ⟨rfl, rfl, rfl, ?_⟩
  show ∃ p' rest', 0 < p' ∧ (∀ k, k < p' → isBar true (sg.getD k 0) = false) ∧ quoted ((mid sg 0 p).flatMap (render f s) ++ rest) = (mid sg 0 p').flatMap (render f true) ++ rest' ∧ RestAt sg true p' rest'
  have hk0 : ∀ k, k < p → sg.getD k 0 ≠ 10 ∧ sg.getD k 0 ≠ 58 := fun k h => by
    have := hk k h
    simp only [isBar, Bool.or_eq_false_iff, beq_eq_false_iff_ne] at this
    exact ⟨this.1.2, this.1.1⟩
  have bar13 : ∀ k, k < p → sg.getD k 0 ≠ 13 → isBar true (sg.getD k 0) = false := fun k h h13 => by
    simp [isBar] at *
    exact ⟨⟨(hk0 k h).2, (hk0 k h).1⟩, h13⟩
  rcases filter_head_range' (fun k => sg.getD k 0 == 13) p 0 with ⟨_, q⟩ | ⟨b, _, _, q1, q2, q3, q4⟩
  · have h13 : ∀ k, k < p → sg.getD k 0 ≠ 13 := fun k h => by simpa using q k (Nat.zero_le _) (by omega)
    refine ⟨p, dots false (lines false rest), hp, fun k h => bar13 k h (h13 k h), quoted_first sg h0 f p hp (fun k h => ⟨(hk0 k h).1, h13 k h⟩) rest s, ?_⟩
    rcases hr with ⟨a, rfl⟩ | ⟨a, b, hr⟩
    · exact .inl ⟨a, rfl⟩
    · refine .inr ⟨a, ?_, ?_⟩
      · simp only [isBar, Bool.or_eq_true, Bool.and_eq_true] at b ⊢
        rcases b with b | b
        · exact .inl b
        · exact .inr ⟨trivial, b.2⟩
      · rcases hr with ⟨c, r, rfl⟩ | ⟨c, d, r, rfl⟩ | ⟨c, d, r, rfl⟩
        · exact .inl ⟨c, dots false (lines false r), by simp [lines, dots]⟩
        · exact .inr (.inl ⟨c, rfl, dots true (lines false r), by simp [lines, dots]⟩)
        · exact .inr (.inl ⟨c, rfl, dots true (lines false r), by simp [lines, dots]⟩)
  · have hb13 : sg.getD b 0 = 13 := by simpa using q3
    have hb0 : b ≠ 0 := by rintro rfl; rw [h0] at hb13; cases hb13
    have hbp : b < p := by omega
    have h13 : ∀ k, k < b → sg.getD k 0 ≠ 13 := fun k h => by simpa using q4 k (Nat.zero_le _) h
    have hlen : b < sg.length := by
      rcases hr with ⟨a, _⟩ | ⟨a, _⟩ <;> omega
    have hs : s = false := by
      cases s with
      | false => rfl
      | true =>
        have := hk b hbp
        rw [hb13] at this
        cases this
    subst hs
    have er : render f false 13 = [13] := by cases f <;> rfl
    refine ⟨b, dots false (lines false (13 :: ((mid sg (b + 1) p).flatMap (render f false) ++ rest))), by omega, fun k h => bar13 k (by omega) (h13 k h), ?_, .inr ⟨hlen, by rw [hb13]; rfl, .inr (.inl ⟨by rw [hb13]; decide, rfl, dots true (lines true ((mid sg (b + 1) p).flatMap (render f false) ++ rest)), by simp [lines, dots]⟩)⟩⟩
    rw [← quoted_first sg h0 f b (by omega) (fun k h => ⟨(hk0 k (by omega)).1, h13 k h⟩) _ false]
    congr 1
    rw [mid_split sg (Nat.zero_le b) (Nat.le_of_lt hbp), mid_cons sg hbp, hb13, List.flatMap_append, List.flatMap_cons, er]
    simp

theorem ahead_strip {sg : List Nat} {st : St} {t : List Nat} (B : Ahead sg st t) : Behind sg (tellStep sg st 2) (deedOn t 2) := by
  obtain ⟨h1, h2, h3, p, rest, hp, hk, ht, hr⟩ := B
  have hk0 : ∀ k, k < p → sg.getD k 0 ≠ 10 ∧ sg.getD k 0 ≠ 58 := fun k h => by
    have := hk k h
    simp only [isBar, Bool.or_eq_false_iff, beq_eq_false_iff_ne] at this
    exact ⟨this.1.2, this.1.1⟩
  have hfree : ∀ c ∈ mid sg 0 p, c ≠ 10 ∧ c ≠ 58 := mid_mem fun k _ h => hk0 k h
  have h13 : st.sent = true → ∀ c ∈ mid sg 0 p, c ≠ 13 := fun hs => mid_mem fun k _ h => by
    have := hk k h
    rw [hs] at this
    simp only [isBar, Bool.true_and, Bool.or_eq_false_iff, beq_eq_false_iff_ne] at this
    exact this.2
  have hcut : cut t = (mid sg 0 p).flatMap (render st.folded st.sent) ++ cut rest := by rw [ht, cut_append _ _ (flat_no _ _ _ hfree h13)]
  have eh : (tellStep sg st 2).high = (match (places 0 sg.length).filter (fun k => isBar st.sent (sg.getD k 0)) with | b :: _ => b | [] => sg.length) := by
    show (match (places st.low st.high).filter (fun k => isBar st.sent (sg.getD k 0)) with | b :: _ => b | [] => st.high) = _
    rw [h1, h2]
  have eb : (tellStep sg st 2).behind = (match (places 0 sg.length).filter (fun k => isBar st.sent (sg.getD k 0)) with | b :: _ => (if st.sent && sg.getD b 0 != 58 then [13] else []) | [] => []) := by
    show (match (places st.low st.high).filter (fun k => isBar st.sent (sg.getD k 0)) with | b :: _ => (if st.sent && sg.getD b 0 != 58 then [13] else []) | [] => if st.behind ≠ [] then [13] else st.behind) = _
    rw [h1, h2, h3]
    rfl
  rcases filter_head_range' (fun k => isBar st.sent (sg.getD k 0)) (sg.length - 0) 0 with ⟨z, q⟩ | ⟨b, r, z, q1, q2, q3, q4⟩
  · have z' : (places 0 sg.length).filter (fun k => isBar st.sent (sg.getD k 0)) = [] := z
    rw [z'] at eh eb
    obtain ⟨hpl, rfl⟩ : p = sg.length ∧ rest = [] := by
      rcases hr with h | ⟨a, b, _⟩
      · exact h
      · have := q p (Nat.zero_le _) (by omega)
        rw [b] at this
        cases this
    exact strip_end (h' := p) (b' := []) (by omega) (by rw [hcut, h1]; rfl) (.inl rfl) (by rw [h1]; exact hfree) (by rw [h1]; exact h13) (by rw [eh, hpl]) eb
  · have z' : (places 0 sg.length).filter (fun k => isBar st.sent (sg.getD k 0)) = b :: r := z
    rw [z'] at eh eb
    dsimp only at eh eb q3
    have hbp : ¬ b < p := fun h => by have := hk b h; rw [q3] at this; cases this
    rcases hr with ⟨hpl, _⟩ | ⟨a, hbar, hr⟩
    · exact absurd (show b < p by omega) hbp
    · have epb : p = b := by
        have : ¬ p < b := fun h => by have := q4 p (Nat.zero_le _) h; rw [hbar] at this; cases this
        omega
      subst epb
      rcases hr with ⟨c, r', rfl⟩ | ⟨c, d, r', rfl⟩ | ⟨c, d, r', rfl⟩
      · exact strip_end (h' := p) (b' := []) (by omega) (by rw [hcut, h1]; rfl) (.inl rfl) (by rw [h1]; exact hfree) (by rw [h1]; exact h13) eh (by rw [eb, c]; simp)
      · exact strip_end (h' := p) (b' := [13]) (by omega) (by rw [hcut, h1]; rfl) (.inr ⟨rfl, d⟩) (by rw [h1]; exact hfree) (by rw [h1]; exact h13) eh (by
          have c' : (sg.getD p 0 != 58) = true := by simpa using c
          rw [eb, c', d]; rfl)
      · exact strip_end (h' := p) (b' := []) (by omega) (by rw [hcut, h1]; rfl) (.inl rfl) (by rw [h1]; exact hfree) (by rw [h1]; exact h13) eh (by rw [eb, d]; rfl)

theorem run_phase (sg : List Nat) (h0 : sg.getD 0 0 = 75) : ∀ (run : List Nat) (st : St) (t : List Nat), (∀ d ∈ run, d = 0 ∨ d = 1 ∨ d = 2) →
    (Behind sg st t → Behind sg (run.foldl (tellStep sg) st) (run.foldl deedOn t)) ∧ (Ahead sg st t → 2 ∈ run → Behind sg (run.foldl (tellStep sg) st) (run.foldl deedOn t))
  | [], st, t, _ => ⟨id, fun _ h => nomatch h⟩
  | d :: run, st, t, h => by
    have ih := run_phase sg h0 run (tellStep sg st d) (deedOn t d) fun x hx => h x (List.mem_cons_of_mem _ hx)
    rw [List.foldl_cons, List.foldl_cons]
    rcases h d List.mem_cons_self with rfl | rfl | rfl
    · exact ⟨fun B => ih.1 (behind_fold B), fun B m => ih.2 (ahead_fold B) (by simpa using m)⟩
    · exact ⟨fun B => ih.1 (behind_quote B), fun B m => ih.2 (ahead_quote h0 B) (by simpa using m)⟩
    · exact ⟨fun B => ih.1 (behind_strip B), fun B _ => ih.1 (ahead_strip B)⟩

/-- the plain law -/
theorem law_plain (sg run : List Nat) (h0 : sg.getD 0 0 = 75) (hr : ∀ d ∈ run, d = 0 ∨ d = 1 ∨ d = 2) (h2 : 2 ∈ run) : run.foldl deedOn sg = told sg run :=
  ((run_phase sg h0 run _ _ hr).2 (ahead_start sg h0) h2).text

end Mine
end

section
open PySem PySem.Sre
namespace Mine
def codeDot : Array Nat := #[14, 4, 0, 1, 1, 6, 1, 16, 46, 1]
def codeLine : Array Nat := #[14, 9, 4, 1, 2, 16, 10, 16, 13, 0, 7, 7, 16, 13, 16, 10, 15, 18, 5, 16, 10, 15, 13, 11, 16, 13, 5, 5, 0, 16, 10, 1, 15, 2, 0, 1]

theorem runFor_add : ∀ (a b : Nat) (m : M), M.runFor (a + b) m = M.runFor b (M.runFor a m)
  | 0, b, m => by rw [Nat.zero_add]; rfl
  | a + 1, b, m => by
    rw [show a + 1 + b = a + b + 1 by omega]
    show (if m.outcome.isSome then m else M.runFor (a + b) m.step) = M.runFor b (if m.outcome.isSome then m else M.runFor a m.step)
    cases h : m.outcome.isSome with
    | true =>
      simp only [if_true]
      cases b with
      | zero => rfl
      | succ b => show m = (if m.outcome.isSome then m else _); rw [h]; rfl
    | false => simp only [Bool.false_eq_true, if_false]; exact runFor_add a b m.step
theorem runFor_over (n : Nat) (m : M) (h : m.outcome.isSome = true) : M.runFor n m = m := by
  cases n with
  | zero => rfl
  | succ n => show (if m.outcome.isSome then m else _) = m; rw [h]; rfl
theorem runFor_step (n : Nat) (m : M) (h : m.outcome = none) : M.runFor (n + 1) m = M.runFor n m.step := by
  show (if m.outcome.isSome then m else M.runFor n m.step) = _
  rw [h]; rfl

/-- the machine of the dots' pattern, trying at s -/
def dotM (text : Array Nat) (s : Nat) (first must : Bool) (seen : Seen) (pc pos handed : Nat) (answer : Option Bool) : M :=
  { code := codeDot, text := text, lim := text.size, start := s, lastStart := text.size, mustAdvance := must, pc := pc, pos := pos, handed := handed, outermost := first, marks := #[],
    lastmark := -1, lastindex := -1, frames := [{ wait := .nextStart, pc := 5, pos := s, outermost := first }], weight := 1, seen := seen, answer := answer }
abbrev dotAt (text : Array Nat) (s : Nat) (first must : Bool) (seen : Seen) : M := dotM text s first must seen 5 s s none

theorem dot_search (text : Array Nat) (pos : Nat) (must : Bool) (h : pos < text.size) : ∃ seen, forSearch codeDot text 0 pos text.size must = dotAt text pos true must seen := by
  refine ⟨({} : Seen).add 14, ?_⟩
  unfold forSearch
  have e : (decide (pos > text.size) || decide (text.size - pos < (header codeDot).1)) = false := by
    have : (header codeDot).1 = 1 := rfl
    rw [this]; simp; omega
  simp only [e, Bool.false_eq_true, if_false]
  rfl
theorem search_none (code text : Array Nat) (pos : Nat) (must : Bool) (hc : (header code).1 = 1) (h : text.size ≤ pos) : (M.runFor 1 (forSearch code text 0 pos text.size must)).outcome = some .failed := by
  unfold forSearch
  have e : (decide (pos > text.size) || decide (text.size - pos < (header code).1)) = true := by
    rw [hc]; simp; omega
  simp only [e, if_true]
  rfl

def lineStart (text : Array Nat) (s : Nat) : Bool := s == 0 || text.getD (s - 1) 0 == 10
section
variable (text : Array Nat) (s : Nat) (first must : Bool) (seen : Seen)
theorem dot_s1 : (dotAt text s first must seen).step = if lineStart text s then dotM text s first must ((seen.add 6).add 44) 7 s s none else dotM text s first must ((seen.add 6).add 44) 5 s s (some false) := rfl
theorem dot_s2 : (dotM text s first must seen 7 s s none).step =
    if s ≥ text.size then dotM text s first must (seen.add 16) 7 s s (some false)
    else if text.getD s 0 == 46 then dotM text s first must (seen.add 16) 9 (s + 1) s none else dotM text s first must (seen.add 16) 7 s s (some false) := by
  by_cases h : s ≥ text.size
  · rw [if_pos h]
    show (if s ≥ text.size then _ else _) = _
    rw [if_pos h]; rfl
  · rw [if_neg h]
    show (if s ≥ text.size then _ else _) = _
    rw [if_neg h]
    cases e : (text.getD s 0 == 46) with
    | true =>
      show (match (Except.ok (text.getD s 0 == 46, seen.add 16) : Except String (Bool × Seen)) with | .error why => _ | .ok (false, seen) => _ | .ok (true, seen) => _) = _
      rw [e]; rfl
    | false =>
      show (match (Except.ok (text.getD s 0 == 46, seen.add 16) : Except String (Bool × Seen)) with | .error why => _ | .ok (false, seen) => _ | .ok (true, seen) => _) = _
      rw [e]; rfl
theorem dot_s3 : (dotM text s first must seen 9 (s + 1) s none).step = dotM text s first must (seen.add 1) 9 (s + 1) (s + 1) (some true) := by
  show (if (first && ((false && _) || (must && (s + 1 == s)))) = true then _ else _) = _
  rw [show (s + 1 == s) = false by simp]
  simp only [Bool.and_false, Bool.false_and, Bool.or_self, Bool.false_eq_true, if_false]
  rfl
/-- back at the start's frame with a no -/
theorem dot_back (pc pos handed : Nat) (h : s < text.size) : (dotM text s first must seen pc pos handed (some false)).step = dotAt text (s + 1) false false seen := by
  show (if (false = true) then _ else if s < text.size then _ else _) = _
  rw [if_neg (by simp), if_pos h]
  rfl
theorem dot_over (pc pos handed : Nat) : ∃ m', M.runFor 2 (dotM text text.size first must seen pc pos handed (some false)) = m' ∧ m'.outcome = some .failed := by
  refine ⟨_, rfl, ?_⟩
  have e : (dotM text text.size first must seen pc pos handed (some false)).step = { dotM text text.size first must seen 5 text.size handed (some false) with frames := [], weight := 0 } := by
    show (if (false = true) then _ else if text.size < text.size then _ else _) = _
    rw [if_neg (by simp), if_neg (Nat.lt_irrefl _)]
    rfl
  rw [runFor_step 1 _ rfl, e]
  rfl
theorem dot_miss (h : s < text.size) (hno : (lineStart text s && text.getD s 0 == 46) = false) :
    ∃ seen', M.runFor 3 (dotAt text s first must seen) = M.runFor 1 (dotAt text (s + 1) false false seen') ∨ M.runFor 3 (dotAt text s first must seen) = dotAt text (s + 1) false false seen' := by
  rw [runFor_step 2 _ rfl, dot_s1]
  cases hl : lineStart text s with
  | false =>
    refine ⟨(seen.add 6).add 44, .inl ?_⟩
    rw [if_neg (by simp), runFor_step 1 _ rfl, dot_back _ _ _ _ _ _ _ _ h]
  | true =>
    rw [hl] at hno
    have hno : (text.getD s 0 == 46) = false := hno
    refine ⟨((seen.add 6).add 44).add 16, .inr ?_⟩
    rw [if_pos rfl, runFor_step 1 _ rfl, dot_s2, if_neg (by omega), hno, if_neg (by simp), runFor_step 0 _ rfl, dot_back _ _ _ _ _ _ _ _ h]
    rfl
theorem dot_hit (h : s < text.size) (hy : (lineStart text s && text.getD s 0 == 46) = true) :
    ∃ m', M.runFor 5 (dotAt text s first must seen) = m' ∧ m'.outcome = some .matched ∧ m'.start = s ∧ m'.handed = s + 1 := by
  obtain ⟨h1, h2⟩ := Bool.and_eq_true_iff.mp hy
  refine ⟨_, rfl, ?_⟩
  rw [runFor_step 4 _ rfl, dot_s1, if_pos h1, runFor_step 3 _ rfl, dot_s2, if_neg (by omega), if_pos h2, runFor_step 2 _ rfl, dot_s3]
  exact ⟨rfl, rfl, rfl⟩
theorem dot_none : ∃ m', M.runFor 4 (dotAt text text.size first must seen) = m' ∧ m'.outcome = some .failed := by
  rw [runFor_step 3 _ rfl, dot_s1]
  cases hl : lineStart text text.size with
  | false =>
    rw [if_neg (by simp)]
    obtain ⟨m', e, o⟩ := dot_over text first must ((seen.add 6).add 44) 5 text.size text.size
    refine ⟨m', ?_, o⟩
    rw [show (3 : Nat) = 2 + 1 from rfl, runFor_add, e]
    exact runFor_over 1 m' (by rw [o]; rfl)
  | true =>
    rw [if_pos rfl, runFor_step 2 _ rfl, dot_s2, if_pos (Nat.le_refl _)]
    exact dot_over text first must _ 7 text.size text.size
end

/-- the first place from s on where a dot opens a line -/
def dotFrom (text : Array Nat) : (fuel s : Nat) → Option Nat
  | 0, _ => none
  | fuel + 1, s => if s < text.size then (if lineStart text s && text.getD s 0 == 46 then some s else dotFrom text fuel (s + 1)) else none
def Ends (n : Nat) (m : M) (r : Option (Nat × Nat)) : Prop := ∃ m', M.runFor n m = m' ∧ match r with
  | some (s, e) => m'.outcome = some .matched ∧ m'.start = s ∧ m'.handed = e
  | none => m'.outcome = some .failed
theorem Ends.more {n : Nat} {m : M} {r : Option (Nat × Nat)} (h : Ends n m r) (k : Nat) : Ends (n + k) m r := by
  obtain ⟨m', e, q⟩ := h
  refine ⟨m', ?_, q⟩
  rw [runFor_add, e]
  refine runFor_over k m' ?_
  cases r with
  | none => rw [show m'.outcome = some .failed from q]; rfl
  | some x => rw [show m'.outcome = some .matched from q.1]; rfl
theorem dot_run (text : Array Nat) : ∀ (fuel s : Nat) (first must : Bool) (seen : Seen), text.size - s < fuel → s ≤ text.size →
    Ends (3 * fuel + 5) (dotAt text s first must seen) ((dotFrom text fuel s).map fun k => (k, k + 1))
  | 0, _, _, _, _, h, _ => absurd h (Nat.not_lt_zero _)
  | fuel + 1, s, first, must, seen, h, hs => by
    unfold dotFrom
    by_cases hlt : s < text.size
    · rw [if_pos hlt]
      cases hy : (lineStart text s && text.getD s 0 == 46) with
      | true =>
        rw [if_pos rfl]
        obtain ⟨m', e, o⟩ := dot_hit text s first must seen hlt hy
        have : Ends 5 (dotAt text s first must seen) (some (s, s + 1)) := ⟨m', e, o⟩
        have := this.more (3 * (fuel + 1))
        rw [Nat.add_comm]; exact this
      | false =>
        rw [if_neg (by simp)]
        obtain ⟨seen', q | q⟩ := dot_miss text s first must seen hlt hy
        · have ih := (dot_run text fuel (s + 1) false false seen' (by omega) (by omega)).more 1
          obtain ⟨m', e, o⟩ := ih
          refine ⟨m', ?_, o⟩
          rw [show 3 * (fuel + 1) + 5 = 3 + (3 * fuel + 5) by omega, runFor_add, q, ← runFor_add, show 1 + (3 * fuel + 5) = 3 * fuel + 5 + 1 by omega]
          exact e
        · have ih := dot_run text fuel (s + 1) false false seen' (by omega) (by omega)
          obtain ⟨m', e, o⟩ := ih
          refine ⟨m', ?_, o⟩
          rw [show 3 * (fuel + 1) + 5 = 3 + (3 * fuel + 5) by omega, runFor_add, q]
          exact e
    · rw [if_neg hlt]
      have : s = text.size := by omega
      subst this
      obtain ⟨m', e, o⟩ := dot_none text first must seen
      have : Ends 4 (dotAt text text.size first must seen) none := ⟨m', e, o⟩
      have := this.more (3 * (fuel + 1) + 1)
      rw [show 3 * (fuel + 1) + 5 = 4 + (3 * (fuel + 1) + 1) by omega]; exact this
end Mine
end

section
open PySem PySem.Sre
namespace Mine
/-- the machine of the lines' pattern, trying at s -/
def lineM (text : Array Nat) (s : Nat) (seen : Seen) (pc pos handed : Nat) (out : Bool) (frames : List Sre.Frame) (weight : Nat) (answer : Option Bool) : M :=
  { code := codeLine, text := text, lim := text.size, start := s, lastStart := text.size, mustAdvance := false, pc := pc, pos := pos, handed := handed, outermost := out, marks := #[],
    lastmark := -1, lastindex := -1, frames := frames, weight := weight, seen := seen, answer := answer }
def F0 (s : Nat) (first : Bool) : Sre.Frame := { wait := .nextStart, pc := 10, pos := s, outermost := first }
def K0 : Sre.Kept := { lastmark := -1, lastindex := -1, whole := false, marks := #[] }
def F1 (alt s : Nat) (first : Bool) : Sre.Frame := { wait := .nextBranch, pc := alt, pos := s, outermost := first, kept := K0 }
def F2 (p : Nat) (first : Bool) : Sre.Frame := { wait := .lookNot, pc := 26, pos := p, outermost := first, kept := K0 }
section
variable (text : Array Nat) (s : Nat) (first : Bool) (seen : Seen) (pos handed : Nat) (out : Bool) (frames : List Sre.Frame) (weight : Nat)
theorem line_lit12 : (lineM text s seen 12 pos handed out frames weight none).step =
    if pos ≥ text.size then lineM text s (seen.add 16) 12 pos handed out frames weight (some false)
    else if text.getD pos 0 == 13 then lineM text s (seen.add 16) 14 (pos + 1) handed out frames weight none else lineM text s (seen.add 16) 12 pos handed out frames weight (some false) := by
  by_cases h : pos ≥ text.size
  · rw [if_pos h]
    show (if pos ≥ text.size then _ else _) = _
    rw [if_pos h]; rfl
  · rw [if_neg h]
    show (if pos ≥ text.size then _ else _) = _
    rw [if_neg h]
    cases e : (text.getD pos 0 == 13) with
    | true =>
      show (match (Except.ok (text.getD pos 0 == 13, seen.add 16) : Except String (Bool × Seen)) with | .error why => _ | .ok (false, seen) => _ | .ok (true, seen) => _) = _
      rw [e]; rfl
    | false =>
      show (match (Except.ok (text.getD pos 0 == 13, seen.add 16) : Except String (Bool × Seen)) with | .error why => _ | .ok (false, seen) => _ | .ok (true, seen) => _) = _
      rw [e]; rfl
theorem line_lit14 : (lineM text s seen 14 pos handed out frames weight none).step =
    if pos ≥ text.size then lineM text s (seen.add 16) 14 pos handed out frames weight (some false)
    else if text.getD pos 0 == 10 then lineM text s (seen.add 16) 16 (pos + 1) handed out frames weight none else lineM text s (seen.add 16) 14 pos handed out frames weight (some false) := by
  by_cases h : pos ≥ text.size
  · rw [if_pos h]
    show (if pos ≥ text.size then _ else _) = _
    rw [if_pos h]; rfl
  · rw [if_neg h]
    show (if pos ≥ text.size then _ else _) = _
    rw [if_neg h]
    cases e : (text.getD pos 0 == 10) with
    | true =>
      show (match (Except.ok (text.getD pos 0 == 10, seen.add 16) : Except String (Bool × Seen)) with | .error why => _ | .ok (false, seen) => _ | .ok (true, seen) => _) = _
      rw [e]; rfl
    | false =>
      show (match (Except.ok (text.getD pos 0 == 10, seen.add 16) : Except String (Bool × Seen)) with | .error why => _ | .ok (false, seen) => _ | .ok (true, seen) => _) = _
      rw [e]; rfl
theorem line_lit19 : (lineM text s seen 19 pos handed out frames weight none).step =
    if pos ≥ text.size then lineM text s (seen.add 16) 19 pos handed out frames weight (some false)
    else if text.getD pos 0 == 10 then lineM text s (seen.add 16) 21 (pos + 1) handed out frames weight none else lineM text s (seen.add 16) 19 pos handed out frames weight (some false) := by
  by_cases h : pos ≥ text.size
  · rw [if_pos h]
    show (if pos ≥ text.size then _ else _) = _
    rw [if_pos h]; rfl
  · rw [if_neg h]
    show (if pos ≥ text.size then _ else _) = _
    rw [if_neg h]
    cases e : (text.getD pos 0 == 10) with
    | true =>
      show (match (Except.ok (text.getD pos 0 == 10, seen.add 16) : Except String (Bool × Seen)) with | .error why => _ | .ok (false, seen) => _ | .ok (true, seen) => _) = _
      rw [e]; rfl
    | false =>
      show (match (Except.ok (text.getD pos 0 == 10, seen.add 16) : Except String (Bool × Seen)) with | .error why => _ | .ok (false, seen) => _ | .ok (true, seen) => _) = _
      rw [e]; rfl
theorem line_lit24 : (lineM text s seen 24 pos handed out frames weight none).step =
    if pos ≥ text.size then lineM text s (seen.add 16) 24 pos handed out frames weight (some false)
    else if text.getD pos 0 == 13 then lineM text s (seen.add 16) 26 (pos + 1) handed out frames weight none else lineM text s (seen.add 16) 24 pos handed out frames weight (some false) := by
  by_cases h : pos ≥ text.size
  · rw [if_pos h]
    show (if pos ≥ text.size then _ else _) = _
    rw [if_pos h]; rfl
  · rw [if_neg h]
    show (if pos ≥ text.size then _ else _) = _
    rw [if_neg h]
    cases e : (text.getD pos 0 == 13) with
    | true =>
      show (match (Except.ok (text.getD pos 0 == 13, seen.add 16) : Except String (Bool × Seen)) with | .error why => _ | .ok (false, seen) => _ | .ok (true, seen) => _) = _
      rw [e]; rfl
    | false =>
      show (match (Except.ok (text.getD pos 0 == 13, seen.add 16) : Except String (Bool × Seen)) with | .error why => _ | .ok (false, seen) => _ | .ok (true, seen) => _) = _
      rw [e]; rfl
theorem line_lit29 : (lineM text s seen 29 pos handed out frames weight none).step =
    if pos ≥ text.size then lineM text s (seen.add 16) 29 pos handed out frames weight (some false)
    else if text.getD pos 0 == 10 then lineM text s (seen.add 16) 31 (pos + 1) handed out frames weight none else lineM text s (seen.add 16) 29 pos handed out frames weight (some false) := by
  by_cases h : pos ≥ text.size
  · rw [if_pos h]
    show (if pos ≥ text.size then _ else _) = _
    rw [if_pos h]; rfl
  · rw [if_neg h]
    show (if pos ≥ text.size then _ else _) = _
    rw [if_neg h]
    cases e : (text.getD pos 0 == 10) with
    | true =>
      show (match (Except.ok (text.getD pos 0 == 10, seen.add 16) : Except String (Bool × Seen)) with | .error why => _ | .ok (false, seen) => _ | .ok (true, seen) => _) = _
      rw [e]; rfl
    | false =>
      show (match (Except.ok (text.getD pos 0 == 10, seen.add 16) : Except String (Bool × Seen)) with | .error why => _ | .ok (false, seen) => _ | .ok (true, seen) => _) = _
      rw [e]; rfl

theorem line_branch : (lineM text s seen 10 pos handed out [F0 s first] 1 none).step = lineM text s (seen.add 7) 12 pos pos out [F1 11 pos out, F0 s first] 2 none := rfl
theorem line_jump16 : (lineM text s seen 16 pos handed out frames weight none).step = lineM text s (seen.add 15) 35 pos handed out frames weight none := rfl
theorem line_jump21 : (lineM text s seen 21 pos handed out frames weight none).step = lineM text s (seen.add 15) 35 pos handed out frames weight none := rfl
theorem line_jump32 : (lineM text s seen 32 pos handed out frames weight none).step = lineM text s (seen.add 15) 35 pos handed out frames weight none := rfl
theorem line_success : (lineM text s seen 35 pos handed out frames weight none).step = lineM text s (seen.add 1) 35 pos pos out frames weight (some true) := by
  cases out <;> rfl
theorem line_not : (lineM text s seen 26 pos handed out [F1 23 s first, F0 s first] 2 none).step = lineM text s (seen.add 5) 29 pos pos false [F2 pos out, F1 23 s first, F0 s first] 3 none := rfl
theorem line_alt11 (pc : Nat) : (lineM text s seen pc pos handed out [F1 11 s first, F0 s first] 2 (some false)).step = lineM text s seen 19 s s first [F1 18 s first, F0 s first] 2 none := rfl
theorem line_alt18 (pc : Nat) : (lineM text s seen pc pos handed out [F1 18 s first, F0 s first] 2 (some false)).step = lineM text s seen 24 s s first [F1 23 s first, F0 s first] 2 none := rfl
theorem line_notBack (p pc : Nat) : (lineM text s seen pc pos handed out [F2 p first, F1 23 s first, F0 s first] 3 (some false)).step = lineM text s seen 32 p handed first [F1 23 s first, F0 s first] 2 none := rfl
theorem line_yes (alt pc : Nat) : (M.runFor 3 (lineM text s seen pc pos handed out [F1 alt s first, F0 s first] 2 (some true))).outcome = some .matched ∧
    (M.runFor 3 (lineM text s seen pc pos handed out [F1 alt s first, F0 s first] 2 (some true))).start = s ∧ (M.runFor 3 (lineM text s seen pc pos handed out [F1 alt s first, F0 s first] 2 (some true))).handed = handed := ⟨rfl, rfl, rfl⟩
end

/-- where a line's end that begins at s ends -/
def lineEnd (text : Array Nat) (s : Nat) : Nat := if text.getD s 0 == 13 && decide (s + 1 < text.size) && text.getD (s + 1) 0 == 10 then s + 2 else s + 1
abbrev lineAt (text : Array Nat) (s : Nat) (first : Bool) (seen : Seen) : M := lineM text s seen 10 s s first [F0 s first] 1 none

theorem line_hit (text : Array Nat) (s : Nat) (first : Bool) (seen : Seen) (h : s < text.size) (hc : text.getD s 0 = 10 ∨ text.getD s 0 = 13) :
    Ends 16 (lineAt text s first seen) (some (s, lineEnd text s)) := by
  have done : ∀ (n : Nat) (seen' : Seen) (pc pos alt : Nat) (out : Bool), pos = lineEnd text s → n ≤ 8 → (pc = 16 ∨ pc = 21 ∨ pc = 32) → ∀ handed, Ends (5 + n) (lineM text s seen' pc pos handed out [F1 alt s first, F0 s first] 2 none) (some (s, lineEnd text s)) := by
    intro n seen' pc pos alt out hp _ hpc handed
    refine Ends.more ?_ n
    have e : (lineM text s seen' pc pos handed out [F1 alt s first, F0 s first] 2 none).step = lineM text s (seen'.add 15) 35 pos handed out [F1 alt s first, F0 s first] 2 none := by
      rcases hpc with rfl | rfl | rfl
      · exact line_jump16 ..
      · exact line_jump21 ..
      · exact line_jump32 ..
    refine ⟨_, rfl, ?_⟩
    rw [runFor_step 4 _ rfl, e, runFor_step 3 _ rfl, line_success]
    obtain ⟨a, b, c⟩ := line_yes text s first ((seen'.add 15).add 1) pos pos out alt 35
    exact ⟨a, b, by rw [c, hp]⟩
  have go : ∀ {n k : Nat} {m m' : M} {r : Option (Nat × Nat)}, m.outcome = none → m.step = m' → Ends n m' r → k = n + 1 → Ends k m r := by
    rintro n k m m' r ho rfl ⟨q, e, z⟩ rfl
    exact ⟨q, by rw [runFor_step n m ho]; exact e, z⟩
  refine go rfl (line_branch text s first seen s s first) (n := 15) ?_ rfl
  rcases hc with hc | hc
  · have e13 : (text.getD s 0 == 13) = false := by rw [hc]; rfl
    have e10 : (text.getD s 0 == 10) = true := by rw [hc]; rfl
    have el : lineEnd text s = s + 1 := by unfold lineEnd; rw [e13]; rfl
    refine go rfl ((line_lit12 ..).trans (by rw [if_neg (by omega), e13, if_neg (by simp)])) (n := 14) ?_ rfl
    refine go rfl (line_alt11 ..) (n := 13) ?_ rfl
    refine go rfl ((line_lit19 ..).trans (by rw [if_neg (by omega), e10, if_pos rfl])) (n := 12) ?_ rfl
    exact done 7 _ 21 (s + 1) 18 _ el.symm (by omega) (.inr (.inl rfl)) _
  · have e13 : (text.getD s 0 == 13) = true := by rw [hc]; rfl
    have e10 : (text.getD s 0 == 10) = false := by rw [hc]; rfl
    refine go rfl ((line_lit12 ..).trans (by rw [if_neg (by omega), e13, if_pos rfl])) (n := 14) ?_ rfl
    by_cases hn : s + 1 < text.size ∧ text.getD (s + 1) 0 = 10
    · have el : lineEnd text s = s + 2 := by unfold lineEnd; rw [e13, hn.2]; simp [hn.1]
      refine go rfl ((line_lit14 ..).trans (by rw [if_neg (by omega), hn.2, if_pos (show (10 == 10) = true from rfl)])) (n := 13) ?_ rfl
      exact done 8 _ 16 (s + 2) 11 _ el.symm (by omega) (.inl rfl) _
    · have el : lineEnd text s = s + 1 := by
        unfold lineEnd
        rw [e13]
        by_cases h1 : s + 1 < text.size
        · have : (text.getD (s + 1) 0 == 10) = false := beq_eq_false_iff_ne.mpr fun q => hn ⟨h1, q⟩
          rw [this]; simp
        · simp [h1]
      have no : ∀ {α : Type} (a b c : α), c = a → (if s + 1 ≥ text.size then a else if (text.getD (s + 1) 0 == 10) = true then b else c) = a := by
        intro α a b c hca
        by_cases h1 : s + 1 ≥ text.size
        · rw [if_pos h1]
        · rw [if_neg h1, if_neg, hca]
          simp only [beq_iff_eq]
          exact fun q => hn ⟨by omega, q⟩
      refine go rfl ((line_lit14 ..).trans (no _ _ _ rfl)) (n := 13) ?_ rfl
      refine go rfl (line_alt11 ..) (n := 12) ?_ rfl
      refine go rfl ((line_lit19 ..).trans (by rw [if_neg (by omega), e10, if_neg (by simp)])) (n := 11) ?_ rfl
      refine go rfl (line_alt18 ..) (n := 10) ?_ rfl
      refine go rfl ((line_lit24 ..).trans (by rw [if_neg (by omega), e13, if_pos rfl])) (n := 9) ?_ rfl
      refine go rfl (line_not ..) (n := 8) ?_ rfl
      refine go rfl ((line_lit29 ..).trans (no _ _ _ rfl)) (n := 7) ?_ rfl
      refine go rfl (line_notBack ..) (n := 6) ?_ rfl
      exact done 1 _ 32 (s + 1) 23 _ el.symm (by omega) (.inr (.inr rfl)) _

/-- the first place from s on with a return or a feed -/
def lineFrom (text : Array Nat) : (fuel s : Nat) → Option Nat
  | 0, _ => none
  | fuel + 1, s => if s < text.size then (if text.getD s 0 == 10 || text.getD s 0 == 13 then some s else lineFrom text fuel (s + 1)) else none

theorem line_inSet (c : Nat) (seen : Seen) : ∃ seen', inSet codeLine c codeLine.size 5 true seen = .ok (c == 10 || c == 13, seen') := by
  show ∃ seen', inSet codeLine c 36 5 true seen = .ok (c == 10 || c == 13, seen')
  cases h10 : (c == 10) with
  | true =>
    refine ⟨seen.add 16, ?_⟩
    show (if (c == 10) = true then _ else _) = _
    rw [h10]; rfl
  | false =>
    cases h13 : (c == 13) with
    | true =>
      refine ⟨(seen.add 16).add 16, ?_⟩
      show (if (c == 10) = true then _ else (if (c == 13) = true then _ else _)) = _
      rw [h10, h13]; rfl
    | false =>
      refine ⟨((seen.add 16).add 16).add 0, ?_⟩
      show (if (c == 10) = true then _ else (if (c == 13) = true then _ else _)) = _
      rw [h10, h13]; rfl
theorem line_admitted (m : M) (hcode : m.code = codeLine) (hlim : m.lim = m.text.size) : ∀ (fuel s : Nat) (seen : Seen), ∃ seen', M.admitted m fuel s seen = .ok (lineFrom m.text fuel s, seen')
  | 0, s, seen => ⟨seen, rfl⟩
  | fuel + 1, s, seen => by
    unfold M.admitted lineFrom
    rw [hlim]
    by_cases h : s < m.text.size
    · rw [if_neg (show ¬ s ≥ m.text.size by omega), if_pos h, hcode]
      obtain ⟨seen', e⟩ := line_inSet (m.text.getD s 0) seen
      rw [e]
      cases hc : (m.text.getD s 0 == 10 || m.text.getD s 0 == 13) with
      | true => exact ⟨seen', by rw [if_pos rfl]⟩
      | false =>
        obtain ⟨seen'', q⟩ := line_admitted m hcode hlim fuel (s + 1) seen'
        exact ⟨seen'', by rw [if_neg (by simp)]; exact q⟩
    · rw [if_pos (show s ≥ m.text.size by omega), if_neg h]
      exact ⟨seen, rfl⟩
theorem lineFrom_spec (text : Array Nat) : ∀ (fuel s k : Nat), lineFrom text fuel s = some k → k < text.size ∧ (text.getD k 0 = 10 ∨ text.getD k 0 = 13)
  | 0, _, _, h => by cases h
  | fuel + 1, s, k, h => by
    unfold lineFrom at h
    by_cases hs : s < text.size
    · rw [if_pos hs] at h
      cases hc : (text.getD s 0 == 10 || text.getD s 0 == 13) with
      | true =>
        rw [hc, if_pos rfl] at h
        cases h
        simp only [Bool.or_eq_true, beq_iff_eq] at hc
        exact ⟨hs, hc⟩
      | false =>
        rw [hc, if_neg (by simp)] at h
        exact lineFrom_spec text fuel (s + 1) k h
    · rw [if_neg hs] at h
      cases h
theorem line_search (text : Array Nat) (pos : Nat) (must : Bool) (h : pos < text.size) :
    Ends 16 (forSearch codeLine text 0 pos text.size must) ((lineFrom text (text.size + 1 - pos) pos).map fun k => (k, lineEnd text k)) := by
  have e : (decide (pos > text.size) || decide (text.size - pos < (header codeLine).1)) = false := by
    have : (header codeLine).1 = 1 := rfl
    rw [this]; simp; omega
  let m0 : M := { code := codeLine, text := text, lim := text.size, start := pos, lastStart := text.size, mustAdvance := must, pc := 10, pos := pos, handed := pos, marks := #[], seen := ({} : Seen).add 14 }
  have e0 : forSearch codeLine text 0 pos text.size must = M.attemptFrom m0 pos true := by
    unfold forSearch
    simp only [e, Bool.false_eq_true, if_false]
    rfl
  rw [e0]
  obtain ⟨seen', q⟩ := line_admitted m0 rfl rfl (text.size + 1 - pos) pos m0.seen
  have q' : M.admitted m0 (m0.lim + 1 - pos) pos m0.seen = .ok (lineFrom text (text.size + 1 - pos) pos, seen') := q
  unfold M.attemptFrom
  rw [if_neg (show ¬ (!m0.hasFirstSet) = true from by intro q; cases q), q']
  cases hk : lineFrom text (text.size + 1 - pos) pos with
  | none => exact ⟨_, rfl, rfl⟩
  | some k =>
    obtain ⟨h1, h2⟩ := lineFrom_spec text _ _ _ hk
    exact line_hit text k true seen' h1 h2
end Mine
end

section
set_option maxRecDepth 100000
open PySem
namespace Mine
theorem plainAttrs_pat : PlainAttrs "re.Pattern" :=
  ⟨⟨"object.__getattribute__", by rw [typeLookup_type, builtinLookup_eq_fast]; kernel_rfl, by decide +kernel⟩, by rw [typeLookup_type, builtinLookup_eq_fast]; kernel_rfl⟩
theorem owner_pat : Manifest.owners.lookup (String.ofList ['n', 'r', 'e', 't', 't', 'a', 'P', '.', 'e', 'r'].reverse) = some Manifest.sig_re_Pattern := by kernel_rfl
theorem slot_pat_sub : Slot "re.Pattern" "sub" "re.Pattern.sub" :=
  .of (owner := "re.Pattern") (n := "sub") (by rw [typeLookup_type, builtinLookup_eq_fast]; kernel_rfl) (by decide +kernel) (by decide +kernel) (by decide +kernel)
    (by first | exact .inl (by decide +kernel) | exact .inr (by decide +kernel)) (by rw [isSubtype_type]; kernel_rfl)
theorem type_pat_sub : typeOf (.builtin "re.Pattern.sub") = pure (.type "method_descriptor") := by show builtinType _ = _; rw [builtinType_eq_fast]; kernel_rfl
theorem entry_pat_sub : entryFor table "re.Pattern.sub" = some Builtin.«re.Pattern.sub» := entryFor_of_tree (by kernel_rfl)
theorem entry_pat_loop : entryFor table "re.Pattern.sub.loop" = some Builtin.«re.Pattern.sub.loop» := entryFor_of_tree (by kernel_rfl)
theorem args_pat_sub (a b c : Value) : argsOk "re.Pattern.sub" ⟨[a, b, c], []⟩ := by
  unfold argsOk; rw [signature?_of (id := "re.Pattern.sub") (n := ['b', 'u', 's']) (o := ['n', 'r', 'e', 't', 't', 'a', 'P', '.', 'e', 'r']) (by kernel_rfl) owner_pat]; kernel_rfl
end Mine
end

section
open PySem PySem.Sre PySem.Builtin PySem.Builtin.Re
namespace Mine
section
variable {M : Model} {A : Around} {E : Value → Shared → Prop} {s : Shared}

theorem wp_forUnit {α : Type} {f : α → PUnit → Sem (ForInStep PUnit)} (hf : ∀ (i : α) (Q : ForInStep PUnit → Shared → Prop), Q (.yield PUnit.unit) s → wpAny M A (f i PUnit.unit) Q E s) : ∀ (l : List α) {Q : PUnit → Shared → Prop}, Q PUnit.unit s →
    wpAny M A (forIn l PUnit.unit f) Q E s
  | [], Q, h => by rw [List.forIn_nil]; exact wpAny_pure h
  | i :: l, Q, h => by
    rw [List.forIn_cons]
    exact wpAny_bind (hf i _ (wp_forUnit hf l h))

theorem wp_drive {Q : Sre.M → Shared → Prop} : ∀ (k turns : Nat) (m m' : Sre.M), k < turns → Sre.M.runFor (4 * (k + 1)) m = m' → m'.outcome.isSome = true → Q m' s → wpAny M A (reDrive turns m) Q E s
  | _, 0, _, _, h, _, _, _ => absurd h (Nat.not_lt_zero _)
  | k, turns + 1, m, m', h, e, o, q => by
    show wpAny M A (if (Sre.M.runFor 4 m).outcome.isSome = true then pure (Sre.M.runFor 4 m) else do rule "sre.turn"; reDrive turns (Sre.M.runFor 4 m)) Q E s
    cases hs : (Sre.M.runFor 4 m).outcome.isSome with
    | true =>
      rw [if_pos rfl]
      refine wpAny_pure ?_
      have : Sre.M.runFor 4 m = m' := by
        rw [← e, show 4 * (k + 1) = 4 + 4 * k by omega, runFor_add, runFor_over _ _ hs]
      rw [this]; exact q
    | false =>
      rw [if_neg (by simp)]
      refine wpAny_bind (wpAny_rule ?_)
      cases k with
      | zero => rw [show 4 * (0 + 1) = 4 from rfl] at e; rw [e, o] at hs; cases hs
      | succ k =>
        refine wp_drive k turns (Sre.M.runFor 4 m) m' (by omega) ?_ o q
        rw [← e, show 4 * (k + 1 + 1) = 4 + 4 * (k + 1) by omega, runFor_add]

theorem wp_found {t : ReTarget} {start : Nat} {must : Bool} {n : Nat} {r : Option (Nat × Nat)} {Q : Option Sre.M → Shared → Prop} (hE : Ends n (forSearch t.code t.text t.groups start t.lim must) r) (hn : n < 2 ^ 60)
    (h : match r with | some (a, b) => ∀ m : Sre.M, m.start = a → m.handed = b → Q (some m) s | none => Q none s) : wpAny M A (reNextFound t start must) Q E s := by
  obtain ⟨m', e, hr⟩ := hE.more (4 * (n + 1) - n)
  rw [show n + (4 * (n + 1) - n) = 4 * (n + 1) by omega] at e
  have o : m'.outcome.isSome = true := by
    cases r with
    | none => rw [show m'.outcome = some .failed from hr]; rfl
    | some x => rw [show m'.outcome = some .matched from hr.1]; rfl
  unfold reNextFound reRunToEnd
  refine wpAny_bind (wp_drive n (2 ^ 64) _ m' (by omega) e o ?_)
  refine wpAny_bind (wp_forUnit (fun i Q hq => ?_) _ ?_)
  · refine wpAny_ite ?_
    split
    · exact wpAny_bind (wpAny_rule (wpAny_pure hq))
    · exact wpAny_pure hq
  cases r with
  | none =>
    rw [show m'.outcome = some .failed from hr]
    exact wpAny_pure h
  | some x =>
    rw [show m'.outcome = some .matched from hr.1]
    exact wpAny_pure (h m' hr.2.1 hr.2.2)
end

/-- a compiled pattern without groups, for texts -/
def IsPat (h : Heap) (a : Addr) (code : Array Nat) : Prop :=
  ∃ o p fl tc ot items n, h.get? a = some o ∧ o.cls = .type "re.Pattern" ∧ o.dict = none ∧ o.data = .fields #[p, fl, .int 0 0, .none, .none, .ref tc, .int 0 0] ∧ h.get? tc = some ot ∧ ot.data = .seq items n ∧
    (items.map reRawOf).map Int.toNat = code
theorem IsPat.keeps {h h' : Heap} {a : Addr} {code : Array Nat} (x : IsPat h a code) (k : ∀ b o, h.get? b = some o → h'.get? b = some o) : IsPat h' a code := by
  obtain ⟨o, p, fl, tc, ot, items, n, h1, h2, h3, h4, h5, r⟩ := x
  exact ⟨o, p, fl, tc, ot, items, n, k _ _ h1, h2, h3, h4, k _ _ h5, r⟩

section
variable {M : Model} {A : Around} {E : Value → Shared → Prop} {s : Shared}
theorem wp_target {a : Addr} {code : Array Nat} {x : Str} {t : Tok} {Q : ReTarget → Shared → Prop} (hp : IsPat s.heap a code)
    (h : Q { pattern := .ref a, string := .str x t, code := code, text := x.cps, kind := 0, groups := 0, pos := 0, lim := x.cps.size } s) : wpAny M A (reWholeTarget (.ref a) (.str x t)) Q E s := by
  obtain ⟨o, p, fl, tc, ot, items, n, h1, h2, h3, h4, h5, h6, h7⟩ := hp
  unfold reWholeTarget
  refine wpAny_bind (wpAny_fieldsOf h1 h4 ?_)
  refine wpAny_bind (m := reTextOf (.str x t)) (wpAny_pure ?_)
  show wpAny M A (do
      let code ← reRawItems (.ref tc)
      pure { pattern := .ref a, string := .str x t, code := code.map (·.toNat), text := x.cps, kind := 0, groups := 0, pos := 0, lim := x.cps.size }) Q E s
  unfold reRawItems
  refine wpAny_bind (wpAny_bind (m := seqItems? (.ref tc)) (wpAny_bind (wpAny_load h5 ?_)))
  rw [h6]
  refine wpAny_pure (wpAny_pure (wpAny_pure ?_))
  show Q { pattern := .ref a, string := .str x t, code := (items.map reRawOf).map Int.toNat, text := x.cps, kind := 0, groups := 0, pos := 0, lim := x.cps.size } s
  rw [h7]; exact h
end

def pieces (x repl : Str) (find : Nat → Option (Nat × Nat)) : (fuel d : Nat) → List Str
  | 0, _ => []
  | fuel + 1, d => match find d with
    | some (k, e) => (if d < k then [⟨x.cps.extract d k⟩] else []) ++ repl :: pieces x repl find fuel e
    | none => if d < x.cps.size then [⟨x.cps.extract d x.cps.size⟩] else []

theorem get_pushed {h : Heap} {a : Addr} {c : Value} {d : Option Addr} {sl : Array (Option Value)} {xs : Array Value} {n : Nat} (v : Value) (ho : h.get? a = some ⟨c, d, .seq xs n, sl⟩) :
    ∃ n', (h.update a (Obj.mapSeq (·.push v))).get? a = some ⟨c, d, .seq (xs.push v) n', sl⟩ :=
  ⟨_, Heap.get?_update_self _ ho rfl⟩

theorem strValues_push (l : List (Str × Tok)) (y : Str) (u : Tok) : (strValues l).toArray.push (.str y u) = (strValues (l ++ [(y, u)])).toArray := by
  simp [strValues]
theorem strValues_size (l : List (Str × Tok)) : (strValues l).toArray.size = l.length := by simp [strValues]

theorem foldl_lengths (l : List Str) : ∀ n : Nat, l.foldl (fun n (y : Str) => n + y.length + (⟨#[]⟩ : Str).length) n = n + (l.map (·.length)).sum := by
  induction l with
  | nil => intro n; rfl
  | cons y l ih =>
    intro n
    rw [List.foldl_cons, ih, List.map_cons, List.sum_cons]
    show n + y.length + 0 + _ = _
    omega
theorem glued_one (y : Str) : Builtin.Str.glued ⟨#[]⟩ [y] = y := rfl
theorem sum_glued (l : List Str) : (Builtin.Str.glued ⟨#[]⟩ l).length = (l.map (·.length)).sum := by
  rw [size_glued]
  show _ + _ * 0 = _
  omega

section
variable {prog : Program} {w : World} {A : Around} {E : Value → Shared → Prop}
/-- the pieces joined -/
theorem wp_joined {s : Shared} {lst : Addr} {l : List (Str × Tok)} {ep : Nat} {u : Tok} {Q : Value → Shared → Prop} (hl : s.heap.get? lst = some ⟨.type "list", none, .seq (strValues l).toArray ep, #[]⟩)
    (htot : ((l.map (·.1)).map (·.length)).sum ≤ sizeLine) (h : ∀ tk tok, Q (.str (Builtin.Str.glued ⟨#[]⟩ (l.map (·.1))) tok) { s with toks := tk }) :
    wpAny (model prog w) A (call (.builtin "str.join") [.str ⟨#[]⟩ u, .ref lst]) Q E s := by
  have hlong : Builtin.Str.tooLong ((l.map (·.1)).toArray.foldl (· + ·.length + (⟨#[]⟩ : Str).length) 0) = false := by
    unfold Builtin.Str.tooLong
    rw [List.foldl_toArray, foldl_lengths]
    exact decide_eq_false (by omega)
  refine call_meets F.slot_str_join rfl F.entry_str_join (F.args_str_join_2 _ _) (meets_str_join_list ⟨#[]⟩ u lst l hlong) ⟨⟨_, hl, rfl, _, rfl⟩, ?_⟩
  have hlen : (Builtin.Str.glued ⟨#[]⟩ (l.map (·.1))).length ≤ sizeLine := by rw [sum_glued]; exact htot
  cases l with
  | nil => exact ⟨hlen, h _ _⟩
  | cons p r =>
    cases r with
    | nil => exact h s.toks p.2
    | cons q r => exact ⟨hlen, h _ _⟩
end

section
variable {prog : Program} {w : World}
theorem sub_loop {x repl : Str} {t rt : Tok} {pat lst : Addr} {C : Array Nat} {find : Nat → Option (Nat × Nat)} {h₀ : Heap} {R : Result → Shared → Prop} {A : Around}
    (hfind : ∀ d, d ≤ x.cps.size → ∃ n, n < 2 ^ 60 ∧ Ends n (forSearch C x.cps 0 d x.cps.size false) (find d))
    (hgo : ∀ d k e, find d = some (k, e) → d ≤ k ∧ k < e ∧ e ≤ x.cps.size) (hp : ∀ h', Heap.ExtBut lst h₀ h' → IsPat h' pat C) (hx : x.length ≤ sizeLine) :
    ∀ (fuel d : Nat) (n : Int) (l : List (Str × Tok)) (ep : Nat) (s : Shared), x.cps.size - d < fuel → d ≤ x.cps.size → Heap.ExtBut lst h₀ s.heap → s.heap.get? lst = some ⟨.type "list", none, .seq (strValues l).toArray ep, #[]⟩ →
      l.length + 2 * (x.cps.size - d) + 2 ≤ sizeLine → (((l.map (·.1)) ++ pieces x repl find fuel d).map (·.length)).sum ≤ sizeLine →
      (∀ h' tk tok, Heap.ExtBut lst h₀ h' → R (.ok (.ret (.str (Builtin.Str.glued ⟨#[]⟩ (l.map (·.1) ++ pieces x repl find fuel d)) tok))) { s with heap := h', toks := tk }) →
      codeAny (model prog w) A (.builtin "re.Pattern.sub.loop" ⟨[.ref pat, .str x t, .str repl rt, rawInt 0, rawInt 0, rawInt n, rawInt d, rawInt d, .bool false, .ref lst, .bool false], []⟩) R s
  | 0, _, _, _, _, _, h, _, _, _, _, _, _ => absurd h (Nat.not_lt_zero _)
  | fuel + 1, d, n, l, ep, s, hfu, hd, hk, hl, hsz, htot, hR => by
    have plain : plainId "re.Pattern.sub.loop" = true := by decide +kernel
    refine codeAny_builtinAt entry_pat_loop (wpAt_of_wpAny ?_)
    rw [Around.under_plainId plain]
    unfold «re.Pattern.sub.loop»
    dsimp only [rawInt]
    refine wpAny_bind (wp_target (hp _ hk) ?_)
    rw [if_pos (show ((0 : Int) == 0) = true from rfl)]
    refine wpAny_bind (m := reLiteralCannotBeTurned (.str repl rt)) (wpAny_bind (m := asStr? (.str repl rt)) (wpAny_pure (wpAny_pure ?_)))
    obtain ⟨N, hN, hE⟩ := hfind d hd
    simp only [Int.toNat_natCast]
    rw [if_neg (show ¬ ((0 : Int) != 0 && decide (n ≥ 0)) = true from by simp)]
    unfold pieces at htot hR
    -- the repl pushed, and again
    have tail : ∀ (k e : Nat) (m : Sre.M), find d = some (k, e) → m.start = k → m.handed = e → ∀ (l' : List (Str × Tok)) (ep' : Nat) (s' : Shared), Heap.ExtBut lst h₀ s'.heap →
        s'.heap.get? lst = some ⟨.type "list", none, .seq (strValues l').toArray ep', #[]⟩ → l'.length ≤ l.length + 1 → (((l'.map (·.1)) ++ repl :: pieces x repl find fuel e).map (·.length)).sum ≤ sizeLine →
        (∀ h' tk tok, Heap.ExtBut lst h₀ h' → R (.ok (.ret (.str (Builtin.Str.glued ⟨#[]⟩ (l'.map (·.1) ++ repl :: pieces x repl find fuel e)) tok))) { s' with heap := h', toks := tk }) →
        wpAny (model prog w) A.in1 (do
            let item ← pure (Value.str repl rt)
            if (item != Value.none) = true then do
                updateSeq lst fun x => x.push item
                again (Code.builtin "re.Pattern.sub.loop" ⟨[Value.ref pat, Value.str x t, Value.str repl rt, Value.int 0 0, Value.int 0 0, Value.int (n + 1) 0, Value.int (m.handed : Int) 0, Value.int (m.handed : Int) 0, Value.bool (m.handed == m.start), Value.ref lst, Value.bool false], []⟩)
              else
                again (Code.builtin "re.Pattern.sub.loop" ⟨[Value.ref pat, Value.str x t, Value.str repl rt, Value.int 0 0, Value.int 0 0, Value.int (n + 1) 0, Value.int (m.handed : Int) 0, Value.int (m.handed : Int) 0, Value.bool (m.handed == m.start), Value.ref lst, Value.bool false], []⟩))
          (fun fin s' => match fin with | .done f => R (.ok f) s' | .again c' => c'.quiet = true ∧ codeAny (model prog w) A c' R s') (fun e s' => R (.error e) s') s' := by
      intro k e m hf hm1 hm2 l' ep' s' hk' hl' hll htot' hR'
      obtain ⟨g1, g2, g3⟩ := hgo d k e hf
      have hb : (m.handed == m.start) = false := by rw [hm1, hm2]; simp; omega
      rw [hb, hm2]
      refine wpAny_bind (wpAny_pure ?_)
      rw [if_pos (show (Value.str repl rt != Value.none) = true from rfl)]
      have z1 : (strValues l').toArray.size ≤ sizeLine := by rw [strValues_size]; omega
      refine wpAny_bind (wpAny_updateSeq hl' rfl ?_ z1 (by rw [Array.size_push]; omega))
      refine wpAny_pure ⟨plainId_quiet plain _, ?_⟩
      obtain ⟨n', hn'⟩ := get_pushed (.str repl rt) hl'
      rw [strValues_push] at hn'
      refine sub_loop hfind hgo hp hx fuel e (n + 1) (l' ++ [(repl, rt)]) n' _ (by omega) g3 ?_ hn' ?_ ?_ ?_
      · intro b o hb ho
        exact (Heap.get?_update_ne _ _ _ _ hb).trans (hk' b o hb ho)
      · rw [List.length_append, List.length_singleton]; omega
      · simpa using htot'
      · intro h' tk tok hx'
        have := hR' h' tk tok hx'
        simpa using this
    refine wpAny_bind (wp_found hE hN ?_)
    cases hf : find d with
    | some ke =>
      obtain ⟨k, e⟩ := ke
      rw [hf] at htot hR
      dsimp only at htot hR ⊢
      intro m hm1 hm2
      subst hm1 hm2
      rw [if_pos (show ((0 : Int) == 0) = true from rfl)]
      by_cases hdk : d < m.start
      · rw [if_pos hdk] at htot hR ⊢
        refine wpAny_bind (m := reSlice _ _ _ _) ?_
        have z0 : (⟨x.cps.extract d m.start⟩ : Str).length ≤ sizeLine := by
          have : (x.cps.extract d m.start).size ≤ x.cps.size := by rw [Array.size_extract]; omega
          exact Nat.le_trans this hx
        refine wpAny_mkStr ?_ z0
        have z1 : (strValues l).toArray.size ≤ sizeLine := by rw [strValues_size]; omega
        refine wpAny_bind (wpAny_updateSeq hl rfl ?_ z1 (by rw [Array.size_push]; omega))
        obtain ⟨n', hn'⟩ := get_pushed (.str ⟨x.cps.extract d m.start⟩ s.toks) hl
        rw [strValues_push] at hn'
        refine tail m.start m.handed m hf rfl rfl (l ++ [(⟨x.cps.extract d m.start⟩, s.toks)]) n' { s with heap := s.heap.update lst (Obj.mapSeq fun y => y.push (Value.str ⟨x.cps.extract d m.start⟩ s.toks)), toks := s.toks + 1 } ?_ hn' ?_ ?_ ?_
        · intro b o hb ho
          exact (Heap.get?_update_ne _ _ _ _ hb).trans (hk b o hb ho)
        · rw [List.length_append, List.length_singleton]; omega
        · simpa using htot
        · intro h' tk tok hx'
          have := hR h' tk tok hx'
          simpa using this
      · rw [if_neg hdk] at htot hR ⊢
        exact tail m.start m.handed m hf rfl rfl l ep s hk hl (by omega) (by simpa using htot) (fun h' tk tok hx' => by simpa using hR h' tk tok hx')
    | none =>
      rw [hf] at htot hR
      dsimp only at htot hR ⊢
      have fin : ∀ (l' : List (Str × Tok)) (ep' : Nat) (s' : Shared), Heap.ExtBut lst h₀ s'.heap → s'.heap.get? lst = some ⟨.type "list", none, .seq (strValues l').toArray ep', #[]⟩ → (((l'.map (·.1))).map (·.length)).sum ≤ sizeLine →
          (∀ h' tk tok, Heap.ExtBut lst h₀ h' → R (.ok (.ret (.str (Builtin.Str.glued ⟨#[]⟩ (l'.map (·.1))) tok))) { s' with heap := h', toks := tk }) →
          wpAny (model prog w) A.in1 (do
              let joiner ← reSlice x.cps 0 0 0
              let __do_lift ← seqItems? (Value.ref lst)
              if (__do_lift.getD #[]).isEmpty = true then do
                  let text ← pure joiner
                  if false = true then do
                      let __do_lift ← holding [text] do
                            let __do_lift ← mkInt n
                            newTuple [text, __do_lift]
                      ret __do_lift
                    else ret text
                else do
                  let text ← call (Value.builtin (if (0 == 0) = true then "str.join" else "bytes.join")) [joiner, Value.ref lst]
                  if false = true then do
                      let __do_lift ← holding [text] do
                            let __do_lift ← mkInt n
                            newTuple [text, __do_lift]
                      ret __do_lift
                    else ret text)
            (fun fin s' => match fin with | .done f => R (.ok f) s' | .again c' => c'.quiet = true ∧ codeAny (model prog w) A c' R s') (fun e s' => R (.error e) s') s' := by
        intro l' ep' s' hk' hl' htot' hR'
        have e0 : (⟨x.cps.extract 0 0⟩ : Str) = ⟨#[]⟩ := by simp
        refine wpAny_bind (m := reSlice _ _ _ _) (wpAny_mkStr (x := ⟨x.cps.extract 0 0⟩) ?_ (by rw [e0]; exact Nat.zero_le _))
        rw [e0]
        refine wpAny_bind (m := seqItems? (.ref lst)) (wpAny_bind (wpAny_load (s := { s' with toks := s'.toks + 1 }) hl' ?_))
        refine wpAny_pure ?_
        show wpAny _ _ (if ((strValues l').toArray).isEmpty = true then _ else _) _ _ _
        cases hemp : ((strValues l').toArray).isEmpty with
        | true =>
          rw [if_pos rfl]
          refine wpAny_bind (wpAny_pure ?_)
          rw [if_neg (by simp)]
          refine wpAny_pure ?_
          have : l' = [] := by
            cases l' with
            | nil => rfl
            | cons p r => simp [strValues] at hemp
          subst this
          exact hR' _ _ _ hk'
        | false =>
          rw [if_neg (by simp)]
          refine wpAny_bind (wp_joined (s := { s' with toks := s'.toks + 1 }) hl' htot' fun tk tok => ?_)
          rw [if_neg (by simp)]
          exact wpAny_pure (hR' _ _ _ hk')
      by_cases hdk : d < x.cps.size
      · rw [if_pos hdk] at htot hR ⊢
        refine wpAny_bind (m := reSlice _ _ _ _) ?_
        have z0 : (⟨x.cps.extract d x.cps.size⟩ : Str).length ≤ sizeLine := by
          have : (x.cps.extract d x.cps.size).size ≤ x.cps.size := by rw [Array.size_extract]; omega
          exact Nat.le_trans this hx
        refine wpAny_mkStr ?_ z0
        have z1 : (strValues l).toArray.size ≤ sizeLine := by rw [strValues_size]; omega
        refine wpAny_bind (wpAny_updateSeq hl rfl ?_ z1 (by rw [Array.size_push]; omega))
        obtain ⟨n', hn'⟩ := get_pushed (.str ⟨x.cps.extract d x.cps.size⟩ s.toks) hl
        rw [strValues_push] at hn'
        refine fin (l ++ [(⟨x.cps.extract d x.cps.size⟩, s.toks)]) n' { s with heap := s.heap.update lst (Obj.mapSeq fun y => y.push (Value.str ⟨x.cps.extract d x.cps.size⟩ s.toks)), toks := s.toks + 1 } ?_ hn' ?_ ?_
        · intro b o hb ho
          exact (Heap.get?_update_ne _ _ _ _ hb).trans (hk b o hb ho)
        · simpa using htot
        · intro h' tk tok hx'
          have := hR h' tk tok hx'
          simpa using this
      · rw [if_neg hdk] at htot hR ⊢
        exact fin l ep s hk hl (by simpa using htot) (fun h' tk tok hx' => by simpa using hR h' tk tok hx')
end
end Mine
end

section
set_option maxRecDepth 100000
open PySem PySem.Sre PySem.Builtin PySem.Builtin.Re
namespace Mine
theorem str_no_call : typeLookup (.type "str") "__call__" = pure none := by rw [typeLookup_type, builtinLookup_eq_fast]; kernel_rfl
theorem named_sub (a b : Value) : reNamed "re.Pattern.sub" "sub" ["repl", "string", "count"] 2 [a, b] [] = pure [some a, some b, none] := rfl

section
variable {prog : Program} {w : World} {A : Around} {E : Value → Shared → Prop} {s : Shared}
theorem call_sub {x repl : Str} {t rt : Tok} {pat : Addr} {C : Array Nat} {find : Nat → Option (Nat × Nat)} {Q : Value → Shared → Prop}
    (hfind : ∀ d, d ≤ x.cps.size → ∃ n, n < 2 ^ 60 ∧ Ends n (forSearch C x.cps 0 d x.cps.size false) (find d))
    (hgo : ∀ d k e, find d = some (k, e) → d ≤ k ∧ k < e ∧ e ≤ x.cps.size) (hp : IsPat s.heap pat C) (hx : 2 * x.length + 2 ≤ sizeLine) (hr : repl.cps.contains 92 = false)
    (htot : ((pieces x repl find (x.cps.size + 1) 0).map (·.length)).sum ≤ sizeLine)
    (h : ∀ h' tk tok, (∀ b o, s.heap.get? b = some o → h'.get? b = some o) → Q (.str (Builtin.Str.glued ⟨#[]⟩ (pieces x repl find (x.cps.size + 1) 0)) tok) { s with heap := h', toks := tk }) :
    wpAny (model prog w) A (call (.builtin "re.Pattern.sub") [.ref pat, .str repl rt, .str x t]) Q E s := by
  have hT : s.TypeIs (.ref pat) "re.Pattern" := let ⟨o, _, _, _, _, _, _, h1, h2, _⟩ := hp; ⟨o, h1, h2⟩
  refine wpAny_call (codeAny_call_builtin slot_pat_sub.plain entry_pat_sub (slot_pat_sub.check _ _ _ _ _ _ _ _ hT (args_pat_sub _ _ _) ?_))
  unfold «re.Pattern.sub» reSubstitute
  dsimp only
  rw [named_sub]
  refine wpAny_bind (wpAny_pure ?_)
  refine wpAny_bind (wpAny_pure ?_)
  refine wpAny_bind (wpAny_specialOf (T := "str") (show s.TypeIs (.str repl rt) "str" from rfl) str_no_call ?_)
  rw [if_neg (show ¬ (none : Option Value).isSome = true from by simp)]
  refine wpAny_bind (m := asStr? (.str repl rt)) (wpAny_pure ?_)
  dsimp only
  refine wpAny_bind (wpAny_pure ?_)
  rw [if_neg (show ¬ (none : Option Value).isSome = true from by simp), hr, if_pos (show (!false) = true from rfl)]
  refine wpAny_bind (wpAny_pure ?_)
  dsimp only
  refine wpAny_bind (wpAny_holding (wp_target hp ?_))
  rw [if_neg (show ¬ ((0 : Int) == 1) = true from by simp)]
  refine wpAny_bind (wpAny_newList ?_ (Nat.zero_le _))
  refine wpAny_pure ⟨plainId_quiet (by decide +kernel) _, ?_⟩
  have hk0 : Heap.ExtBut s.heap.objs.size s.heap (s.heap.push { cls := .type "list", data := .seq ([] : List Value).toArray }) := fun b o _ ho => Heap.get?_push_of_some _ ho
  have hpat : ∀ h', Heap.ExtBut s.heap.objs.size s.heap h' → IsPat h' pat C := fun h' hk => hp.keeps fun b o ho => hk b o (Nat.ne_of_lt (Heap.lt_size ho)) ho
  refine sub_loop (h₀ := s.heap) hfind hgo hpat (by omega) (x.cps.size + 1) 0 0 [] 0 _ (by omega) (Nat.zero_le _) hk0 (Heap.get?_push_size _ rfl) ?_ (by simpa using htot) fun h' tk tok hk => ?_
  · show 0 + 2 * (x.length - 0) + 2 ≤ sizeLine
    omega
  · exact h h' tk tok fun b o ho => hk b o (Nat.ne_of_lt (Heap.lt_size ho)) ho
end
end Mine
end

section
open PySem PySem.Sre
namespace Mine
theorem drop_at (text : Array Nat) (d : Nat) (h : d < text.size) : text.toList.drop d = text.getD d 0 :: text.toList.drop (d + 1) := by
  have h' : d < text.toList.length := by simpa using h
  rw [List.drop_eq_getElem_cons h']
  simp [Array.getD, h]
theorem drop_over (text : Array Nat) (d : Nat) (h : ¬ d < text.size) : text.toList.drop d = [] := by
  apply List.drop_eq_nil_of_le
  simp; omega
theorem extract_list (text : Array Nat) (d k : Nat) : (text.extract d k).toList = (text.toList.drop d).take (k - d) := by
  rw [Array.toList_extract, List.extract_eq_drop_take']
  rw [List.drop_take]

def findLine (text : Array Nat) (d : Nat) : Option (Nat × Nat) := (lineFrom text (text.size + 1 - d) d).map fun k => (k, lineEnd text k)
def findDot (text : Array Nat) (d : Nat) : Option (Nat × Nat) := (dotFrom text (text.size + 1 - d) d).map fun k => (k, k + 1)

theorem lineFrom_le (text : Array Nat) : ∀ (fuel s k : Nat), lineFrom text fuel s = some k → s ≤ k
  | 0, _, _, h => by cases h
  | fuel + 1, s, k, h => by
    unfold lineFrom at h
    by_cases hs : s < text.size
    · rw [if_pos hs] at h
      cases hc : (text.getD s 0 == 10 || text.getD s 0 == 13) with
      | true => rw [hc, if_pos rfl] at h; cases h; exact Nat.le_refl _
      | false => rw [hc, if_neg (by simp)] at h; exact Nat.le_trans (Nat.le_succ _) (lineFrom_le text fuel (s + 1) k h)
    · rw [if_neg hs] at h; cases h
theorem dotFrom_le (text : Array Nat) : ∀ (fuel s k : Nat), dotFrom text fuel s = some k → s ≤ k ∧ k < text.size
  | 0, _, _, h => by cases h
  | fuel + 1, s, k, h => by
    unfold dotFrom at h
    by_cases hs : s < text.size
    · rw [if_pos hs] at h
      cases hc : (lineStart text s && text.getD s 0 == 46) with
      | true => rw [hc, if_pos rfl] at h; cases h; exact ⟨Nat.le_refl _, hs⟩
      | false => rw [hc, if_neg (by simp)] at h; have := dotFrom_le text fuel (s + 1) k h; exact ⟨by omega, this.2⟩
    · rw [if_neg hs] at h; cases h
theorem findLine_go (text : Array Nat) (d k e : Nat) (h : findLine text d = some (k, e)) : d ≤ k ∧ k < e ∧ e ≤ text.size := by
  unfold findLine at h
  obtain ⟨j, hj, hq⟩ := Option.map_eq_some_iff.mp h
  cases hq
  have h1 := lineFrom_le text _ _ _ hj
  have h2 := (lineFrom_spec text _ _ _ hj).1
  unfold lineEnd
  cases hb : (text.getD k 0 == 13 && decide (k + 1 < text.size) && text.getD (k + 1) 0 == 10) with
  | true =>
    simp only [Bool.and_eq_true, decide_eq_true_eq] at hb
    rw [if_pos rfl]; omega
  | false => rw [if_neg (by simp)]; omega
theorem findDot_go (text : Array Nat) (d k e : Nat) (h : findDot text d = some (k, e)) : d ≤ k ∧ k < e ∧ e ≤ text.size := by
  unfold findDot at h
  obtain ⟨j, hj, hq⟩ := Option.map_eq_some_iff.mp h
  cases hq
  have := dotFrom_le text _ _ _ hj
  omega
theorem findLine_ends (text : Array Nat) (d : Nat) (hd : d ≤ text.size) : ∃ n, n < 2 ^ 60 ∧ Ends n (forSearch codeLine text 0 d text.size false) (findLine text d) := by
  by_cases h : d < text.size
  · exact ⟨16, by omega, line_search text d false h⟩
  · refine ⟨1, by omega, ?_⟩
    have : findLine text d = none := by
      unfold findLine
      have : lineFrom text (text.size + 1 - d) d = none := by
        cases hf : text.size + 1 - d with
        | zero => rfl
        | succ n => unfold lineFrom; rw [if_neg h]
      rw [this]; rfl
    rw [this]
    exact ⟨_, rfl, search_none codeLine text d false rfl (by omega)⟩
theorem findDot_ends (text : Array Nat) (hsz : text.size < 2 ^ 50) (d : Nat) (hd : d ≤ text.size) : ∃ n, n < 2 ^ 60 ∧ Ends n (forSearch codeDot text 0 d text.size false) (findDot text d) := by
  by_cases h : d < text.size
  · obtain ⟨seen, e⟩ := dot_search text d false h
    rw [e]
    exact ⟨3 * (text.size + 1 - d) + 5, by omega, dot_run text (text.size + 1 - d) d true false seen (by omega) hd⟩
  · refine ⟨1, by omega, ?_⟩
    have : findDot text d = none := by
      unfold findDot
      have : dotFrom text (text.size + 1 - d) d = none := by
        cases hf : text.size + 1 - d with
        | zero => rfl
        | succ n => unfold dotFrom; rw [if_neg h]
      rw [this]; rfl
    rw [this]
    exact ⟨_, rfl, search_none codeDot text d false rfl (by omega)⟩

theorem lines_true {r : List Nat} (h : ∀ a, r.head? = some a → a ≠ 10) : lines true r = lines false r := by
  cases r with
  | nil => rfl
  | cons c r =>
    have := h c rfl
    simp [lines, this]
theorem line_spec (text : Array Nat) : ∀ (fuel d : Nat), text.size - d < fuel → (∀ k, lineFrom text fuel d = some k → lines false (text.toList.drop d) = (text.toList.drop d).take (k - d) ++ 13 :: 10 :: lines false (text.toList.drop (lineEnd text k))) ∧
    (lineFrom text fuel d = none → lines false (text.toList.drop d) = text.toList.drop d)
  | 0, _, h => absurd h (Nat.not_lt_zero _)
  | fuel + 1, d, h => by
    unfold lineFrom
    by_cases hs : d < text.size
    · rw [if_pos hs, drop_at text d hs]
      cases hc : (text.getD d 0 == 10 || text.getD d 0 == 13) with
      | true =>
        rw [if_pos rfl]
        refine ⟨fun k hk => ?_, fun q => by cases q⟩
        cases hk
        rw [Nat.sub_self, List.take_zero, List.nil_append]
        simp only [Bool.or_eq_true, beq_iff_eq] at hc
        rcases hc with hc | hc
        · have el : lineEnd text d = d + 1 := by unfold lineEnd; rw [hc]; rfl
          rw [el, hc]
          simp [lines]
        · rw [hc]
          by_cases hn : d + 1 < text.size ∧ text.getD (d + 1) 0 = 10
          · have el : lineEnd text d = d + 2 := by unfold lineEnd; rw [hc, hn.2]; simp [hn.1]
            rw [el, drop_at text (d + 1) hn.1, hn.2]
            simp [lines]
          · have el : lineEnd text d = d + 1 := by
              unfold lineEnd
              rw [hc]
              by_cases h1 : d + 1 < text.size
              · have : (text.getD (d + 1) 0 == 10) = false := beq_eq_false_iff_ne.mpr fun q => hn ⟨h1, q⟩
                rw [this]; simp
              · simp [h1]
            rw [el]
            have : lines true (text.toList.drop (d + 1)) = lines false (text.toList.drop (d + 1)) := by
              apply lines_true
              intro a ha
              by_cases h1 : d + 1 < text.size
              · rw [drop_at text (d + 1) h1] at ha
                cases ha
                exact fun q => hn ⟨h1, q⟩
              · rw [drop_over text (d + 1) h1] at ha; cases ha
            simp [lines, this]
      | false =>
        rw [if_neg (by simp)]
        obtain ⟨i1, i2⟩ := line_spec text fuel (d + 1) (by omega)
        simp only [Bool.or_eq_false_iff, beq_eq_false_iff_ne] at hc
        have e : ∀ r, lines false (text.getD d 0 :: r) = text.getD d 0 :: lines false r := fun r => by simp only [lines, if_neg hc.1, if_neg hc.2]
        rw [e]
        refine ⟨fun k hk => ?_, fun hk => by rw [i2 hk]⟩
        have hle := lineFrom_le text _ _ _ hk
        rw [i1 k hk, show k - d = (k - (d + 1)) + 1 by omega, List.take_succ_cons]
        rfl
    · rw [if_neg hs, drop_over text d hs]
      exact ⟨fun k hk => (by cases hk), fun _ => rfl⟩
theorem dot_spec (text : Array Nat) : ∀ (fuel d : Nat), text.size - d < fuel → (∀ k, dotFrom text fuel d = some k → dots (lineStart text d) (text.toList.drop d) = (text.toList.drop d).take (k - d) ++ 46 :: 46 :: dots (lineStart text (k + 1)) (text.toList.drop (k + 1))) ∧
    (dotFrom text fuel d = none → dots (lineStart text d) (text.toList.drop d) = text.toList.drop d)
  | 0, _, h => absurd h (Nat.not_lt_zero _)
  | fuel + 1, d, h => by
    have next : lineStart text (d + 1) = (text.getD d 0 == 10) := by unfold lineStart; simp
    unfold dotFrom
    by_cases hs : d < text.size
    · rw [if_pos hs, drop_at text d hs]
      cases hc : (lineStart text d && text.getD d 0 == 46) with
      | true =>
        rw [if_pos rfl]
        refine ⟨fun k hk => ?_, fun q => by cases q⟩
        cases hk
        rw [Nat.sub_self, List.take_zero, List.nil_append, next]
        have h46 : text.getD d 0 = 46 := by simpa using (Bool.and_eq_true_iff.mp hc).2
        rw [show ∀ r, dots (lineStart text d) (text.getD d 0 :: r) = 46 :: 46 :: dots false r from fun r => by
          show (if (lineStart text d && text.getD d 0 == 46) = true then 46 :: 46 :: dots false r else _) = _
          rw [hc, if_pos rfl], h46]
        rfl
      | false =>
        rw [if_neg (by simp)]
        obtain ⟨i1, i2⟩ := dot_spec text fuel (d + 1) (by omega)
        have e : ∀ r, dots (lineStart text d) (text.getD d 0 :: r) = text.getD d 0 :: dots (lineStart text (d + 1)) r := fun r => by
          rw [next]
          show (if (lineStart text d && text.getD d 0 == 46) = true then _ else _) = _
          rw [hc]; rfl
        rw [e]
        refine ⟨fun k hk => ?_, fun hk => by rw [i2 hk]⟩
        have hle := (dotFrom_le text _ _ _ hk).1
        rw [i1 k hk, show k - d = (k - (d + 1)) + 1 by omega, List.take_succ_cons]
        rfl
    · rw [if_neg hs, drop_over text d hs]
      exact ⟨fun k hk => (by cases hk), fun _ => rfl⟩

theorem glued_fold (l : List Str) : ∀ acc : Array Nat, (l.foldl (fun acc p => acc ++ (⟨#[]⟩ : Str).cps ++ p.cps) acc).toList = acc.toList ++ (l.map (·.cps.toList)).flatten := by
  induction l with
  | nil => intro acc; simp
  | cons y l ih => intro acc; rw [List.foldl_cons, ih]; simp
theorem glued_list (l : List Str) : (Builtin.Str.glued ⟨#[]⟩ l).cps.toList = (l.map (·.cps.toList)).flatten := by
  unfold Builtin.Str.glued
  cases l with
  | nil => rfl
  | cons y l => rw [glued_fold]; simp

theorem pieces_line (x : Str) : ∀ (fuel d : Nat), x.cps.size - d < fuel → d ≤ x.cps.size → ((pieces x ⟨#[13, 10]⟩ (findLine x.cps) fuel d).map (·.cps.toList)).flatten = lines false (x.cps.toList.drop d)
  | 0, _, h, _ => absurd h (Nat.not_lt_zero _)
  | fuel + 1, d, h, hd => by
    obtain ⟨s1, s2⟩ := line_spec x.cps (x.cps.size + 1 - d) d (by omega)
    unfold pieces
    cases hf : findLine x.cps d with
    | none =>
      have hn : lineFrom x.cps (x.cps.size + 1 - d) d = none := by
        unfold findLine at hf; exact Option.map_eq_none_iff.mp hf
      rw [s2 hn]
      dsimp only
      by_cases hs : d < x.cps.size
      · rw [if_pos hs]
        simp only [List.map_cons, List.map_nil, List.flatten_cons, List.flatten_nil, List.append_nil]
        rw [extract_list, List.take_of_length_le (by simp)]
      · rw [if_neg hs, drop_over _ _ hs]; rfl
    | some ke =>
      obtain ⟨k, e⟩ := ke
      obtain ⟨g1, g2, g3⟩ := findLine_go x.cps d k e hf
      obtain ⟨j, hj, hq⟩ := Option.map_eq_some_iff.mp (show (lineFrom x.cps (x.cps.size + 1 - d) d).map _ = some (k, e) from hf)
      cases hq
      rw [s1 k hj]
      dsimp only
      rw [List.map_append, List.flatten_append, List.map_cons, List.flatten_cons, pieces_line x fuel (lineEnd x.cps k) (by omega) g3]
      have : ((List.map (fun (y : Str) => y.cps.toList) (if d < k then [(⟨x.cps.extract d k⟩ : Str)] else [])).flatten) = (x.cps.toList.drop d).take (k - d) := by
        by_cases hdk : d < k
        · rw [if_pos hdk]
          simp only [List.map_cons, List.map_nil, List.flatten_cons, List.flatten_nil, List.append_nil]
          rw [extract_list]
        · rw [if_neg hdk, show k - d = 0 by omega]; simp
      rw [this]
      rfl
theorem pieces_dot (x : Str) : ∀ (fuel d : Nat), x.cps.size - d < fuel → d ≤ x.cps.size → ((pieces x ⟨#[46, 46]⟩ (findDot x.cps) fuel d).map (·.cps.toList)).flatten = dots (lineStart x.cps d) (x.cps.toList.drop d)
  | 0, _, h, _ => absurd h (Nat.not_lt_zero _)
  | fuel + 1, d, h, hd => by
    obtain ⟨s1, s2⟩ := dot_spec x.cps (x.cps.size + 1 - d) d (by omega)
    unfold pieces
    cases hf : findDot x.cps d with
    | none =>
      have hn : dotFrom x.cps (x.cps.size + 1 - d) d = none := by
        unfold findDot at hf; exact Option.map_eq_none_iff.mp hf
      rw [s2 hn]
      dsimp only
      by_cases hs : d < x.cps.size
      · rw [if_pos hs]
        simp only [List.map_cons, List.map_nil, List.flatten_cons, List.flatten_nil, List.append_nil]
        rw [extract_list, List.take_of_length_le (by simp)]
      · rw [if_neg hs, drop_over _ _ hs]; rfl
    | some ke =>
      obtain ⟨k, e⟩ := ke
      obtain ⟨g1, g2, g3⟩ := findDot_go x.cps d k e hf
      obtain ⟨j, hj, hq⟩ := Option.map_eq_some_iff.mp (show (dotFrom x.cps (x.cps.size + 1 - d) d).map _ = some (k, e) from hf)
      cases hq
      rw [s1 k hj]
      dsimp only
      rw [List.map_append, List.flatten_append, List.map_cons, List.flatten_cons, pieces_dot x fuel (k + 1) (by omega) g3]
      have : ((List.map (fun (y : Str) => y.cps.toList) (if d < k then [(⟨x.cps.extract d k⟩ : Str)] else [])).flatten) = (x.cps.toList.drop d).take (k - d) := by
        by_cases hdk : d < k
        · rw [if_pos hdk]
          simp only [List.map_cons, List.map_nil, List.flatten_cons, List.flatten_nil, List.append_nil]
          rw [extract_list]
        · rw [if_neg hdk, show k - d = 0 by omega]; simp
      rw [this]
      rfl

theorem lines_len : ∀ (b : Bool) (t : List Nat), (lines b t).length ≤ 2 * t.length
  | _, [] => Nat.le_refl _
  | b, c :: r => by
    have h1 := lines_len true r
    have h2 := lines_len false r
    unfold lines
    split
    · simp only [List.length_cons]; omega
    · split
      · cases b
        · simp; omega
        · simp; omega
      · simp only [List.length_cons]; omega
theorem dots_len : ∀ (b : Bool) (t : List Nat), (dots b t).length ≤ 2 * t.length
  | _, [] => Nat.le_refl _
  | b, c :: r => by
    have h1 := dots_len false r
    have h2 := dots_len (c == 10) r
    unfold dots
    split
    · simp only [List.length_cons]; omega
    · simp only [List.length_cons]; omega
theorem sum_len (l : List Str) : (l.map (·.length)).sum = ((l.map (·.cps.toList)).flatten).length := by
  induction l with
  | nil => rfl
  | cons y l ih => rw [List.map_cons, List.sum_cons, ih, List.map_cons, List.flatten_cons, List.length_append]; rfl

def txt (l : List Nat) : Str := ⟨l.toArray⟩
theorem txt_eq {x : Str} {l : List Nat} (h : x.cps.toList = l) : x = txt l := by
  cases x; subst h; rfl
section
variable {prog : Program} {w : World} {A : Around} {E : Value → Shared → Prop} {s : Shared}
theorem call_sub_line {x : List Nat} {t rt : Tok} {pat : Addr} {Q : Value → Shared → Prop} (hp : IsPat s.heap pat codeLine) (hx : 2 * x.length + 2 ≤ sizeLine)
    (h : ∀ h' tk tok, (∀ b o, s.heap.get? b = some o → h'.get? b = some o) → Q (.str (txt (lines false x)) tok) { s with heap := h', toks := tk }) :
    wpAny (model prog w) A (call (.builtin "re.Pattern.sub") [.ref pat, .str (txt [13, 10]) rt, .str (txt x) t]) Q E s := by
  have e := pieces_line (txt x) ((txt x).cps.size + 1) 0 (by omega) (Nat.zero_le _)
  rw [List.drop_zero] at e
  refine call_sub (find := findLine (txt x).cps) (fun d hd => findLine_ends _ d hd) (fun d k e => findLine_go _ d k e) hp (by exact hx) (by decide +kernel) ?_ fun h' tk tok hk => ?_
  · show ((pieces (txt x) ⟨#[13, 10]⟩ (findLine (txt x).cps) ((txt x).cps.size + 1) 0).map (·.length)).sum ≤ sizeLine
    rw [sum_len, e]
    have := lines_len false x
    exact Nat.le_trans this (by omega)
  · have q := h h' tk tok hk
    rw [show txt (lines false x) = _ from (txt_eq ((glued_list _).trans e)).symm] at q
    exact q
theorem call_sub_dot {x : List Nat} {t rt : Tok} {pat : Addr} {Q : Value → Shared → Prop} (hp : IsPat s.heap pat codeDot) (hx : 2 * x.length + 2 ≤ sizeLine)
    (h : ∀ h' tk tok, (∀ b o, s.heap.get? b = some o → h'.get? b = some o) → Q (.str (txt (dots true x)) tok) { s with heap := h', toks := tk }) :
    wpAny (model prog w) A (call (.builtin "re.Pattern.sub") [.ref pat, .str (txt [46, 46]) rt, .str (txt x) t]) Q E s := by
  have e := pieces_dot (txt x) ((txt x).cps.size + 1) 0 (by omega) (Nat.zero_le _)
  rw [List.drop_zero] at e
  have hsz : (txt x).cps.size < 2 ^ 50 := by
    have : (txt x).cps.size = x.length := by simp [txt]
    rw [this]; rw [sizeLine_eq] at hx; omega
  refine call_sub (find := findDot (txt x).cps) (fun d hd => findDot_ends _ hsz d hd) (fun d k e => findDot_go _ d k e) hp (by exact hx) (by decide +kernel) ?_ fun h' tk tok hk => ?_
  · show ((pieces (txt x) ⟨#[46, 46]⟩ (findDot (txt x).cps) ((txt x).cps.size + 1) 0).map (·.length)).sum ≤ sizeLine
    rw [sum_len, e]
    have := dots_len true x
    exact Nat.le_trans this (by omega)
  · have q := h h' tk tok hk
    rw [show txt (dots true x) = _ from (txt_eq ((glued_list _).trans e)).symm] at q
    exact q
end
end Mine
end

section
open PySem PySem.Builtin PySem.Builtin.Str PySem.StrLaws
namespace Mine
theorem gives_find4 (x y : Str) (lo hi : Int) (t u v z : Tok) : Gives («str.find» ⟨[.str x t, .str y u, .int lo v, .int hi z], []⟩) (.int (match occurrences x y (fromIndex x.length lo) (min (fromIndex x.length hi) x.length) 1 with | k :: _ => (k : Int) | [] => -1)) := by
  show Gives (match occurrences x y (fromIndex x.length lo) (min (fromIndex x.length hi) x.length) 1 with | k :: _ => retInt k | [] => (do rule "str.find.not-found"; retInt (-1))) _
  cases occurrences x y (fromIndex x.length lo) (min (fromIndex x.length hi) x.length) 1 with
  | nil => exact .rule (.of_eq rfl)
  | cons k _ => exact .of_eq rfl
theorem gives_rfind4 (x y : Str) (lo hi : Int) (t u v z : Tok) : Gives («str.rfind» ⟨[.str x t, .str y u, .int lo v, .int hi z], []⟩) (.int (match lastOccurrence x y (fromIndex x.length lo) (min (fromIndex x.length hi) x.length) with | some k => (k : Int) | none => -1)) := by
  show Gives (match lastOccurrence x y (fromIndex x.length lo) (min (fromIndex x.length hi) x.length) with | some k => retInt k | none => (do rule "str.rfind.not-found"; retInt (-1))) _
  cases lastOccurrence x y (fromIndex x.length lo) (min (fromIndex x.length hi) x.length) with
  | none => exact .rule (.of_eq rfl)
  | some k => exact .of_eq rfl

/-- the first place of a sign below hi -/
def FirstAt (x : List Nat) (c hi : Nat) (r : Int) : Prop := (r = -1 ∧ ∀ i, i < hi → x[i]? ≠ some c) ∨ ∃ k : Nat, r = k ∧ k < hi ∧ x[k]? = some c ∧ ∀ i, i < k → x[i]? ≠ some c
def LastAt (x : List Nat) (c hi : Nat) (r : Int) : Prop := (r = -1 ∧ ∀ i, i < hi → x[i]? ≠ some c) ∨ ∃ k : Nat, r = k ∧ k < hi ∧ x[k]? = some c ∧ ∀ i, k < i → i < hi → x[i]? ≠ some c

theorem at_one (x : List Nat) (c hi i : Nat) (hh : hi ≤ x.length) : At (txt x) ⟨#[c]⟩ hi i ↔ i < hi ∧ x[i]? = some c := by
  have h := subAt_one (txt x) c i
  have e : (txt x).cps.toList = x := by simp [txt]
  have l : (txt x).length = x.length := by simp [txt, Str.length]
  rw [e, l] at h
  unfold At
  show i + 1 ≤ hi ∧ _ ↔ _
  constructor
  · rintro ⟨a, b⟩
    exact ⟨by omega, h.mp ⟨show i + 1 ≤ x.length by omega, b⟩⟩
  · rintro ⟨a, b⟩
    exact ⟨by omega, (h.mpr b).2⟩
theorem first_spec (x : List Nat) (c hi : Nat) (hh : hi ≤ x.length) : FirstAt x c hi (match occurrences (txt x) ⟨#[c]⟩ 0 hi 1 with | k :: _ => (k : Int) | [] => -1) := by
  rw [occ_eq]
  rcases occ_first (txt x) ⟨#[c]⟩ hi 1 (Nat.le_refl _) (List.range' 0 (hi + 1 - 0)) 0 (fun i _ => Nat.zero_le _) with ⟨e, q⟩ | ⟨pre, a, post, es, e, q1, q2⟩
  · rw [e]
    refine .inl ⟨rfl, fun i hi' hx => ?_⟩
    exact q i (by rw [List.mem_range'_1]; omega) ((at_one x c hi i hh).mpr ⟨hi', hx⟩)
  · have hp := range'_split es
    obtain ⟨b1, b2⟩ := (at_one x c hi a hh).mp q1
    generalize (forIn (List.range' 0 (hi + 1 - 0)) ((#[] : Array Nat), 0) (occBody (txt x) ⟨#[c]⟩ hi 1)).run.fst = arr at e
    have : ∃ r, arr.toList = a :: r := by
      have e' : arr.toList[0]? = some a := by simpa using e
      cases hl : arr.toList with
      | nil => rw [hl] at e'; cases e'
      | cons y r => rw [hl] at e'; cases e'; exact ⟨r, rfl⟩
    obtain ⟨r, hr⟩ := this
    rw [hr]
    exact .inr ⟨a, rfl, b1, b2, fun i hi' hx => q2 i (hp i hi') ((at_one x c hi i hh).mpr ⟨by omega, hx⟩)⟩
theorem last_spec' (x : List Nat) (c hi : Nat) (hh : hi ≤ x.length) : LastAt x c hi (match lastOccurrence (txt x) ⟨#[c]⟩ 0 hi with | some k => (k : Int) | none => -1) := by
  rw [last_eq]
  have h := last_run (txt x) ⟨#[c]⟩ hi (List.range' 0 (hi + 1 - 0)) [] none (fun i hi => nomatch hi) (fun i hi => nomatch hi) List.pairwise_lt_range'
  cases hr : (forIn (List.range' 0 (hi + 1 - 0)) none (lastBody (txt x) ⟨#[c]⟩ hi)).run with
  | none =>
    rw [hr] at h
    exact .inl ⟨rfl, fun i hi' hx => h i (by rw [List.nil_append, List.mem_range'_1]; omega) ((at_one x c hi i hh).mpr ⟨hi', hx⟩)⟩
  | some a =>
    rw [hr] at h
    obtain ⟨q1, q2⟩ := h
    obtain ⟨b1, b2⟩ := (at_one x c hi a hh).mp q1
    exact .inr ⟨a, rfl, b1, b2, fun i h1 h2 hx => q2 i (by rw [List.nil_append, List.mem_range'_1]; omega) h1 ((at_one x c hi i hh).mpr ⟨h2, hx⟩)⟩

section
variable {prog : Program} {w : World} {A : Around} {E : Value → Shared → Prop} {s : Shared} {Q : Value → Shared → Prop}
theorem txt_length (x : List Nat) : (txt x).length = x.length := by simp [txt, Str.length]
theorem call_find2 {x : List Nat} {c : Nat} {t u : Tok} (h : ∀ r, FirstAt x c x.length r → Q (.int r s.toks) { s with toks := s.toks + 1 }) :
    wpAny (model prog w) A (call (.builtin "str.find") [.str (txt x) t, .str ⟨#[c]⟩ u]) Q E s := by
  refine SC.find (h _ ?_)
  have := first_spec x c x.length (Nat.le_refl _)
  unfold Txt.find
  rw [txt_length]; exact this
theorem call_find4 {x : List Nat} {c hi : Nat} {t u v z : Tok} (hh : hi ≤ x.length) (h : ∀ r, FirstAt x c hi r → Q (.int r s.toks) { s with toks := s.toks + 1 }) :
    wpAny (model prog w) A (call (.builtin "str.find") [.str (txt x) t, .str ⟨#[c]⟩ u, .int 0 v, .int hi z]) Q E s := by
  have q := first_spec x c hi hh
  have e0 : fromIndex (txt x).length 0 = 0 := rfl
  have e1 : min (fromIndex (txt x).length (hi : Int)) (txt x).length = hi := by
    have : fromIndex (txt x).length (hi : Int) = hi := by unfold fromIndex; rw [if_neg (by omega)]; omega
    rw [this, txt_length]; omega
  have g := gives_find4 (txt x) ⟨#[c]⟩ 0 hi t u v z
  rw [e0, e1] at g
  exact call_gives F.slot_str_find (typeIs_str _ _ _) F.entry_str_find (F.args_str_find_4 _ _ _ _) g (h _ q)
theorem call_rfind4 {x : List Nat} {c hi : Nat} {t u v z : Tok} (hh : hi ≤ x.length) (h : ∀ r, LastAt x c hi r → Q (.int r s.toks) { s with toks := s.toks + 1 }) :
    wpAny (model prog w) A (call (.builtin "str.rfind") [.str (txt x) t, .str ⟨#[c]⟩ u, .int 0 v, .int hi z]) Q E s := by
  have q := last_spec' x c hi hh
  have e0 : fromIndex (txt x).length 0 = 0 := rfl
  have e1 : min (fromIndex (txt x).length (hi : Int)) (txt x).length = hi := by
    have : fromIndex (txt x).length (hi : Int) = hi := by unfold fromIndex; rw [if_neg (by omega)]; omega
    rw [this, txt_length]; omega
  have g := gives_rfind4 (txt x) ⟨#[c]⟩ 0 hi t u v z
  rw [e0, e1] at g
  exact call_gives F.slot_str_rfind (typeIs_str _ _ _) F.entry_str_rfind (F.args_str_rfind_4 _ _ _ _) g (h _ q)
end

/-- what the four lines make of the text -/
theorem takeWhile_of_first {x : List Nat} {p : Nat → Bool} : ∀ {k : Nat}, (∀ i a, i < k → x[i]? = some a → p a = true) → (∀ a, x[k]? = some a → p a = false) → k ≤ x.length → x.takeWhile p = x.take k := by
  induction x with
  | nil => intro k _ _ h; simp
  | cons a r ih =>
    intro k h1 h2 hk
    cases k with
    | zero =>
      have := h2 a rfl
      simp [this]
    | succ k =>
      have := h1 0 a (by omega) rfl
      rw [List.takeWhile_cons, this, if_pos rfl, List.take_succ_cons, ih (k := k) (fun i b hi hb => h1 (i + 1) b (by omega) (by simpa using hb)) (fun b hb => h2 b (by simpa using hb)) (by simpa using hk)]
theorem behindDot_of_last {y : List Nat} {j : Nat} (h1 : y[j]? = some 46) (h2 : ∀ i, j < i → i < y.length → y[i]? ≠ some 46) : behindDot y = y.drop (j + 1) := by
  have hj : j < y.length := (List.getElem?_eq_some_iff.mp h1).1
  have e : y = y.take j ++ 46 :: y.drop (j + 1) := by
    have := List.getElem?_eq_some_iff.mp h1
    conv => lhs; rw [← List.take_append_drop j y, List.drop_eq_getElem_cons hj, this.2]
  have hn : 46 ∉ y.drop (j + 1) := by
    intro hm
    obtain ⟨i, hi, he⟩ := List.getElem_of_mem hm
    refine h2 (j + 1 + i) (by omega) (by simp at hi; omega) ?_
    rw [← List.getElem?_drop, List.getElem?_eq_getElem hi, he]
  have := behindDot_some (y.take j) (y.drop (j + 1)) hn
  rw [← e] at this
  exact this
theorem stripped_of {x : List Nat} {e1 e2 st : Nat} {r1 r2 r3 : Int} (f1 : FirstAt x 10 x.length r1) (g1 : (e1 : Int) = if 0 ≤ r1 then r1 else (x.length : Int)) (f2 : FirstAt x 58 e1 r2) (g2 : (e2 : Int) = if 0 ≤ r2 then r2 else (e1 : Int))
    (f3 : LastAt x 46 e2 r3) (g3 : (st : Int) = if 0 ≤ r3 then r3 + 1 else 0) : e1 ≤ x.length ∧ e2 ≤ x.length ∧ st ≤ e2 ∧ stripped x = (x.drop st).take (e2 - st) := by
  have h1 : e1 ≤ x.length ∧ (∀ i a, i < e1 → x[i]? = some a → a ≠ 10) ∧ (∀ a, x[e1]? = some a → a = 10) := by
    rcases f1 with ⟨rfl, q⟩ | ⟨k, rfl, q1, q2, q3⟩
    · rw [if_neg (by omega)] at g1
      obtain rfl : e1 = x.length := by omega
      exact ⟨Nat.le_refl _, fun i a hi ha e => q i hi (by rw [ha, e]), fun a ha => by rw [List.getElem?_eq_none (Nat.le_refl _)] at ha; cases ha⟩
    · rw [if_pos (by omega)] at g1
      obtain rfl : e1 = k := by omega
      exact ⟨by omega, fun i a hi ha e => q3 i hi (by rw [ha, e]), fun a ha => by rw [q2] at ha; cases ha; rfl⟩
  have h2 : e2 ≤ e1 ∧ (∀ i a, i < e2 → x[i]? = some a → a ≠ 58) ∧ (∀ a, x[e2]? = some a → a = 10 ∨ a = 58) := by
    rcases f2 with ⟨rfl, q⟩ | ⟨k, rfl, q1, q2, q3⟩
    · rw [if_neg (by omega)] at g2
      obtain rfl : e2 = e1 := by omega
      exact ⟨Nat.le_refl _, fun i a hi ha e => q i hi (by rw [ha, e]), fun a ha => .inl (h1.2.2 a ha)⟩
    · rw [if_pos (by omega)] at g2
      obtain rfl : e2 = k := by omega
      exact ⟨by omega, fun i a hi ha e => q3 i hi (by rw [ha, e]), fun a ha => by rw [q2] at ha; cases ha; exact .inr rfl⟩
  have hc : cut x = x.take e2 := takeWhile_of_first (fun i a hi ha => by
      have a1 := h1.2.1 i a (by omega) ha
      have a2 := h2.2.1 i a hi ha
      simp [a1, a2]) (fun a ha => by
      rcases h2.2.2 a ha with rfl | rfl <;> rfl) (by omega)
  refine ⟨h1.1, by omega, ?_, ?_⟩
  · rcases f3 with ⟨rfl, q⟩ | ⟨k, rfl, q1, q2, q3⟩
    · rw [if_neg (by omega)] at g3; omega
    · rw [if_pos (by omega)] at g3; omega
  · show behindDot (cut x) = _
    rw [hc]
    have hlen : (x.take e2).length = e2 := by rw [List.length_take]; omega
    have hget : ∀ i, i < e2 → (x.take e2)[i]? = x[i]? := fun i hi => List.getElem?_take_of_lt hi
    rcases f3 with ⟨rfl, q⟩ | ⟨k, rfl, q1, q2, q3⟩
    · rw [if_neg (by omega)] at g3
      obtain rfl : st = 0 := by omega
      rw [List.drop_zero, Nat.sub_zero]
      refine behindDot_none _ fun hm => ?_
      obtain ⟨i, hi, he⟩ := List.getElem_of_mem hm
      rw [hlen] at hi
      refine q i hi ?_
      rw [← hget i hi, List.getElem?_eq_getElem (by rw [hlen]; exact hi), he]
    · rw [if_pos (by omega)] at g3
      obtain rfl : st = k + 1 := by omega
      rw [behindDot_of_last (j := k) (by rw [hget k q1]; exact q2) (fun i a b => by rw [hlen] at b; rw [hget i b]; exact q3 i a b), List.drop_take]
end Mine
end

section
open PySem PyProof.Rows PySem.Calls
set_option maxRecDepth 100000
namespace Mine
abbrev pw : Program := PySem.Challenge.pw_re0109_01
def defAt (i : Nat) : Str × Arguments × List Stmt × Scope := match pw.main.body[i]? with | some (.FunctionDef n a b _ _ _ sc _ _ _) => (n, a, b, sc) | _ => (Str.empty, default, [], default)
/-- a def of the text's, as it stands in the heap -/
def FnAt (h : Heap) (i : Nat) (a : Addr) : Prop :=
  ∃ o pm cd doc, h.get? a = some o ∧ o.data = .func (docDef (defAt i).1 (defAt i).2.1 (defAt i).2.2.1 (defAt i).2.2.2 pm cd doc) ∧ h.CodeRec cd (defAt i).1
abbrev Keeps (h h' : Heap) : Prop := ∀ b o, h.get? b = some o → h'.get? b = some o
theorem FnAt.keeps {h h' : Heap} {i : Nat} {a : Addr} (x : FnAt h i a) (k : Keeps h h') : FnAt h' i a := by
  obtain ⟨o, pm, cd, doc, h1, h2, h3⟩ := x
  exact ⟨o, pm, cd, doc, k _ _ h1, h2, h3.keeps k⟩
theorem fr_keeps {h₀ h h' : Heap} {L : Addr} {m : Str → Option Value} (F : Fr h₀ L h m) (k : Keeps h h') : Fr h₀ L h' m := ⟨F.ns.keeps k, fun b o e => k b o (F.keep b o e), F.above⟩
theorem news_keeps {h₀ h h' : Heap} {L : Addr} {news : List (Addr × Obj)} (N : News h₀ L h news) (k : Keeps h h') : News h₀ L h' news := fun p hp => ⟨k _ _ (N p hp).1, (N p hp).2⟩

/-- the names that the text's defs find outside of themselves -/
structure Base (mg mb : Str → Option Value) (h : Heap) : Prop where
  g : h.Ns mainGlobals mg
  b : h.Ns builtinsNs mb
  lim : h.NoLimit
  len0 : mg (Str.ofString "len") = none
  ord0 : mg (Str.ofString "ord") = none
  range0 : mg (Str.ofString "range") = none
  len : mb (Str.ofString "len") = some (.builtin "len")
  ord : mb (Str.ofString "ord") = some (.builtin "ord")
  range : mb (Str.ofString "range") = some (.type "range")
theorem Base.keeps {mg mb : Str → Option Value} {h h' : Heap} (B : Base mg mb h) (k : Keeps h h') : Base mg mb h' :=
  ⟨B.g.keeps k, B.b.keeps k, B.lim.keeps k, B.len0, B.ord0, B.range0, B.len, B.ord, B.range⟩

section
variable {M : Model} {A : Around} {E : Value → Shared → Prop} {s : Shared} {name : Str} {scope : Scope} {L a : Addr} {cd : Value} {h₀ : Heap} {m mg mb : Str → Option Value}
theorem nm_builtin {x : Str} {pos : Pos} {v : Value} {Q : Value → Shared → Prop} (B : Base mg mb s.heap) (h0 : mg x = none) (hv : mb x = some v) (h : Q v s)
    (hk : scope.kind = .function := by rfl) (hx : (envOf name scope L a cd).kindOf x = some .globalImplicit := by rfl) (hd : (x == ("__debug__" : Str)) = false := by decide) :
    wpAny M A (eval (.Name x pos) (envOf name scope L a cd)) Q E s := Name_function_global hk hx (loadGlobal_builtin B.g h0 B.b hv h) hd
theorem nm_global {x : Str} {pos : Pos} {v : Value} {Q : Value → Shared → Prop} (B : Base mg mb s.heap) (hv : mg x = some v) (h : Q v s)
    (hk : scope.kind = .function := by rfl) (hx : (envOf name scope L a cd).kindOf x = some .globalImplicit := by rfl) (hd : (x == ("__debug__" : Str)) = false := by decide) :
    wpAny M A (eval (.Name x pos) (envOf name scope L a cd)) Q E s := Name_function_global hk hx (loadGlobal_global B.g hv h) hd
end

abbrev Sh (s : Shared) (h : Heap) (tk : Nat) : Shared := ⟨h, s.gens, s.drawn, tk, s.os⟩
theorem any_tok {M : Model} {A : Around} {α : Type} {t : Sem α} {Q : α → Shared → Prop} {E : Value → Shared → Prop} {s : Shared} {h : Heap} {k : Nat} (H : ∀ tk, wpAny M A t Q E (Sh s h tk)) : wpAny M A t Q E (Sh s h k) := H k

theorem upd_ne {m : Str → Option Value} {x y : Str} {v u : Value} (hm : m y = some u) (h : y ≠ x := by decide +kernel) : (fun z => if z = x then some v else m z) y = some u := by
  show (if y = x then some v else m y) = some u
  rw [if_neg h]; exact hm
theorem upd_ne2 {m : Str → Option Value} {x x' y : Str} {v v' u : Value} (hm : m y = some u) (h : y ≠ x := by decide +kernel) (h' : y ≠ x' := by decide +kernel) : (fun z => if z = x then some v else if z = x' then some v' else m z) y = some u := by
  show (if y = x then some v else if y = x' then some v' else m y) = some u
  rw [if_neg h, if_neg h']; exact hm
theorem upd_eq {m : Str → Option Value} {x : Str} {v : Value} : (fun z => if z = x then some v else m z) x = some v := by
  show (if x = x then some v else m x) = some v
  rw [if_pos rfl]

theorem slice_txt {x : List Nat} {i j : Nat} (h1 : i ≤ j) (h2 : j ≤ x.length) : Txt.slice (txt x) (some (i : Int)) (some (j : Int)) = txt ((x.drop i).take (j - i)) := by
  have h := slice_closesL (x := txt x) (i := i) (j := j) (by omega) (by omega) (by rw [txt_length]; omega)
  have h := beq_iff_eq.mp h
  rw [h]
  have e : (txt x).cps.toList = x := by simp [txt]
  rw [e, show ((i : Int)).toNat = i by omega, show ((j : Int) - i).toNat = j - i by omega]
  rfl

set_option maxHeartbeats 4000000 in
theorem call_strip {w : World} {A : Around} {E : Value → Shared → Prop} {s : Shared} {a : Addr} {x : List Nat} {t : Tok} {Q : Value → Shared → Prop} {mg mb : Str → Option Value} (B : Base mg mb s.heap) (hf : FnAt s.heap 2 a)
    (hroom : A.depth < recursionLimit) (hh : A.handled = none) (hlen : x.length ≤ sizeLine)
    (h : ∀ h' tk tok, Keeps s.heap h' → Q (.str (txt (stripped x)) tok) { s with heap := h', toks := tk }) :
    wpAny (model pw w) A (call (.ref a) [.str (txt x) t]) Q E s := by
  obtain ⟨o, pm, cd, doc, h1, h2, h3⟩ := hf
  refine wpAny_call (call_pos_ret hroom h1 h2 B.lim h3 rfl (locs (by rfl)) ?_ rfl rfl rfl (by decide +kernel))
  intro h₁ F
  show wpAny _ _ (execs (_ :: _ :: _ :: _ :: _ :: _ :: _ :: _ :: []) _) _ _ _
  have B₁ : Base mg mb h₁ := B.keeps F.keep
  have hls : (txt x).length ≤ sizeLine := by rw [txt_length]; exact hlen
  have hli : ¬ ((txt x).length : Int) ≥ 2 ^ 63 := by rw [sizeLine_eq] at hls; omega
  have e10 : Str.ofString "\n" = ⟨#[10]⟩ := by decide +kernel
  have e58 : Str.ofString ":" = ⟨#[58]⟩ := by decide +kernel
  have e46 : Str.ofString "." = ⟨#[46]⟩ := by decide +kernel
  -- the two places
  refine wpAny_execs_cons (Assign_Tuple_swapped (Tuple_ (args_cons (wpAny_Constant_int (args_cons (Call_ (nm_builtin B₁ B₁.len0 B₁.len (callWith_builtin1 (args_cons (ld F rfl (args_nil (len_str hli (args_nil ?_)))))))))))))
  refine newTuple_N F News.nil (fun h₂ F₂ N₂ => ?_) (Nat.le_of_ble_eq_true rfl)
  refine unpackItems_ F₂ ⟨_, (N₂ _ List.mem_cons_self).1, rfl, 0, rfl⟩ hh rfl fun h₃ F₃ => ?_
  refine assignInOrder_cons (wpAny_bindName (st F₃ fun h₄ F₄ => ?_))
  refine assignInOrder_cons (wpAny_bindName (st F₄ fun h₅ F₅ => ?_))
  refine assignInOrder_nil ?_
  refine any_tok (s := s) (h := h₅) fun tk => ?_
  -- the first feed
  refine wpAny_execs_cons (wpAny_Assign_Name (MethodCall_ (ld F₅ rfl (GM.find (callWith_method1 (args_cons (Constant_str (args_nil ?_))))))))
  rw [e10]
  refine call_find2 fun r1 f1 => st F₅ fun h₆ F₆ => ?_
  refine any_tok (s := s) (h := h₆) fun tk => ?_
  -- the right place moved
  refine wpAny_execs_cons (wpAny_mono (Q := fun f s' => f = .next ∧ ∃ h tk m ta tb tc e1, s' = Sh s h tk ∧ Fr s.heap s.heap.objs.size h m ∧ m (Str.ofString "msg") = some (.str (txt x) ta) ∧ m (Str.ofString "start") = some (.int 0 tb) ∧
    m (Str.ofString "end") = some (.int e1 tc) ∧ e1 = if 0 ≤ r1 then r1 else (x.length : Int)) ?_ (fun f s' hp => ?_) fun _ _ x => x)
  · refine wpAny_If (wpAny_isTrue_Compare1 (ld F₆ rfl (wpAny_Constant_int (PyProof.Rows.ge_int (wpAny_truthy_bool ?_)))))
    by_cases hr : 0 ≤ r1
    · rw [if_pos (by simpa using hr)]
      refine wpAny_execs_cons (wpAny_Assign_Name (ld F₆ rfl (st F₆ fun h₇ F₇ => wpAny_execs_nil ⟨rfl, h₇, _, _, _, _, _, _, rfl, F₇, rfl, rfl, rfl, by rw [if_pos hr]⟩)))
    · rw [if_neg (by simpa using hr)]
      exact wpAny_execs_nil ⟨rfl, h₆, _, _, _, _, _, _, rfl, F₆, rfl, rfl, rfl, by rw [if_neg hr, txt_length]⟩
  obtain ⟨rfl, h₇, tk, m, ta, tb, tc, e1, rfl, F₇, m1, m2, m3, g1⟩ := hp
  dsimp only
  obtain ⟨n1, rfl, hn1⟩ : ∃ n1 : Nat, e1 = n1 ∧ n1 ≤ x.length := by
    rcases f1 with ⟨q, _⟩ | ⟨k, q, q1, _⟩
    · exact ⟨x.length, by rw [g1, if_neg (by omega)], Nat.le_refl _⟩
    · exact ⟨k, by rw [g1, if_pos (by omega), q], by omega⟩
  -- the first colon
  refine wpAny_execs_cons (wpAny_Assign_Name (MethodCall_ (ld F₇ m1 (GM.find (callWith_method1 (args_cons (Constant_str (args_cons (wpAny_Constant_int (args_cons (ld F₇ m3 (args_nil ?_))))))))))))
  rw [e58]
  refine call_find4 hn1 fun r2 f2 => st F₇ fun h₈ F₈ => ?_
  refine any_tok (s := s) (h := h₈) fun tk => ?_
  -- the right place moved
  refine wpAny_execs_cons (wpAny_mono (Q := fun f s' => f = .next ∧ ∃ h tk m ta tb tc e2, s' = Sh s h tk ∧ Fr s.heap s.heap.objs.size h m ∧ m (Str.ofString "msg") = some (.str (txt x) ta) ∧ m (Str.ofString "start") = some (.int 0 tb) ∧
    m (Str.ofString "end") = some (.int e2 tc) ∧ e2 = if 0 ≤ r2 then r2 else (n1 : Int)) ?_ (fun f s' hp => ?_) fun _ _ x => x)
  · refine wpAny_If (wpAny_isTrue_Compare1 (ld F₈ upd_eq (wpAny_Constant_int (PyProof.Rows.ge_int (wpAny_truthy_bool ?_)))))
    by_cases hr : 0 ≤ r2
    · rw [if_pos (by simpa using hr)]
      refine wpAny_execs_cons (wpAny_Assign_Name (ld F₈ upd_eq (st F₈ fun h₉ F₉ => wpAny_execs_nil ⟨rfl, h₉, _, _, _, _, _, _, rfl, F₉, upd_ne2 m1, upd_ne2 m2, upd_eq, by rw [if_pos hr]⟩)))
    · rw [if_neg (by simpa using hr)]
      exact wpAny_execs_nil ⟨rfl, h₈, _, _, _, _, _, _, rfl, F₈, upd_ne m1, upd_ne m2, upd_ne m3, by rw [if_neg hr]⟩
  obtain ⟨rfl, h₉, tk, m', ta, tb, tc, e2, rfl, F₉, m1, m2, m3, g2⟩ := hp
  dsimp only
  obtain ⟨n2, rfl, hn2⟩ : ∃ n2 : Nat, e2 = n2 ∧ n2 ≤ x.length := by
    rcases f2 with ⟨q, _⟩ | ⟨k, q, q1, _⟩
    · exact ⟨n1, by rw [g2, if_neg (by omega)], hn1⟩
    · exact ⟨k, by rw [g2, if_pos (by omega), q], by omega⟩
  -- the last dot
  refine wpAny_execs_cons (wpAny_Assign_Name (MethodCall_ (ld F₉ m1 (GM.rfind (callWith_method1 (args_cons (Constant_str (args_cons (wpAny_Constant_int (args_cons (ld F₉ m3 (args_nil ?_))))))))))))
  rw [e46]
  refine call_rfind4 hn2 fun r3 f3 => st F₉ fun h₁₀ F₁₀ => ?_
  refine any_tok (s := s) (h := h₁₀) fun tk => ?_
  -- the left place moved
  refine wpAny_execs_cons (wpAny_mono (Q := fun f s' => f = .next ∧ ∃ h tk m ta tb tc b, s' = Sh s h tk ∧ Fr s.heap s.heap.objs.size h m ∧ m (Str.ofString "msg") = some (.str (txt x) ta) ∧ m (Str.ofString "start") = some (.int b tb) ∧
    m (Str.ofString "end") = some (.int n2 tc) ∧ b = if 0 ≤ r3 then r3 + 1 else 0) ?_ (fun f s' hp => ?_) fun _ _ x => x)
  · refine wpAny_If (wpAny_isTrue_Compare1 (ld F₁₀ upd_eq (wpAny_Constant_int (PyProof.Rows.ge_int (wpAny_truthy_bool ?_)))))
    by_cases hr : 0 ≤ r3
    · rw [if_pos (by simpa using hr)]
      refine wpAny_execs_cons (wpAny_Assign_Name (wpAny_BinOp (ld F₁₀ upd_eq (wpAny_Constant_int (PyProof.Rows.add_int (st F₁₀ fun h F => wpAny_execs_nil ⟨rfl, h, _, _, _, _, _, _, rfl, F, upd_ne2 m1, upd_eq, upd_ne2 m3, by rw [if_pos hr]⟩))))))
    · rw [if_neg (by simpa using hr)]
      exact wpAny_execs_nil ⟨rfl, h₁₀, _, _, _, _, _, _, rfl, F₁₀, upd_ne m1, upd_ne m2, upd_ne m3, by rw [if_neg hr]⟩
  obtain ⟨rfl, h₁₁, tk, m', ta, tb, tc, b, rfl, F₁₁, m1, m2, m3, g3⟩ := hp
  dsimp only
  obtain ⟨n3, rfl⟩ : ∃ n3 : Nat, b = n3 := by
    rw [g3]
    by_cases hr : 0 ≤ r3
    · exact ⟨(r3 + 1).toNat, by rw [if_pos hr]; omega⟩
    · exact ⟨0, by rw [if_neg hr]; rfl⟩
  obtain ⟨z1, z2, z3, z4⟩ := stripped_of f1 g1 f2 g2 f3 g3
  -- the cut
  refine wpAny_execs_cons (wpAny_Return_some (wpAny_Subscript_str_slice (ld F₁₁ m1 ?_)))
  rw [evalPart_some]
  refine ld F₁₁ m2 ?_
  rw [evalPart_some]
  refine ld F₁₁ m3 ?_
  refine ⟨txt x, ta, some (n3, tb), some (n2, tc), rfl, rfl, rfl, ?_⟩
  refine post_val_or_str ⟨Nat.le_trans (Txt.slice_le _ _ _) hls, fun t' k => ?_⟩
  have ez : Txt.slice (txt x) (some (n3 : Int)) (some (n2 : Int)) = txt (stripped x) := by rw [z4]; exact slice_txt z3 z2
  have q := h (h₁₁.push { cls := Value.type "slice", data := Data.fields #[Value.int (↑n3) tb, Value.int (↑n2) tc, Value.none] }) k t' fun b o e => Heap.get?_push_of_some _ (F₁₁.keep b o e)
  rw [← ez] at q
  exact q
end Mine
end

section
open PySem PyProof.Rows PySem.Calls
set_option maxRecDepth 100000
namespace Mine
theorem IsPat.typeIs {s : Shared} {a : Addr} {C : Array Nat} (x : IsPat s.heap a C) : s.TypeIs (.ref a) "re.Pattern" := let ⟨o, _, _, _, _, _, _, h1, h2, _⟩ := x; ⟨o, h1, h2⟩
theorem IsPat.noDict {s : Shared} {a : Addr} {C : Array Nat} (x : IsPat s.heap a C) : ∀ b, Value.ref a = .ref b → ∃ o, s.heap.get? b = some o ∧ o.dict = none := fun b e => by
  injection e with e; subst e; exact let ⟨o, _, _, _, _, _, _, h1, _, h3, _⟩ := x; ⟨o, h1, h3⟩
/-- what quotedata finds outside of itself -/
structure QuoteAt (mg : Str → Option Value) (h : Heap) : Prop where
  dot : ∃ a, mg (Str.ofString "_twin_re_1") = some (.ref a) ∧ IsPat h a codeDot
  line : ∃ a, mg (Str.ofString "_twin_re_2") = some (.ref a) ∧ IsPat h a codeLine
  crlf : ∃ t, mg (Str.ofString "CRLF") = some (.str (txt [13, 10]) t)
theorem QuoteAt.keeps {mg : Str → Option Value} {h h' : Heap} (x : QuoteAt mg h) (k : Keeps h h') : QuoteAt mg h' :=
  ⟨let ⟨a, e, p⟩ := x.dot; ⟨a, e, p.keeps k⟩, let ⟨a, e, p⟩ := x.line; ⟨a, e, p.keeps k⟩, x.crlf⟩

set_option maxHeartbeats 4000000 in
theorem call_quote {w : World} {A : Around} {E : Value → Shared → Prop} {s : Shared} {a : Addr} {x : List Nat} {t : Tok} {Q : Value → Shared → Prop} {mg mb : Str → Option Value} (B : Base mg mb s.heap) (G : QuoteAt mg s.heap) (hf : FnAt s.heap 7 a)
    (hroom : A.depth < recursionLimit) (hlen : 4 * x.length + 2 ≤ sizeLine)
    (h : ∀ h' tk tok, Keeps s.heap h' → Q (.str (txt (quoted x)) tok) { s with heap := h', toks := tk }) :
    wpAny (model pw w) A (call (.ref a) [.str (txt x) t]) Q E s := by
  obtain ⟨o, pm, cd, doc, h1, h2, h3⟩ := hf
  refine wpAny_call (call_pos_ret hroom h1 h2 B.lim h3 rfl (locs (by rfl)) ?_ rfl rfl rfl (by decide +kernel))
  intro h₁ F
  show wpAny _ _ (execs (_ :: []) _) _ _ _
  have B₁ : Base mg mb h₁ := B.keeps F.keep
  have G₁ := G.keeps F.keep
  obtain ⟨p1, ep1, P1⟩ := G₁.dot
  obtain ⟨p2, ep2, P2⟩ := G₁.line
  obtain ⟨tc, ec⟩ := G₁.crlf
  have e46 : Str.ofString ".." = txt [46, 46] := by decide +kernel
  have hll := lines_len false x
  refine wpAny_execs_cons (wpAny_Return_some (MethodCall_ (nm_global B₁ ep1 (getMethod_builtin (IsPat.typeIs P1) plainAttrs_pat slot_pat_sub type_pat_sub (IsPat.noDict P1) (callWith_method1 (args_cons (Constant_str (args_cons ?_))))))))
  refine MethodCall_ (nm_global B₁ ep2 (getMethod_builtin (IsPat.typeIs P2) plainAttrs_pat slot_pat_sub type_pat_sub (IsPat.noDict P2) (callWith_method1 (args_cons (nm_global B₁ ec (args_cons (ld F rfl (args_nil ?_))))))))
  refine call_sub_line P2 (by omega) fun h₂ tk tok k₂ => ?_
  refine args_nil ?_
  rw [e46]
  refine call_sub_dot (P1.keeps k₂) (by omega) fun h₃ tk' tok' k₃ => ?_
  exact h h₃ tk' tok' fun b o e => k₃ b o (k₂ b o (F.keep b o e))
end Mine
end

section
open PySem PyProof.Rows PySem.Calls
set_option maxRecDepth 100000
namespace Mine
def alphabet : List Nat := [46, 13, 75, 13255, 8203, 223, 58, 10, 32, 107, 99, 111, 115]
/-- the two tables, as far as the alphabet asks them -/
structure TablesAt (w : World) (mg : Str → Option Value) (h : Heap) : Prop where
  b1 : ∃ a S n, mg (Str.ofString "b1_set") = some (.ref a) ∧ h.SetOf (intKind pw w) a S n ∧ ∀ c ∈ alphabet, S (c : Int) = decide (c = 8203)
  b3 : ∃ a f, mg (Str.ofString "b3_exceptions") = some (.ref a) ∧ (a == sysModules) = false ∧ h.MapOf (intKind pw w) a f ∧ (∃ t, f 223 = some (.str (txt [115, 115]) t)) ∧ (∃ t, f 13255 = some (.str (txt [99, 111, 46]) t)) ∧
    ∀ c ∈ alphabet, c ≠ 223 → c ≠ 13255 → f (c : Int) = none
theorem TablesAt.keeps {w : World} {mg : Str → Option Value} {h h' : Heap} (x : TablesAt w mg h) (k : Keeps h h') : TablesAt w mg h' := by
  obtain ⟨⟨a, S, n, e, ⟨o, es, ep, t, ho, r⟩, q⟩, ⟨a', f, e', hs, ⟨o', es', ep', ho', r'⟩, q'⟩⟩ := x
  exact ⟨⟨a, S, n, e, ⟨o, es, ep, t, k _ _ ho, r⟩, q⟩, ⟨a', f, e', hs, ⟨o', es', ep', k _ _ ho', r'⟩, q'⟩⟩
theorem MapOf.noDict {w : World} {s : Shared} {a : Addr} {f : Int → Option Value} (x : s.heap.MapOf (intKind pw w) a f) : ∀ b, Value.ref a = .ref b → ∃ o, s.heap.get? b = some o ∧ o.dict = none := fun b e => by
  injection e with e; subst e; exact let ⟨o, _, _, ho, hc, _⟩ := x; ⟨o, ho, hc.2.1⟩

theorem const_none {M : Model} {A : Around} {E : Value → Shared → Prop} {s : Shared} {env : Env} {k : Nat} {pos : Pos} {Q : Value → Shared → Prop} (h : Q .none s) : wpAny M A (eval (.Constant .none k pos) env) Q E s := fun _ _ _ => h

set_option maxHeartbeats 4000000 in
theorem call_b1 {w : World} {A : Around} {E : Value → Shared → Prop} {s : Shared} {a : Addr} {c : Nat} {t : Tok} {Q : Value → Shared → Prop} {mg mb : Str → Option Value} (B : Base mg mb s.heap) (T : TablesAt w mg s.heap) (hf : FnAt s.heap 10 a)
    (hroom : A.depth < recursionLimit) (hc : c ∈ alphabet)
    (h : ∀ h' tk, Keeps s.heap h' → Q (.bool (decide (c = 8203))) { s with heap := h', toks := tk }) :
    wpAny (model pw w) A (call (.ref a) [.str (txt [c]) t]) Q E s := by
  obtain ⟨o, pm, cd, doc, h1, h2, h3⟩ := hf
  refine wpAny_call (call_pos_ret hroom h1 h2 B.lim h3 rfl (locs (by rfl)) ?_ rfl rfl rfl (by decide +kernel))
  intro h₁ F
  show wpAny _ _ (execs (_ :: []) _) _ _ _
  have B₁ : Base mg mb h₁ := B.keeps F.keep
  obtain ⟨sa, S, n, es, hS, hq⟩ := (T.keeps F.keep).b1
  refine wpAny_execs_cons (wpAny_Return_some (wpAny_Compare1 (Call_ (nm_builtin B₁ B₁.ord0 B₁.ord (callWith_builtin1 (args_cons (ld F rfl (args_nil (P.ord_of_char (c := c) ?_)))))))))
  refine nm_global (s := { (Sh s h₁ _) with toks := _ }) B₁ es ?_
  refine wpAny_inSet_of (knd := intKind pw w) (k := (c : Int)) (by simp [intKind, Value.isInt]) rfl hS ?_
  rw [hq c hc]
  exact h h₁ _ F.keep

set_option maxHeartbeats 4000000 in
theorem call_b3 {w : World} {A : Around} {E : Value → Shared → Prop} {s : Shared} {a : Addr} {c : Nat} {t : Tok} {Q : Value → Shared → Prop} {mg mb : Str → Option Value} (B : Base mg mb s.heap) (T : TablesAt w mg s.heap) (hf : FnAt s.heap 12 a)
    (hroom : A.depth < recursionLimit) (hc : c ∈ alphabet) (h8 : c ≠ 8203)
    (h : ∀ h' tk tok, Keeps s.heap h' → Q (.str (txt (foldSign c)) tok) { s with heap := h', toks := tk }) :
    wpAny (model pw w) A (call (.ref a) [.str (txt [c]) t]) Q E s := by
  obtain ⟨o, pm, cd, doc, h1, h2, h3⟩ := hf
  refine wpAny_call (call_pos_ret hroom h1 h2 B.lim h3 rfl (locs (by rfl)) ?_ rfl rfl rfl (by decide +kernel))
  intro h₁ F
  show wpAny _ _ (execs (_ :: _ :: _ :: []) _) _ _ _
  have B₁ : Base mg mb h₁ := B.keeps F.keep
  obtain ⟨da, f, ed, hds, hM, ⟨t1, hf1⟩, ⟨t2, hf2⟩, hq⟩ := (T.keeps F.keep).b3
  -- the look-up
  refine wpAny_execs_cons (wpAny_Assign_Name (MethodCall_ (nm_global B₁ ed (getMethod_builtin (Heap.MapOf.typeIs hM) PySem.F.plainAttrs_dict PySem.F.slot_dict_get PySem.F.type_dict_get (MapOf.noDict hM) ?_))))
  refine wpAny_dict_get1 (knd := intKind pw w) hds (Call_ (nm_builtin B₁ B₁.ord0 B₁.ord (callWith_builtin1 (args_cons (ld F rfl (args_nil (P.ord_of_char (c := c) ?_)))))))
  refine ⟨(c : Int), f, by simp [intKind, Value.isInt], hM, ?_⟩
  refine st F fun h₂ F₂ => ?_
  refine any_tok (s := s) (h := h₂) fun tk => ?_
  have alt : (∃ tv, f (c : Int) = some (.str (txt (foldSign c)) tv)) ∨ f (c : Int) = none ∧ c ≠ 223 ∧ c ≠ 13255 := by
    by_cases hc1 : c = 223
    · subst hc1; exact .inl ⟨t1, hf1⟩
    by_cases hc2 : c = 13255
    · subst hc2; exact .inl ⟨t2, hf2⟩
    exact .inr ⟨hq c hc hc1 hc2, hc1, hc2⟩
  rcases alt with ⟨tv, hfc⟩ | ⟨hn, hc1, hc2⟩
  · rw [hfc, Option.getD_some] at F₂
    refine wpAny_execs_cons (wpAny_If (wpAny_isTrue_Compare1 (ld F₂ (if_pos rfl) (const_none (isnot_str_none (wpAny_truthy_bool ?_))))))
    rw [if_pos rfl]
    refine wpAny_execs_cons (wpAny_Return_some (ld F₂ (if_pos rfl) ?_))
    exact h h₂ tk tv F₂.keep
  rw [hn, Option.getD_none] at F₂
  refine wpAny_execs_cons (wpAny_If (wpAny_isTrue_Compare1 (ld F₂ (if_pos rfl) (const_none (wpAny_isNot_self rfl (wpAny_truthy_bool ?_))))))
  rw [if_neg (by simp)]
  refine wpAny_execs_nil ?_
  have hlow : Txt.lower (txt [c]) = txt (foldSign c) := by
    have hA : c < 128 := by
      simp only [alphabet, List.mem_cons, List.not_mem_nil, or_false] at hc
      omega
    rw [lower_ascii (x := txt [c]) (by intro z hz; simp [txt] at hz; omega)]
    simp only [alphabet, List.mem_cons, List.not_mem_nil, or_false] at hc
    rcases hc with rfl | rfl | rfl | rfl | rfl | rfl | rfl | rfl | rfl | rfl | rfl | rfl | rfl <;> first | exact absurd rfl h8 | exact absurd rfl hc1 | exact absurd rfl hc2 | decide +kernel
  refine wpAny_execs_cons (wpAny_Return_some (MethodCall_ (ld F₂ ((if_neg (by decide +kernel)).trans rfl) (GM.lower (callWith_method0 (SC.lower ?_ ?_))))))
  · rw [hlow]
    have : (txt (foldSign c)).length ≤ 3 := by
      rw [txt_length]
      unfold foldSign
      split <;> (try split) <;> (try split) <;> (try split) <;> simp
    unfold Builtin.Str.tooLong
    exact decide_eq_false (by rw [sizeLine_eq]; omega)
  · rw [hlow]
    exact h h₂ _ _ F₂.keep
end Mine
end

section
open PySem PyProof.Rows PySem.Calls
set_option maxRecDepth 100000
namespace Mine
theorem txt_beq (c d : Nat) : (txt [c] == txt [d]) = decide (c = d) := by
  by_cases h : c = d
  · subst h; simp
  · have : txt [c] ≠ txt [d] := by
      intro e
      have := congrArg (fun x : Str => x.cps.toList) e
      simp [txt] at this
      exact h this
    rw [decide_eq_false h]
    exact beq_eq_false_iff_ne.mpr this

set_option maxHeartbeats 4000000 in
theorem call_folded {w : World} {A : Around} {E : Value → Shared → Prop} {s : Shared} {a : Addr} {c : Nat} {t : Tok} {Q : Value → Shared → Prop} {mg mb : Str → Option Value} (B : Base mg mb s.heap) (hf : FnAt s.heap 14 a)
    (hroom : A.depth < recursionLimit)
    (h : ∀ h' tk tok, Keeps s.heap h' → Q (.str (txt (foldSign c)) tok) { s with heap := h', toks := tk }) :
    wpAny (model pw w) A (call (.ref a) [.str (txt [c]) t]) Q E s := by
  obtain ⟨o, pm, cd, doc, h1, h2, h3⟩ := hf
  refine wpAny_call (call_pos_ret hroom h1 h2 B.lim h3 rfl (locs (by rfl)) ?_ rfl rfl rfl (by decide +kernel))
  intro h₁ F
  show wpAny _ _ (execs (_ :: _ :: _ :: _ :: _ :: []) _) _ _ _
  have hq : ∀ l, foldSign c = l → ∀ tk tok, Q (.str (txt l) tok) (Sh s h₁ tk) := fun l e tk tok => e ▸ h h₁ tk tok F.keep
  have e1 : Str.ofString "\u200b" = txt [8203] := by decide +kernel
  have e2 : Str.ofString "㏇" = txt [13255] := by decide +kernel
  have e3 : Str.ofString "ß" = txt [223] := by decide +kernel
  have e4 : Str.ofString "K" = txt [75] := by decide +kernel
  have r1 : Str.ofString "" = txt [] := by decide +kernel
  have r2 : Str.ofString "co." = txt [99, 111, 46] := by decide +kernel
  have r3 : Str.ofString "ss" = txt [115, 115] := by decide +kernel
  have r4 : Str.ofString "k" = txt [107] := by decide +kernel
  refine wpAny_execs_cons (wpAny_If (wpAny_isTrue_Compare1 (ld F rfl (Constant_str (PyProof.Rows.eq_str (wpAny_truthy_bool ?_))))))
  rw [e1, txt_beq]
  by_cases c1 : c = 8203
  · rw [decide_eq_true c1, if_pos rfl]
    refine wpAny_execs_cons (wpAny_Return_some (Constant_str ?_))
    rw [r1]
    exact hq [] (by rw [c1]; rfl) _ _
  rw [decide_eq_false c1, if_neg (by simp)]
  refine wpAny_execs_nil ?_
  refine wpAny_execs_cons (wpAny_If (wpAny_isTrue_Compare1 (ld F rfl (Constant_str (PyProof.Rows.eq_str (wpAny_truthy_bool ?_))))))
  rw [e2, txt_beq]
  by_cases c2 : c = 13255
  · rw [decide_eq_true c2, if_pos rfl]
    refine wpAny_execs_cons (wpAny_Return_some (Constant_str ?_))
    rw [r2]
    exact hq [99, 111, 46] (by rw [c2]; rfl) _ _
  rw [decide_eq_false c2, if_neg (by simp)]
  refine wpAny_execs_nil ?_
  refine wpAny_execs_cons (wpAny_If (wpAny_isTrue_Compare1 (ld F rfl (Constant_str (PyProof.Rows.eq_str (wpAny_truthy_bool ?_))))))
  rw [e3, txt_beq]
  by_cases c3 : c = 223
  · rw [decide_eq_true c3, if_pos rfl]
    refine wpAny_execs_cons (wpAny_Return_some (Constant_str ?_))
    rw [r3]
    exact hq [115, 115] (by rw [c3]; rfl) _ _
  rw [decide_eq_false c3, if_neg (by simp)]
  refine wpAny_execs_nil ?_
  refine wpAny_execs_cons (wpAny_If (wpAny_isTrue_Compare1 (ld F rfl (Constant_str (PyProof.Rows.eq_str (wpAny_truthy_bool ?_))))))
  rw [e4, txt_beq]
  by_cases c4 : c = 75
  · rw [decide_eq_true c4, if_pos rfl]
    refine wpAny_execs_cons (wpAny_Return_some (Constant_str ?_))
    rw [r4]
    exact hq [107] (by rw [c4]; rfl) _ _
  rw [decide_eq_false c4, if_neg (by simp)]
  refine wpAny_execs_nil ?_
  refine wpAny_execs_cons (wpAny_Return_some (ld F rfl ?_))
  exact hq [c] (by unfold foldSign; simp [c1, c2, c3, c4]) _ _
end Mine
end

section
open PySem PyProof.Rows PySem.Calls
set_option maxRecDepth 100000
namespace Mine
/-! A function's own state where some of its names are cells: h0 the heap at its entry, hc a check point. -/
abbrev KeepsBut (L : Addr) (cs : List (Str × Addr)) (h h' : Heap) : Prop := ∀ b o, b ≠ L → (∀ n, (n, b) ∉ cs) → h.get? b = some o → h'.get? b = some o
structure LS (h₀ hc : Heap) (L : Addr) (cs : List (Str × Addr)) (h : Heap) (m cm : Str → Option Value) : Prop where
  ns : h.Ns L m
  cl : Cl L cs h cm
  keep : Keeps h₀ h
  keepc : KeepsBut L cs hc h
  above : h₀.objs.size ≤ L

namespace LS
variable {h₀ hc h h' : Heap} {L : Addr} {cs : List (Str × Addr)} {m cm m' cm' : Str → Option Value}
theorem self (X : LS h₀ hc L cs h m cm) : LS h₀ h L cs h m cm := ⟨X.ns, X.cl, X.keep, fun _ _ _ _ e => e, X.above⟩
theorem back (X : LS h₀ hc L cs h m cm) (Y : LS h₀ h L cs h' m' cm') : LS h₀ hc L cs h' m' cm' := ⟨Y.ns, Y.cl, Y.keep, fun b o h1 h2 e => Y.keepc b o h1 h2 (X.keepc b o h1 h2 e), X.above⟩
theorem keeps (X : LS h₀ hc L cs h m cm) (k : Keeps h h') : LS h₀ hc L cs h' m cm := ⟨X.ns.keeps k, X.cl.keeps k, fun b o e => k b o (X.keep b o e), fun b o h1 h2 e => k b o (X.keepc b o h1 h2 e), X.above⟩
theorem off (X : LS h₀ hc L cs h m cm) {b : Addr} (hb : b < h₀.objs.size) : b ≠ L ∧ ∀ n, (n, b) ∉ cs :=
  ⟨Nat.ne_of_lt (Nat.lt_of_lt_of_le hb X.above), fun n hn => Nat.lt_irrefl _ (Nat.lt_trans (X.cl.above n b hn) (Nat.lt_of_lt_of_le hb X.above))⟩
theorem set {x : Str} {v : Value} (X : LS h₀ hc L cs h m cm) (hn : h'.Ns L (fun y => if y = x then some v else m y)) (hs : Heap.SameBut L h h') : LS h₀ hc L cs h' (fun y => if y = x then some v else m y) cm :=
  ⟨hn, X.cl.sameBut hs (Nat.le_refl _), fun b o e => (hs.2 b (X.off (Heap.lt_size e)).1).trans (X.keep b o e), fun b o h1 h2 e => (hs.2 b h1).trans (X.keepc b o h1 h2 e), X.above⟩
/-- all but L and some new object kept -/
theorem setNew {x : Str} {v : Value} (X : LS h₀ hc L cs h m cm) (hn : h'.Ns L (fun y => if y = x then some v else m y)) (hs : ∀ b o, b ≠ L → h.get? b = some o → h'.get? b = some o) : LS h₀ hc L cs h' (fun y => if y = x then some v else m y) cm :=
  ⟨hn, X.cl.extBut hs (Nat.le_refl _), fun b o e => hs b o (X.off (Heap.lt_size e)).1 (X.keep b o e), fun b o h1 h2 e => hs b o h1 (X.keepc b o h1 h2 e), X.above⟩
theorem lt (X : LS h₀ hc L cs h m cm) : L < h.objs.size := X.ns.lt
theorem cell_lt (X : LS h₀ hc L cs h m cm) {n : Str} {c : Addr} (hm : cs.lookup n = some c) : c < h.objs.size := by
  obtain ⟨o, e, _⟩ := X.cl.cell n c hm
  exact Heap.lt_size e
end LS

section
variable {M : Model} {A : Around} {E : Value → Shared → Prop} {s : Shared} {name : Str} {scope : Scope} {L a : Addr} {cd : Value} {h₀ hc : Heap} {m cm mg mb : Str → Option Value}

theorem lsLd {x : Str} {pos : Pos} {v : Value} {Q : Value → Shared → Prop} (X : LS h₀ hc L (cellsFrom (L + 1) scope.names []) s.heap m cm) (hv : m x = some v) (h : Q v s)
    (hk : scope.kind = .function := by rfl) (hl : (envOfC name scope L a cd).kindOf x = some .local := by rfl) (hd : (x == ("__debug__" : Str)) = false := by decide) :
    wpAny M A (eval (.Name x pos) (envOfC name scope L a cd)) Q E s := wpAny_Name (wpAny_loadName_local hk hl X.ns hv h) hd
theorem lsSt {x : Str} {v : Value} {Q : Unit → Shared → Prop} (X : LS h₀ hc L (cellsFrom (L + 1) scope.names []) s.heap m cm)
    (h : ∀ h', LS h₀ hc L (cellsFrom (L + 1) scope.names []) h' (fun y => if y = x then some v else m y) cm → Q () { s with heap := h', toks := s.toks + 1 })
    (hk : scope.kind = .function := by rfl) (hl : (envOfC name scope L a cd).kindOf x = some .local := by rfl) :
    wpAny M A (storeName (envOfC name scope L a cd) x v) Q E s :=
  wpAny_storeName_local hl X.ns (fun h' hn hs => h h' (X.set hn hs))
    (by show (scope.kind == .class || (scope.kind == .module && L != mainGlobals)) = false; rw [hk]; rfl)
theorem lsLdC {x : Str} {pos : Pos} {c : Addr} {v : Value} {Q : Value → Shared → Prop} (X : LS h₀ hc L (cellsFrom (L + 1) scope.names []) s.heap m cm) (hc' : (cellsFrom (L + 1) scope.names []).lookup x = some c) (hv : cm x = some v) (h : Q v s)
    (hk : scope.kind = .function := by rfl) (hl : (envOfC name scope L a cd).kindOf x = some .cell := by rfl) (hd : (x == ("__debug__" : Str)) = false := by decide) :
    wpAny M A (eval (.Name x pos) (envOfC name scope L a cd)) Q E s := wpAny_Name (wpAny_loadName_cell hk hl hc' (hv ▸ X.cl.cell x c hc') h) hd
theorem lsStC {x : Str} {c : Addr} {v : Value} {Q : Unit → Shared → Prop} (X : LS h₀ hc L (cellsFrom (L + 1) scope.names []) s.heap m cm) (hc' : (cellsFrom (L + 1) scope.names []).lookup x = some c)
    (h : ∀ h', LS h₀ hc L (cellsFrom (L + 1) scope.names []) h' m (fun y => if y = x then some v else cm y) → Q () { s with heap := h' })
    (hk : scope.kind = .function := by rfl) (hl : (envOfC name scope L a cd).kindOf x = some .cell := by rfl) :
    wpAny M A (storeName (envOfC name scope L a cd) x v) Q E s := by
  have hLc : L < c := X.cl.above x c (mem_of_lookup hc')
  refine wpAny_storeName_cell hk hl hc' (X.cl.cell x c hc') fun h' hv hs => h h' ⟨X.ns.sameBut hs (Nat.ne_of_lt hLc), ⟨fun n c' e => ?_, X.cl.apart, X.cl.above⟩,
    fun b o e => (hs.2 b (fun q => (X.off (Heap.lt_size e)).2 x (q ▸ mem_of_lookup hc'))).trans (X.keep b o e),
    fun b o h1 h2 e => (hs.2 b (fun q => h2 x (q ▸ mem_of_lookup hc'))).trans (X.keepc b o h1 h2 e), X.above⟩
  by_cases hn : n = x
  · subst hn; rw [hc'] at e; cases e; simpa using hv
  · have hcc : c' ≠ c := fun q => hn (name_of_addr X.cl.apart (mem_of_lookup e) (q ▸ mem_of_lookup hc'))
    simpa [hn] using (X.cl.cell n c' e).sameBut hs hcc
theorem nmC_builtin {x : Str} {pos : Pos} {v : Value} {Q : Value → Shared → Prop} (B : Base mg mb s.heap) (h0 : mg x = none) (hv : mb x = some v) (h : Q v s)
    (hk : scope.kind = .function := by rfl) (hx : (envOfC name scope L a cd).kindOf x = some .globalImplicit := by rfl) (hd : (x == ("__debug__" : Str)) = false := by decide) :
    wpAny M A (eval (.Name x pos) (envOfC name scope L a cd)) Q E s := Name_function_global hk hx (loadGlobal_builtin B.g h0 B.b hv h) hd
theorem nmC_global {x : Str} {pos : Pos} {v : Value} {Q : Value → Shared → Prop} (B : Base mg mb s.heap) (hv : mg x = some v) (h : Q v s)
    (hk : scope.kind = .function := by rfl) (hx : (envOfC name scope L a cd).kindOf x = some .globalImplicit := by rfl) (hd : (x == ("__debug__" : Str)) = false := by decide) :
    wpAny M A (eval (.Name x pos) (envOfC name scope L a cd)) Q E s := Name_function_global hk hx (loadGlobal_global B.g hv h) hd
end

/-- a for loop over a walk: an invariant of the turn's number and the heap -/
theorem loopOn {prog : Program} {w : World} {A : Around} {R : Result → Shared → Prop} {s : Shared} {env : Env} {x : Str} {px : Pos} {body : List Stmt} {I : Addr} {fp wr : List Addr} {n : Nat} {P : Nat → Value → Prop} {St : Nat → Heap → Prop}
    (W : Walks prog w A I fp wr n P St) (J : Nat → Heap → Prop)
    (hJ : ∀ i h h', J i h → (∀ b o, b ∉ wr → h.get? b = some o → h'.get? b = some o) → J i h')
    (hst : St 0 s.heap) (h0 : J 0 s.heap)
    (step : ∀ i v h tk E', i < n → P i v → J i h → St (i + 1) h → wpAny (model prog w) A (storeName env x v) (fun _ s₁ => wpAny (model prog w) A (execs body env) (fun f s₂ => f = .next ∧ ∃ h' tk', s₂ = Sh s h' tk' ∧ J (i + 1) h' ∧ ∀ b ∈ fp, ∀ o, h.get? b = some o → h'.get? b = some o) E' s₁) E' (Sh s h tk))
    (hR : ∀ h tk, J n h → R (.ok .next) (Sh s h tk)) :
    codeAny (model prog w) A (.forLoop (.Name x px) (.ref I) body [] env) R s := by
  refine codeAny_forLoop (fun k s' => ∃ h tk i, s' = Sh s h tk ∧ St i h ∧ J i h ∧ i ≤ n ∧ k = n + 1 - i) ?_ (n + 1) ⟨s.heap, s.toks, 0, rfl, hst, h0, Nat.zero_le _, rfl⟩
  rintro k s' ⟨h, tk, i, rfl, hsti, hJi, hi, rfl⟩
  by_cases hlt : i < n
  · refine W.item i _ _ _ hlt hsti fun v h₁ tk₁ hP hst₁ hk₁ => ?_
    refine wpAny_assign_Name (wpAny_mono (step i v h₁ tk₁ _ hlt hP (hJ _ _ _ hJi hk₁) hst₁) (fun _ s₁ hs => wpAny_mono hs (fun f s₂ hp => ?_) fun _ _ e => e) fun _ _ e => e)
    obtain ⟨rfl, h', tk', rfl, hj, hk'⟩ := hp
    exact ⟨n + 1 - (i + 1), by omega, h', tk', i + 1, rfl, W.frame _ _ _ hst₁ hk', hj, hlt, rfl⟩
  · have hin : i = n := by omega
    subst hin
    exact W.done _ _ _ hsti fun h₁ tk₁ hk₁ => wpAny_execs_nil (hR h₁ tk₁ (hJ _ _ _ hJi hk₁))
end Mine
end

section
set_option maxRecDepth 100000
open PySem PyProof.Rows PySem.Calls
namespace Mine
def IntsL : List Value → List Nat → Prop
  | [], [] => True
  | v :: vs, k :: ks => (∃ t, v = Value.int (k : Nat) t) ∧ IntsL vs ks
  | _, _ => False
theorem ints_filter {p : Value → Bool} {q : Nat → Bool} (hp : ∀ (k : Nat) t, p (.int (k : Nat) t) = q k) : ∀ {vs : List Value} {ks : List Nat}, IntsL vs ks → IntsL (vs.filter p) (ks.filter q)
  | [], [], _ => trivial
  | v :: vs, k :: ks, h => by
    obtain ⟨⟨t, rfl⟩, h⟩ := h
    have ih := ints_filter hp h
    rw [List.filter_cons, List.filter_cons, hp]
    cases q k with
    | true => exact ⟨⟨t, rfl⟩, ih⟩
    | false => exact ih
  | [], _ :: _, h => h.elim
  | _ :: _, [], h => h.elim
theorem ints_range : ∀ {vs : List Value} {n a : Nat}, vs.length = n → (∀ (j : Nat) v, vs[j]? = some v → ∃ t, v = Value.int ((a + j : Nat) : Int) t) → IntsL vs (List.range' a n)
  | [], 0, _, _, _ => trivial
  | [], _ + 1, _, h, _ => by simp at h
  | v :: vs, 0, _, h, _ => by simp at h
  | v :: vs, n + 1, a, h, hv => by
    rw [List.range'_succ]
    refine ⟨by simpa using hv 0 v rfl, ints_range (by simpa using h) fun j u hj => ?_⟩
    have := hv (j + 1) u (by simpa using hj)
    rwa [show a + (j + 1) = a + 1 + j by omega] at this
theorem IntsL.len : ∀ {vs : List Value} {ks : List Nat}, IntsL vs ks → vs.length = ks.length
  | [], [], _ => rfl
  | v :: vs, k :: ks, h => by simpa using h.2.len
  | [], _ :: _, h => h.elim
  | _ :: _, [], h => h.elim
theorem IntsL.at : ∀ {vs : List Value} {ks : List Nat}, IntsL vs ks → ∀ {j k : Nat}, ks[j]? = some k → ∃ t, vs[j]? = some (Value.int (k : Nat) t)
  | [], [], _, _, _, h => by simp at h
  | v :: vs, k :: ks, h, 0, k', e => by obtain ⟨⟨t, rfl⟩, _⟩ := h; simp at e; subst e; exact ⟨t, rfl⟩
  | v :: vs, k :: ks, h, j + 1, k', e => by simpa using h.2.at (j := j) (by simpa using e)
  | [], _ :: _, h, _, _, _ => h.elim
  | _ :: _, [], h, _, _, _ => h.elim
theorem paired_eq : ∀ {xs ys : List Value}, Paired (fun v y => v = y) xs ys → xs = ys
  | _, _, .nil => rfl
  | _, _, .cons h r => by rw [h, paired_eq r]

theorem small_range {lo hi : Nat} (h1 : lo ≤ 1000) (h2 : hi ≤ 1000) : Builtin.Range.small (lo : Nat) (hi : Nat) 1 = true ∧ Builtin.Range.rangeSize (lo : Nat) (hi : Nat) 1 = ((hi - lo : Nat) : Int) := by
  have e : Builtin.Range.rangeSize (lo : Nat) (hi : Nat) 1 = ((hi - lo : Nat) : Int) := by rw [rangeSize_one]; split <;> omega
  refine ⟨?_, e⟩
  unfold Builtin.Range.small
  rw [e]
  simp [Builtin.Range.rangeFitsLong]
  omega

theorem comp_places {w : World} {A : Around} {E : Value → Shared → Prop} {s : Shared} {env : Env} {scope : Scope} {cl : List (Str × Addr)} {y k : Str} {px py pk pos spos : Pos} {iter test : Expr} {lo hi : Nat} {q : Nat → Bool}
    {m : Str → Option Value} {Q : Flow → Shared → Prop} (hh : A.handled = none)
    (hsw : swapsWith (.ListComp (.Name k pk) [⟨.Name k px, iter, [test], 0⟩] scope pos) (some (.Name y py)) spos.line env = pure true)
    (hclos : closureFor scope env = pure cl) (hcell : ∀ z ∈ scope.names, z.2 ≠ .cell) (hkind : scope.kind = .function)
    (hnames : ∀ z ∈ scope.names, z.2 = .local → scope.names.lookup z.1 = some .local) (hx : scope.names.lookup k = some .local)
    (hy : env.kindOf y = some .local) (hp : (env.scope.kind == .class || (env.scope.kind == .module && env.locals != env.globals)) = false)
    (h1 : lo ≤ 1000) (h2 : hi ≤ 1000) (hns : s.heap.Ns env.locals m)
    (hiter : ∀ Q', (∀ tk t u, wpAny (model pw w) A (call (.type "range") [Value.int (lo : Nat) t, Value.int (hi : Nat) u]) Q' E (Sh s s.heap tk)) → wpAny (model pw w) A (eval iter env) Q' E s)
    (htest : ∀ C (j : Nat) t s₃ m₃ E', s.heap.objs.size ≤ C → lo ≤ j → j < hi → s₃.heap.Ns C m₃ → m₃ k = some (Value.int (j : Nat) t) → Keeps s.heap s₃.heap →
      wpAny (model pw w) A (isTrue test (compEnvC scope cl C env) (eval test (compEnvC scope cl C env))) (fun ok s₄ => ok = q j ∧ ∃ tk, s₄ = { s₃ with toks := tk }) E' s₃)
    (hQ : ∀ D h' tk ys, h'.IsList D ys → s.heap.get? D = none → IntsL ys.toList ((places lo hi).filter q) → h'.Ns env.locals (fun z => if z = y then some (.ref D) else m z) → (∀ b o, b ≠ env.locals → s.heap.get? b = some o → h'.get? b = some o) → Q .next (Sh s h' tk))
    (hs : ∀ x, foldedSetIterable iter env x = pure x := by intro _; rfl) (hkd : (k == ("__debug__" : Str)) = false := by decide) :
    wpAny (model pw w) A (exec (.Assign [.Name y py] (.ListComp (.Name k pk) [⟨.Name k px, iter, [test], 0⟩] scope pos) spos) env) Q E s := by
  refine wpAny_Assign_ListComp_free (fun v => match v with | .int j _ => q j.toNat | _ => false) (fun v y => v = y) hsw hclos hcell hkind hnames hx hy hp (hiter _ fun tk t u => ?_) hs
  obtain ⟨hsm, hsz⟩ := small_range h1 h2
  refine call_range_2 (wpAny_pyIter_range (IsRange.new _ _ _ _ _ _ _) hsm ?_)
  dsimp only
  generalize hH : s.heap.push { cls := .type "range", data := .fields #[Value.int (lo : Nat) t, Value.int (hi : Nat) u, .int 1 tk] } = H
  have hHs : H.objs.size = s.heap.objs.size + 1 := by rw [← hH, Heap.size_push]
  have k1 : Keeps s.heap H := fun b o e => hH ▸ Heap.get?_push_of_some _ e
  generalize hG : H.push { cls := .type "range_iterator", data := .fields #[rawInt (lo : Nat), rawInt (Builtin.Range.rangeSize (lo : Nat) (hi : Nat) 1), rawInt 1] } = G
  have k2 : Keeps s.heap G := fun b o e => hG ▸ Heap.get?_push_of_some _ (k1 b o e)
  have offI : ∀ b o, s.heap.get? b = some o → b ∉ [H.objs.size] := fun b o e hb => by
    have := Heap.lt_size e
    rw [List.mem_singleton.mp hb, hHs] at this
    exact Nat.lt_irrefl _ (Nat.lt_trans (Nat.lt_succ_self _) this)
  refine ⟨H.objs.size, _, _, hi - lo, _, _, m, rfl, (Walks.range hh H.objs.size (lo : Nat) 1 (hi - lo)).bound, (by rw [sizeLine_eq]; omega), ?_, ?_, ?_, hns.keeps k2, ⟨?_, ?_⟩, ?_⟩
  · show G.get? H.objs.size = _
    rw [← hG, Heap.get?_push_size _ rfl, hsz]
    simp
  · intro b hb
    simp at hb
    show b < G.objs.size
    rw [← hG, Heap.size_push, hb]
    exact Nat.lt_succ_self _
  · intro hb
    have := hns.lt
    rw [List.mem_singleton.mp hb, hHs] at this
    exact Nat.lt_irrefl _ (Nat.lt_trans (Nat.lt_succ_self _) this)
  · intro C i v s₃ m₃ E' hC hP hn hm hk htk
    obtain ⟨hi', t', rfl⟩ := hP
    have hv : ((lo : Int) + (i : Int) * 1) = ((lo + i : Nat) : Int) := by omega
    rw [hv] at hm ⊢
    have hGs : s.heap.objs.size ≤ G.objs.size := by rw [← hG, Heap.size_push, hHs]; omega
    refine wpAny_tests_one (wpAny_mono (htest C (lo + i) t' s₃ m₃ E' (Nat.le_trans hGs hC) (by omega) (by omega) hn hm fun b o e => hk b o (offI b o e) (k2 b o e)) (fun ok s₄ hp => ?_) fun _ _ x => x)
    obtain ⟨rfl, tk', rfl⟩ := hp
    exact ⟨(by show q (lo + i) = q (Int.toNat _); rw [Int.toNat_natCast]), s₃.heap, tk', rfl, fun _ _ e => e⟩
  · intro C i v s₃ m₃ E' hC hP hpv hn hm hk htk
    exact wpAny_Name (wpAny_loadName_local (env := compEnvC scope cl C env) hkind (lookup_relabel_local hx) hn hm ⟨rfl, s₃.heap, s₃.toks, rfl, fun _ _ e => e⟩) hkd
  · intro D h' tk' ys vs hD hl hpl hlen hP hF hns' hk
    have hD' : s.heap.get? D = none := by
      cases e : s.heap.get? D with
      | none => rfl
      | some o => have e' : G.get? D = none := hD; rw [k2 D o e] at e'; cases e'
    refine hQ D h' tk' ys hl hD' ?_ hns' fun b o hb e => hk b o hb (offI b o e) (k2 b o e)
    rw [← paired_eq hF]
    refine ints_filter (fun j t => by simp) (ints_range hlen fun j v hv => ?_)
    obtain ⟨_, t', rfl⟩ := hP j v hv
    exact ⟨t', by rw [show ((lo : Int) + (j : Int) * 1) = ((lo + j : Nat) : Int) by omega]⟩
end Mine
end

section
open PySem PyProof.Rows PySem.Calls
set_option maxRecDepth 100000
namespace Mine
def SignsAt (h : Heap) (ax : Addr) (sg : List Nat) : Prop := ∃ items : Array Value, h.IsList ax items ∧ items.size = sg.length ∧ ∀ (k c : Nat), sg[k]? = some c → ∃ t, items[k]? = some (Value.str (txt [c]) t)
def RunAt (h : Heap) (ax : Addr) (run : List Nat) : Prop := ∃ items : Array Value, h.IsList ax items ∧ items.size = run.length ∧ ∀ (k d : Nat), run[k]? = some d → ∃ t, items[k]? = some (Value.int (d : Nat) t)
theorem isList_keeps {h h' : Heap} {a : Addr} {its : Array Value} (x : h.IsList a its) (k : Keeps h h') : h'.IsList a its := x.at fun o e => k _ o e
theorem SignsAt.keeps {h h' : Heap} {ax : Addr} {sg : List Nat} (x : SignsAt h ax sg) (k : Keeps h h') : SignsAt h' ax sg := by
  obtain ⟨its, a, b, c⟩ := x; exact ⟨its, isList_keeps a k, b, c⟩
theorem RunAt.keeps {h h' : Heap} {ax : Addr} {sg : List Nat} (x : RunAt h ax sg) (k : Keeps h h') : RunAt h' ax sg := by
  obtain ⟨its, a, b, c⟩ := x; exact ⟨its, isList_keeps a k, b, c⟩

theorem upd_ne3 {m : Str → Option Value} {x x' x'' y : Str} {v v' v'' u : Value} (hm : m y = some u) (h : y ≠ x := by decide +kernel) (h' : y ≠ x' := by decide +kernel) (h'' : y ≠ x'' := by decide +kernel) : (fun z => if z = x then some v else if z = x' then some v' else if z = x'' then some v'' else m z) y = some u := by
  show (if y = x then some v else if y = x' then some v' else if y = x'' then some v'' else m y) = some u
  rw [if_neg h, if_neg h', if_neg h'']; exact hm
abbrev toldCells (L : Addr) : List (Str × Addr) := cellsFrom (L + 1) (defAt 15).2.2.2.names []
/-- the names of _law_told, as the state says -/
structure Tells (ax rx : Addr) (st : St) (m cm : Str → Option Value) : Prop where
  run : m (Str.ofString "run") = some (.ref rx)
  low : ∃ t, m (Str.ofString "low") = some (Value.int (st.low : Nat) t)
  high : ∃ t, m (Str.ofString "high") = some (Value.int (st.high : Nat) t)
  behind : ∃ t, m (Str.ofString "behind") = some (Value.str (txt st.behind) t)
  signs : cm (Str.ofString "signs") = some (.ref ax)
  folded : cm (Str.ofString "folded") = some (.bool st.folded)
  sent : cm (Str.ofString "sent") = some (.bool st.sent)


section
variable {w : World} {A : Around} {E : Value → Shared → Prop} {s : Shared} {env : Env}
theorem getD_of {sg : List Nat} {k : Nat} (hk : k < sg.length) : sg[k]? = some (sg.getD k 0) := by simp [List.getD, hk]
theorem sign_at {xs xk : Str} {p1 p2 p3 : Pos} {k : Nat} {t : Tok} {ax : Addr} {sg : List Nat} {Q : Value → Shared → Prop} (hs : SignsAt s.heap ax sg) (hk : k < sg.length) (hl : sg.length ≤ 1000)
    (h1 : ∀ Q', Q' (.ref ax) s → wpAny (model pw w) A (eval (.Name xs p1) env) Q' E s) (h2 : ∀ Q', Q' (Value.int (k : Nat) t) s → wpAny (model pw w) A (eval (.Name xk p2) env) Q' E s)
    (h : ∀ u, Q (.str (txt [sg.getD k 0]) u) s) : wpAny (model pw w) A (eval (.Subscript (.Name xs p1) (.Name xk p2) p3) env) Q E s := by
  obtain ⟨its, i1, i2, i3⟩ := hs
  obtain ⟨u, hu⟩ := i3 k _ (getD_of hk)
  exact Subscript_Name (h1 _ (h2 _ ⟨"list", _, slot_list_getitem.lookup, i1.typeIs, wpAny_getItem_list i1 (by omega) (by omega) (by simpa using hu) (h u)⟩))
theorem sign_eq {xs xk x : Str} {p1 p2 p3 p4 p5 : Pos} {kk : Nat} {k c : Nat} {t : Tok} {ax : Addr} {sg : List Nat} {whole : Sem Value} {Q : Bool → Shared → Prop} (hs : SignsAt s.heap ax sg) (hk : k < sg.length) (hl : sg.length ≤ 1000)
    (h1 : ∀ Q', Q' (.ref ax) s → wpAny (model pw w) A (eval (.Name xs p1) env) Q' E s) (h2 : ∀ Q', Q' (Value.int (k : Nat) t) s → wpAny (model pw w) A (eval (.Name xk p2) env) Q' E s)
    (hx : x = txt [c]) (h : ∀ tk, Q (sg.getD k 0 == c) { s with toks := tk }) : wpAny (model pw w) A (isTrue (.Compare (.Subscript (.Name xs p1) (.Name xk p2) p3) [.Eq] [.Constant (.str x) kk p4] p5) env whole) Q E s := by
  refine wpAny_isTrue_Compare1 (sign_at hs hk hl h1 h2 fun u => Constant_str (PyProof.Rows.eq_str (wpAny_truthy_bool ?_)))
  rw [hx, txt_beq]
  exact h (s.toks + 1)
theorem sign_ne {xs xk x : Str} {p1 p2 p3 p4 p5 : Pos} {kk : Nat} {k c : Nat} {t : Tok} {ax : Addr} {sg : List Nat} {whole : Sem Value} {Q : Bool → Shared → Prop} (hs : SignsAt s.heap ax sg) (hk : k < sg.length) (hl : sg.length ≤ 1000)
    (h1 : ∀ Q', Q' (.ref ax) s → wpAny (model pw w) A (eval (.Name xs p1) env) Q' E s) (h2 : ∀ Q', Q' (Value.int (k : Nat) t) s → wpAny (model pw w) A (eval (.Name xk p2) env) Q' E s)
    (hx : x = txt [c]) (h : ∀ tk, Q (sg.getD k 0 != c) { s with toks := tk }) : wpAny (model pw w) A (isTrue (.Compare (.Subscript (.Name xs p1) (.Name xk p2) p3) [.NotEq] [.Constant (.str x) kk p4] p5) env whole) Q E s := by
  refine wpAny_isTrue_Compare1 (sign_at hs hk hl h1 h2 fun u => Constant_str (PyProof.Rows.ne_str (wpAny_truthy_bool ?_)))
  have e : (txt [sg.getD k 0] != x) = (sg.getD k 0 != c) := by
    rw [hx]; unfold bne; rw [txt_beq]; rfl
  rw [e]
  exact h (s.toks + 1)
theorem ldE {x : Str} {pos : Pos} {v : Value} {m : Str → Option Value} {Q : Value → Shared → Prop} (hk : env.scope.kind = .function) (hl : env.kindOf x = some .local) (hn : s.heap.Ns env.locals m) (hv : m x = some v) (h : Q v s) (hd : (x == ("__debug__" : Str)) = false := by decide) :
    wpAny (model pw w) A (eval (.Name x pos) env) Q E s := wpAny_Name (wpAny_loadName_local hk hl hn hv h) hd
theorem ldCE {x : Str} {pos : Pos} {v : Value} {c : Addr} {Q : Value → Shared → Prop} (hk : env.scope.kind = .function) (hl : env.kindOf x = some .cell) (hc : env.cells.lookup x = some c) (hv : s.heap.IsCell c (some v)) (h : Q v s) (hd : (x == ("__debug__" : Str)) = false := by decide) :
    wpAny (model pw w) A (eval (.Name x pos) env) Q E s := wpAny_Name (wpAny_loadName_cell hk hl hc hv h) hd
end

def forBody (i j : Nat) : List Stmt := match (defAt i).2.2.1[j]? with | some (.For _ _ b _ _) => b | _ => []
abbrev toldEnv (L a : Addr) (cd : Value) : Env := envOfC (defAt 15).1 (defAt 15).2.2.2 L a cd

theorem bar_no {b : Bool} {c : Nat} (c1 : c ≠ 58) (c2 : c ≠ 10) (c3 : b = false ∨ c ≠ 13) : isBar b c = false := by
  unfold isBar
  rw [beq_eq_false_iff_ne.mpr c1, beq_eq_false_iff_ne.mpr c2]
  rcases c3 with rfl | c3
  · rfl
  · rw [beq_eq_false_iff_ne.mpr c3]; simp
theorem stop_no {b : Bool} {c : Nat} (c1 : c ≠ 46) (c3 : b = false ∨ c ≠ 13255) : isStop b c = false := by
  unfold isStop
  rw [beq_eq_false_iff_ne.mpr c1]
  rcases c3 with rfl | c3
  · rfl
  · rw [beq_eq_false_iff_ne.mpr c3]; simp
abbrev barsOf (sg : List Nat) (st : St) : List Nat := (places st.low st.high).filter fun k => isBar st.sent (sg.getD k 0)
theorem tell_nil {sg : List Nat} {st : St} {d : Nat} (d0 : ¬ d = 0) (d1 : ¬ d = 1) (hb : barsOf sg st = []) : (tellStep sg st d).high = st.high ∧ (tellStep sg st d).behind = if st.behind ≠ [] then [13] else st.behind := by
  unfold tellStep
  rw [if_neg d0, if_neg d1]
  unfold barsOf at hb
  rw [hb]
  exact ⟨rfl, rfl⟩
theorem tell_cons {sg : List Nat} {st : St} {d b : Nat} {r : List Nat} (d0 : ¬ d = 0) (d1 : ¬ d = 1) (hb : barsOf sg st = b :: r) : (tellStep sg st d).high = b ∧ (tellStep sg st d).behind = if st.sent && sg.getD b 0 != 58 then [13] else [] := by
  unfold tellStep
  rw [if_neg d0, if_neg d1]
  unfold barsOf at hb
  rw [hb]
  exact ⟨rfl, rfl⟩
theorem tell_low {sg : List Nat} {st : St} {d : Nat} (d0 : ¬ d = 0) (d1 : ¬ d = 1) :
    (tellStep sg st d).low = (match ((places st.low (tellStep sg st d).high).filter fun k => isStop st.folded (sg.getD k 0)).getLast? with | some k => k + 1 | none => st.low) ∧ (tellStep sg st d).folded = st.folded ∧ (tellStep sg st d).sent = st.sent := by
  unfold tellStep
  rw [if_neg d0, if_neg d1]
  exact ⟨rfl, rfl, rfl⟩
theorem mem_places {lo hi k : Nat} (h : k ∈ places lo hi) : lo ≤ k ∧ k < hi := by
  unfold places at h
  rw [List.mem_range'_1] at h
  omega
/-- the state's bounds -/
def Fine (sg : List Nat) (st : St) : Prop := st.low ≤ sg.length ∧ st.high ≤ sg.length

set_option maxHeartbeats 4000000 in
theorem told_turn {w : World} {A : Around} {E : Value → Shared → Prop} {s : Shared} {h₀ h : Heap} {tk : Nat} {a ax rx L : Addr} {cd : Value} {sg : List Nat} {st : St} {d : Nat} {mg mb m cm : Str → Option Value} (B : Base mg mb h₀)
    (hh : A.handled = none) (hu : A.units < cLine) (hsg : SignsAt h₀ ax sg) (hl1 : sg.length ≤ 1000) (X : LS h₀ h L (toldCells L) h m cm) (T : Tells ax rx st m cm) (hfine : Fine sg st) (hd : ∃ t, m (Str.ofString "deed") = some (Value.int (d : Nat) t)) :
    wpAny (model pw w) A (execs (forBody 15 5) (toldEnv L a cd)) (fun f s₂ => f = .next ∧ ∃ h' tk' m' cm', s₂ = Sh s h' tk' ∧ LS h₀ h L (toldCells L) h' m' cm' ∧ Tells ax rx (tellStep sg st d) m' cm' ∧ Fine sg (tellStep sg st d)) E (Sh s h tk) := by
  obtain ⟨td, hd⟩ := hd
  obtain ⟨t1, low⟩ := T.low
  obtain ⟨t2, high⟩ := T.high
  obtain ⟨t3, behind⟩ := T.behind
  show wpAny _ _ (execs (_ :: []) _) _ _ _
  refine wpAny_execs_cons (wpAny_If (wpAny_isTrue_Compare1 (lsLd X hd (wpAny_Constant_int (PyProof.Rows.eq_int (wpAny_truthy_bool ?_))))))
  by_cases d0 : d = 0
  · rw [if_pos (by simp [d0])]
    refine wpAny_execs_cons (wpAny_Assign_Name (Constant_bool (lsStC X rfl fun h₁ X₁ => wpAny_execs_nil (wpAny_execs_nil ?_))))
    refine ⟨rfl, h₁, _, m, _, rfl, X₁, ?_, by simpa [tellStep, d0, Fine] using hfine⟩
    rw [show tellStep sg st d = { st with folded := true } by simp [tellStep, d0]]
    exact ⟨T.run, T.low, T.high, T.behind, upd_ne T.signs, upd_eq, upd_ne T.sent⟩
  rw [if_neg (by simp [d0])]
  refine wpAny_execs_cons (wpAny_If (wpAny_isTrue_Compare1 (lsLd X hd (wpAny_Constant_int (PyProof.Rows.eq_int (wpAny_truthy_bool ?_))))))
  by_cases d1 : d = 1
  · rw [if_pos (by simp [d1])]
    have e13 : Str.ofString "\r" = txt [13] := by decide +kernel
    have e1310 : Str.ofString "\r\n" = txt [13, 10] := by decide +kernel
    refine wpAny_execs_cons (wpAny_Assign_Name (Constant_bool (lsStC X rfl fun h₁ X₁ => ?_)))
    refine wpAny_execs_cons (wpAny_If (wpAny_isTrue_Compare1 (lsLd X₁ behind (Constant_str (PyProof.Rows.eq_str (wpAny_truthy_bool ?_))))))
    have hf : Fine sg (tellStep sg st d) := by simpa [tellStep, d1, Fine] using hfine
    by_cases hb : st.behind = [13]
    · rw [if_pos (by rw [e13, hb]; simp)]
      refine wpAny_execs_cons (wpAny_Assign_Name (Constant_str (lsSt X₁ fun h₂ X₂ => wpAny_execs_nil (wpAny_execs_nil (wpAny_execs_nil (wpAny_execs_nil ?_))))))
      refine ⟨rfl, h₂, _, _, _, rfl, X₂, ?_, hf⟩
      rw [show tellStep sg st d = { st with sent := true, behind := [13, 10] } by simp [tellStep, d1, hb]]
      exact ⟨upd_ne T.run, ⟨_, upd_ne low⟩, ⟨_, upd_ne high⟩, ⟨_, upd_eq.trans (by rw [e1310])⟩, upd_ne T.signs, upd_ne T.folded, upd_eq⟩
    · rw [if_neg (by
        rw [e13]
        intro e
        have := congrArg (fun x : Str => x.cps.toList) (eq_of_beq e)
        simp [txt] at this
        exact hb this)]
      refine wpAny_execs_nil (wpAny_execs_nil (wpAny_execs_nil (wpAny_execs_nil ?_)))
      refine ⟨rfl, h₁, _, _, _, rfl, X₁, ?_, hf⟩
      rw [show tellStep sg st d = { st with sent := true } by simp [tellStep, d1, hb]]
      exact ⟨T.run, T.low, T.high, T.behind, upd_ne T.signs, upd_ne T.folded, upd_eq⟩
  rw [if_neg (by simp; omega)]
  have B₀ : Base mg mb h := B.keeps X.keep
  have e58 : Str.ofString ":" = txt [58] := by decide +kernel
  have e10 : Str.ofString "\n" = txt [10] := by decide +kernel
  have e13 : Str.ofString "\r" = txt [13] := by decide +kernel
  have e46 : Str.ofString "." = txt [46] := by decide +kernel
  have eco : Str.ofString "㏇" = txt [13255] := by decide +kernel
  -- bars
  refine any_tok (s := s) (h := h) fun tk => wpAny_execs_cons ?_
  refine comp_places (s := Sh s h tk) (lo := st.low) (hi := st.high) (q := fun k => isBar st.sent (sg.getD k 0)) (cl := [(Str.ofString "signs", L + 1), (Str.ofString "sent", L + 3)]) hh rfl ?_ ?_ rfl ?_ rfl rfl rfl (by have := hfine.1; omega) (by have := hfine.2; omega) X.ns ?_ ?_ ?_ (fun _ => rfl) (by decide)
  · rfl
  · decide +kernel
  · decide +kernel
  · intro Q' hq
    exact Call_ (nmC_builtin B₀ B₀.range0 B₀.range (PySem.callWith_type rfl (Calls.evalArgs_plain (args_cons (lsLd X low (args_cons (lsLd X high (args_nil (hq _ _ _)))))))))
  · intro C j t s₃ m₃ E' hC hj1 hj2 hn hm hk
    have X₃ : LS h₀ h L (toldCells L) s₃.heap m cm := X.keeps hk
    have S₃ : SignsAt s₃.heap ax sg := hsg.keeps X₃.keep
    have hj : j < sg.length := by have := hfine.2; omega
    have cs := X₃.cl.cell (Str.ofString "signs") (L + 1) rfl
    rw [T.signs] at cs
    have ct := X₃.cl.cell (Str.ofString "sent") (L + 3) rfl
    rw [T.sent] at ct
    refine isTrue_or (sign_eq (c := 58) S₃ hj hl1 (fun Q' hq => ldCE rfl rfl rfl cs hq) (fun Q' hq => ldE rfl rfl hn hm hq) e58 fun tk₁ => ?_)
    by_cases c1 : sg.getD j 0 = 58
    · rw [if_pos (beq_iff_eq.mpr c1)]
      exact ⟨by rw [c1]; rfl, tk₁, rfl⟩
    rw [if_neg fun e => c1 (beq_iff_eq.mp e)]
    refine isTrue_or (sign_eq (c := 10) S₃ hj hl1 (fun Q' hq => ldCE rfl rfl rfl cs hq) (fun Q' hq => ldE rfl rfl hn hm hq) e10 fun tk₂ => ?_)
    by_cases c2 : sg.getD j 0 = 10
    · rw [if_pos (beq_iff_eq.mpr c2)]
      exact ⟨by rw [c2]; rfl, tk₂, rfl⟩
    rw [if_neg fun e => c2 (beq_iff_eq.mp e)]
    refine isTrue_or (isTrue_and (isTrue_plain (ldCE rfl rfl rfl ct (wpAny_truthy_bool ?_))))
    cases hst : st.sent with
    | false =>
      rw [if_neg (by simp), if_neg (by simp)]
      exact isTrue_or_nil ⟨(bar_no c1 c2 (.inl rfl)).symm, tk₂, rfl⟩
    | true =>
      rw [if_pos rfl]
      refine isTrue_and (sign_eq (c := 13) S₃ hj hl1 (fun Q' hq => ldCE rfl rfl rfl cs hq) (fun Q' hq => ldE rfl rfl hn hm hq) e13 fun tk₃ => ?_)
      by_cases c3 : sg.getD j 0 = 13
      · rw [if_pos (beq_iff_eq.mpr c3)]
        refine isTrue_and_nil ?_
        rw [if_pos rfl]
        exact ⟨by rw [c3]; rfl, tk₃, rfl⟩
      · rw [if_neg fun e => c3 (beq_iff_eq.mp e), if_neg (by simp)]
        exact isTrue_or_nil ⟨(bar_no c1 c2 (.inr c3)).symm, tk₃, rfl⟩
  intro D h₁ tk₁ ys hl hD hints hns hk
  have X₁ : LS h₀ h L (toldCells L) h₁ _ cm := X.setNew hns hk
  have S₁ : SignsAt h₁ ax sg := hsg.keeps X₁.keep
  have hDL : D ≠ L := fun e => by
    obtain ⟨o, _, _, ho, _⟩ := X.ns
    have hD' : h.get? D = none := hD
    rw [e, ho] at hD'; cases hD'
  have hDc : ∀ n, (n, D) ∉ toldCells L := fun n hm => by
    obtain ⟨o, ho, _⟩ := X.cl.cell n D (lookup_of_mem_nodup (by rw [cellsFrom_names (defAt 15).2.2.2.names (L + 1) 0 [] [] rfl]; decide +kernel) hm)
    have hD' : h.get? D = none := hD
    rw [ho] at hD'; cases hD'
  have hbars : ys.size = ((places st.low st.high).filter fun k => isBar st.sent (sg.getD k 0)).length := by rw [← hints.len]; simp
  -- was a bar met
  refine wpAny_execs_cons (wpAny_mono (Q := fun f s' => f = .next ∧ ∃ h' tk' m', s' = Sh s h' tk' ∧ LS h₀ h L (toldCells L) h' m' cm ∧ m' (Str.ofString "run") = some (.ref rx) ∧ (∃ t, m' (Str.ofString "low") = some (Value.int (st.low : Nat) t)) ∧
    (∃ t, m' (Str.ofString "high") = some (Value.int ((tellStep sg st d).high : Nat) t)) ∧ (∃ t, m' (Str.ofString "behind") = some (Value.str (txt (tellStep sg st d).behind) t))) ?_ (fun f s' hp => ?_) fun _ _ x => x)
  · refine wpAny_If (wpAny_isTrue_Compare1 (lsLd X₁ upd_eq (List_ (args_nil (wpAny_newObj_type ?_)))))
    have kp : Keeps h₁ (h₁.push { cls := .type "list", data := .seq ([] : List Value).toArray }) := fun b o e => Heap.get?_push_of_some _ e
    have lE : (h₁.push { cls := .type "list", data := .seq ([] : List Value).toArray }).IsList h₁.objs.size #[] := ⟨_, Heap.get?_push_size _ rfl, rfl, _, rfl⟩
    have lD := isList_keeps hl kp
    have X₂ := X₁.keeps kp
    have S₂ : SignsAt _ ax sg := S₁.keeps kp
    dsimp only
    generalize h₁.push { cls := .type "list", data := .seq ([] : List Value).toArray } = h₂ at kp lE lD X₂ S₂ ⊢
    cases hb : barsOf sg st with
    | nil =>
      obtain ⟨e1, e2⟩ := tell_nil d0 d1 hb
      have hz : ys.size = 0 := by rw [hbars]; exact congrArg List.length hb
      refine EqBoolInt.of_rcne (SeqAt.RcNeAt.lists (e := fun _ => true) lD lE hz hu (fun j q _ => absurd q (by omega))) (wpAny_truthy_bool ?_)
      rw [hz, if_neg (by decide)]
      refine wpAny_execs_cons (wpAny_If (wpAny_isTrue_Compare1 (lsLd X₂ (upd_ne behind) (Constant_str (PyProof.Rows.ne_str (wpAny_truthy_bool ?_))))))
      by_cases hbe : st.behind = []
      · rw [if_neg (by rw [hbe]; decide +kernel)]
        refine wpAny_execs_nil (wpAny_execs_nil ⟨rfl, h₂, _, _, rfl, X₂, upd_ne T.run, ⟨_, upd_ne low⟩, ⟨_, (upd_ne high).trans (by rw [e1])⟩, ⟨_, (upd_ne behind).trans (by rw [e2, if_neg (by simpa using hbe)])⟩⟩)
      · rw [if_pos (by
          have e0 : Str.ofString "" = txt [] := by decide +kernel
          rw [e0]
          refine bne_iff_ne.mpr fun e => hbe ?_
          have := congrArg (fun x : Str => x.cps.toList) e
          simpa [txt] using this)]
        refine wpAny_execs_cons (wpAny_Assign_Name (Constant_str (lsSt X₂ fun h₃ X₃ => wpAny_execs_nil (wpAny_execs_nil ?_))))
        exact ⟨rfl, h₃, _, _, rfl, X₃, upd_ne2 T.run, ⟨_, upd_ne2 low⟩, ⟨_, (upd_ne2 high).trans (by rw [e1])⟩, ⟨_, upd_eq.trans (by rw [e2, if_pos hbe, e13])⟩⟩
    | cons b r =>
      obtain ⟨e1, e2⟩ := tell_cons d0 d1 hb
      have hz : ys.size = r.length + 1 := by rw [hbars]; exact congrArg List.length hb
      have hbm : b ∈ places st.low st.high := (List.mem_filter.mp (by show b ∈ barsOf sg st; rw [hb]; exact List.mem_cons_self)).1
      have hbl : b < sg.length := by have := (mem_places hbm).2; have := hfine.2; omega
      obtain ⟨tb, hy⟩ := hints.at (j := 0) (k := b) (by show (barsOf sg st)[0]? = some b; rw [hb]; rfl)
      refine EqBoolInt.of_rcne (SeqAt.RcNeAt.lists_lengths lD lE (by rw [hz]; simp) hu) (wpAny_truthy_bool ?_)
      rw [if_pos rfl]
      refine wpAny_execs_cons (wpAny_Assign_Name (Subscript_Constant (lsLd X₂ upd_eq (wpAny_Constant_int ⟨"list", _, slot_list_getitem.lookup, lD.typeIs, wpAny_getItem_list lD (by omega) (by omega) (by simpa using hy) (lsSt X₂ fun h₃ X₃ => ?_)⟩))))
      have S₃ : SignsAt h₃ ax sg := hsg.keeps X₃.keep
      have fin : ∀ (x : Str), x = txt (tellStep sg st d).behind → ∀ tk₃ tt, wpAny (model pw w) A (storeName (toldEnv L a cd) (Str.ofString "behind") (.str x tt)) (fun _ s' => (fun f s' => f = Flow.next ∧ ∃ h' tk' m', s' = Sh s h' tk' ∧ LS h₀ h L (toldCells L) h' m' cm ∧ m' (Str.ofString "run") = some (.ref rx) ∧ (∃ t, m' (Str.ofString "low") = some (Value.int (st.low : Nat) t)) ∧
          (∃ t, m' (Str.ofString "high") = some (Value.int ((tellStep sg st d).high : Nat) t)) ∧ (∃ t, m' (Str.ofString "behind") = some (Value.str (txt (tellStep sg st d).behind) t))) Flow.next s') E (Sh s h₃ tk₃) := by
        intro x hx tk₃ tt
        refine lsSt (s := Sh s h₃ tk₃) X₃ fun h₄ X₄ => ⟨rfl, h₄, _, _, rfl, X₄, upd_ne3 T.run, ⟨_, upd_ne3 low⟩, ⟨_, (by rw [e1]; exact (if_neg (by decide +kernel)).trans (if_pos rfl))⟩, ⟨_, upd_eq.trans (by rw [hx])⟩⟩
      refine wpAny_execs_cons (wpAny_Assign_Name (wpAny_IfExp (isTrue_and (isTrue_plain (lsLdC X₃ rfl T.sent (wpAny_truthy_bool ?_))))))
      have e0 : Str.ofString "" = txt [] := by decide +kernel
      cases hse : st.sent with
      | false =>
        rw [if_neg (by simp), if_neg (by simp)]
        refine Constant_str (wpAny_mono (fin _ (by rw [e2, hse, e0]; rfl) _ _) (fun _ s' hq => wpAny_execs_nil hq) fun _ _ x => x)
      | true =>
        rw [if_pos rfl]
        refine isTrue_and (sign_ne (c := 58) S₃ hbl hl1 (fun Q' hq => lsLdC X₃ rfl T.signs hq) (fun Q' hq => lsLd X₃ upd_eq hq) e58 fun tk₃ => ?_)
        by_cases c1 : sg.getD b 0 = 58
        · rw [if_neg (by rw [c1]; decide), if_neg (by simp)]
          refine Constant_str (wpAny_mono (fin _ (by rw [e2, hse, e0, c1]; rfl) _ _) (fun _ s' hq => wpAny_execs_nil hq) fun _ _ x => x)
        · rw [if_pos (bne_iff_ne.mpr c1)]
          refine isTrue_and_nil ?_
          rw [if_pos rfl]
          refine Constant_str (wpAny_mono (fin _ (by rw [e2, hse, e13, Bool.true_and, if_pos (bne_iff_ne.mpr c1)]) _ _) (fun _ s' hq => wpAny_execs_nil hq) fun _ _ x => x)
  obtain ⟨rfl, h₂, tk₂, m₂, rfl, X₂, mr, ⟨u1, ml⟩, ⟨u2, mh⟩, ⟨u3, mbe⟩⟩ := hp
  dsimp only
  obtain ⟨f1, f2, f3⟩ := tell_low (sg := sg) (st := st) d0 d1
  have hfh : (tellStep sg st d).high ≤ sg.length := by
    cases hb : barsOf sg st with
    | nil => rw [(tell_nil d0 d1 hb).1]; exact hfine.2
    | cons b r =>
      rw [(tell_cons d0 d1 hb).1]
      have hbm : b ∈ places st.low st.high := (List.mem_filter.mp (by show b ∈ barsOf sg st; rw [hb]; exact List.mem_cons_self)).1
      have := (mem_places hbm).2; have := hfine.2; omega
  have Bz : Base mg mb h₂ := B.keeps X₂.keep
  generalize hS : tellStep sg st d = S at *
  refine wpAny_execs_cons ?_
  refine comp_places (s := Sh s h₂ tk₂) (lo := st.low) (hi := S.high) (q := fun k => isStop st.folded (sg.getD k 0)) (cl := [(Str.ofString "signs", L + 1), (Str.ofString "folded", L + 2)]) hh rfl ?_ ?_ rfl ?_ rfl rfl rfl (by have := hfine.1; omega) (by omega) X₂.ns ?_ ?_ ?_ (fun _ => rfl) (by decide)
  · rfl
  · decide +kernel
  · decide +kernel
  · intro Q' hq
    exact Call_ (nmC_builtin Bz Bz.range0 Bz.range (PySem.callWith_type rfl (Calls.evalArgs_plain (args_cons (lsLd X₂ ml (args_cons (lsLd X₂ mh (args_nil (hq _ _ _)))))))))
  · intro C j t s₃ m₃ E' hC hj1 hj2 hn hm hk
    have X₃ : LS h₀ h L (toldCells L) s₃.heap m₂ cm := X₂.keeps hk
    have S₃ : SignsAt s₃.heap ax sg := hsg.keeps X₃.keep
    have hj : j < sg.length := by omega
    have cs := X₃.cl.cell (Str.ofString "signs") (L + 1) rfl
    rw [T.signs] at cs
    have ct := X₃.cl.cell (Str.ofString "folded") (L + 2) rfl
    rw [T.folded] at ct
    refine isTrue_or (sign_eq (c := 46) S₃ hj hl1 (fun Q' hq => ldCE rfl rfl rfl cs hq) (fun Q' hq => ldE rfl rfl hn hm hq) e46 fun tk₁ => ?_)
    by_cases c1 : sg.getD j 0 = 46
    · rw [if_pos (beq_iff_eq.mpr c1)]
      exact ⟨by rw [c1]; rfl, tk₁, rfl⟩
    rw [if_neg fun e => c1 (beq_iff_eq.mp e)]
    refine isTrue_or (isTrue_and (isTrue_plain (ldCE rfl rfl rfl ct (wpAny_truthy_bool ?_))))
    cases hst : st.folded with
    | false =>
      rw [if_neg (by simp), if_neg (by simp)]
      exact isTrue_or_nil ⟨(stop_no c1 (.inl rfl)).symm, tk₁, rfl⟩
    | true =>
      rw [if_pos rfl]
      refine isTrue_and (sign_eq (c := 13255) S₃ hj hl1 (fun Q' hq => ldCE rfl rfl rfl cs hq) (fun Q' hq => ldE rfl rfl hn hm hq) eco fun tk₃ => ?_)
      by_cases c3 : sg.getD j 0 = 13255
      · rw [if_pos (beq_iff_eq.mpr c3)]
        refine isTrue_and_nil ?_
        rw [if_pos rfl]
        exact ⟨by rw [c3]; rfl, tk₃, rfl⟩
      · rw [if_neg fun e => c3 (beq_iff_eq.mp e), if_neg (by simp)]
        exact isTrue_or_nil ⟨(stop_no c1 (.inr c3)).symm, tk₃, rfl⟩
  intro D' h₃ tk₃ zs hl' hD' hints' hns' hk'
  have X₃ : LS h₀ h L (toldCells L) h₃ _ cm := X₂.setNew hns' hk'
  have hstops : zs.size = ((places st.low S.high).filter fun k => isStop st.folded (sg.getD k 0)).length := by rw [← hints'.len]; simp
  refine wpAny_execs_cons (wpAny_If (wpAny_isTrue_Compare1 (lsLd X₃ upd_eq (List_ (args_nil (wpAny_newObj_type ?_))))))
  have kp : Keeps h₃ (h₃.push { cls := .type "list", data := .seq ([] : List Value).toArray }) := fun b o e => Heap.get?_push_of_some _ e
  have lE : (h₃.push { cls := .type "list", data := .seq ([] : List Value).toArray }).IsList h₃.objs.size #[] := ⟨_, Heap.get?_push_size _ rfl, rfl, _, rfl⟩
  have lD := isList_keeps hl' kp
  have X₄ := X₃.keeps kp
  dsimp only
  generalize h₃.push { cls := .type "list", data := .seq ([] : List Value).toArray } = h₄ at kp lE lD X₄ ⊢
  generalize hstp : ((places st.low S.high).filter fun k => isStop st.folded (sg.getD k 0)) = stops at *
  by_cases hz : stops = []
  · subst hz
    have hz : zs.size = 0 := by rw [hstops]; rfl
    refine EqBoolInt.of_rcne (SeqAt.RcNeAt.lists (e := fun _ => true) lD lE hz hu (fun j q _ => absurd q (by omega))) (wpAny_truthy_bool ?_)
    rw [hz, if_neg (by decide)]
    have f1 : S.low = st.low := f1
    refine wpAny_execs_nil (wpAny_execs_nil (wpAny_execs_nil (wpAny_execs_nil ⟨rfl, h₄, _, _, _, rfl, X₄, ?_, by rw [f1]; exact hfine.1, hfh⟩)))
    exact ⟨upd_ne mr, ⟨_, (upd_ne ml).trans (by rw [f1])⟩, ⟨_, upd_ne mh⟩, ⟨_, upd_ne mbe⟩, T.signs, by rw [f2]; exact T.folded, by rw [f3]; exact T.sent⟩
  · obtain ⟨k, hk9⟩ : ∃ k, stops.getLast? = some k := by
      cases e : stops.getLast? with
      | none => exact absurd (List.getLast?_eq_none_iff.mp e) hz
      | some k => exact ⟨k, rfl⟩
    rw [hk9] at f1
    have f1 : S.low = k + 1 := f1
    have hlen : 0 < stops.length := List.length_pos_iff.mpr hz
    have hkm : k ∈ places st.low S.high := by
      have : k ∈ stops := List.mem_of_getLast? hk9
      rw [← hstp] at this
      exact (List.mem_filter.mp this).1
    have hkl : k < S.high := (mem_places hkm).2
    obtain ⟨tb, hy⟩ := hints'.at (j := stops.length - 1) (k := k) (by rw [← List.getLast?_eq_getElem?]; exact hk9)
    refine EqBoolInt.of_rcne (SeqAt.RcNeAt.lists_lengths lD lE (by rw [hstops]; simp; omega) hu) (wpAny_truthy_bool ?_)
    rw [if_pos rfl]
    refine wpAny_execs_cons (wpAny_Assign_Name (wpAny_BinOp (Subscript_UnaryOp (lsLd X₄ upd_eq (wpAny_UnaryOp (wpAny_Constant_int (PyProof.Rows.neg_int ⟨"list", _, slot_list_getitem.lookup, lD.typeIs, wpAny_getItem_list_neg lD (by omega) (by omega) (by omega) (x := Value.int (k : Nat) tb) ?_ ?_⟩)))))))
    · rw [show ((-1 : Int) + (zs.size : Int)).toNat = stops.length - 1 by omega]
      simpa using hy
    refine wpAny_Constant_int (PyProof.Rows.add_int (lsSt X₄ fun h₅ X₅ => ?_))
    refine wpAny_execs_nil (wpAny_execs_nil (wpAny_execs_nil (wpAny_execs_nil ⟨rfl, h₅, _, _, _, rfl, X₅, ?_, by rw [f1]; omega, hfh⟩)))
    exact ⟨upd_ne2 mr, ⟨_, upd_eq.trans (by rw [f1]; rfl)⟩, ⟨_, upd_ne2 mh⟩, ⟨_, upd_ne2 mbe⟩, T.signs, by rw [f2]; exact T.folded, by rw [f3]; exact T.sent⟩
end Mine
end

section
open PySem PyProof.Rows PySem.Calls
set_option maxRecDepth 100000
namespace Mine
theorem txt_append (x y : List Nat) : txt x ++ txt y = txt (x ++ y) := by
  refine txt_eq ?_
  show ((txt x).cps ++ (txt y).cps).toList = _
  simp [txt]
theorem callWith_fn {M : Model} {A : Around} {E : Value → Shared → Prop} {s : Shared} {env : Env} {pos : Pos} {i : Nat} {f : Addr} {h₀ : Heap} {e : Expr} {rest : List Expr} {Q : Value → Shared → Prop} (hf : FnAt h₀ i f)
    (h : wpAny M A (spliced (backTo pos (starEach (e :: rest) env))) (fun vs s₁ => Keeps h₀ s₁.heap ∧ wpAny M A (call (.ref f) vs) Q E s₁) E s)
    (he : starEach (e :: rest) env = (false, eval e env) :: starEach rest env := by rfl) :
    wpAny M A (callWith pos (.ref f) [] (backTo pos (starEach (e :: rest) env)) []) Q E s := by
  obtain ⟨o, pm, cd, doc, h1, h2, _⟩ := hf
  exact callWith_def h2 (wpAny_mono h (fun vs s₁ hq => ⟨hq.1 _ _ h1, hq.2⟩) fun _ _ x => x) he
theorem render_len (f s : Bool) (c : Nat) : (render f s c).length ≤ 3 := by
  unfold render foldSign
  split <;> (try split) <;> (try split) <;> (try split) <;> (try split) <;> (try split) <;> simp

set_option maxHeartbeats 4000000 in
theorem text_turn {w : World} {A : Around} {E : Value → Shared → Prop} {s : Shared} {h₀ h : Heap} {tk : Nat} {a fa ax rx L : Addr} {cd : Value} {sg acc : List Nat} {st : St} {j : Nat} {mg mb m cm : Str → Option Value} (B : Base mg mb h₀)
    (hg : mg (Str.ofString "_law_folded") = some (.ref fa)) (hff : FnAt h₀ 14 fa) (hroom : A.depth < recursionLimit) (hacc : acc.length ≤ 3000)
    (hsg : SignsAt h₀ ax sg) (hl1 : sg.length ≤ 1000) (X : LS h₀ h L (toldCells L) h m cm) (T : Tells ax rx st m cm) (hj : j < sg.length) (hk : ∃ t, m (Str.ofString "k") = some (Value.int (j : Nat) t))
    (ht : ∃ t, m (Str.ofString "text") = some (Value.str (txt acc) t)) :
    wpAny (model pw w) A (execs (forBody 15 7) (toldEnv L a cd)) (fun f s₂ => f = .next ∧ ∃ h' tk' m', s₂ = Sh s h' tk' ∧ LS h₀ h L (toldCells L) h' m' cm ∧ Tells ax rx st m' cm ∧
      ∃ t, m' (Str.ofString "text") = some (Value.str (txt (acc ++ render st.folded st.sent (sg.getD j 0))) t)) E (Sh s h tk) := by
  obtain ⟨tk1, hk⟩ := hk
  obtain ⟨tt, ht⟩ := ht
  have B₀ : Base mg mb h := B.keeps X.keep
  have S₀ : SignsAt h ax sg := hsg.keeps X.keep
  have e13 : Str.ofString "\r" = txt [13] := by decide +kernel
  have e1310 : Str.ofString "\r\n" = txt [13, 10] := by decide +kernel
  have hsz : ∀ y : List Nat, y.length ≤ 3 → (txt acc).length + (txt y).length ≤ sizeLine := fun y hy => by rw [txt_length, txt_length, sizeLine_eq]; omega
  have fin : ∀ (h₁ : Heap) (y : List Nat), Keeps h h₁ → y = render st.folded st.sent (sg.getD j 0) → ∀ tk₃ u, wpAny (model pw w) A (binaryOp .Add (.str (txt acc) tt) (.str (txt y) u)) (fun v s₁ => wpAny (model pw w) A (storeName (toldEnv L a cd) (Str.ofString "text") v)
      (fun _ s₂ => ∃ h' tk' m', s₂ = Sh s h' tk' ∧ LS h₀ h L (toldCells L) h' m' cm ∧ Tells ax rx st m' cm ∧
      ∃ t, m' (Str.ofString "text") = some (Value.str (txt (acc ++ render st.folded st.sent (sg.getD j 0))) t)) E s₁) E (Sh s h₁ tk₃) := by
    intro h₁ y hk₁ hy tk₃ u
    refine PyProof.Rows.add_str (hsz := hsz y (by rw [hy]; exact render_len _ _ _)) fun t' tk₄ => ?_
    refine lsSt (s := Sh s h₁ tk₄) (X.keeps hk₁) fun h₂ X₂ => ?_
    refine ⟨h₂, _, _, rfl, X₂, ⟨upd_ne T.run, T.low.imp fun _ e => upd_ne e, T.high.imp fun _ e => upd_ne e, T.behind.imp fun _ e => upd_ne e, T.signs, T.folded, T.sent⟩, t', ?_⟩
    rw [txt_append, hy]
    exact upd_eq
  show wpAny _ _ (execs (_ :: []) _) _ _ _
  refine wpAny_execs_cons (wpAny_If (wpAny_mono (Q := fun ok s₁ => ok = (st.sent && sg.getD j 0 == 13) ∧ ∃ tk, s₁ = Sh s h tk) ?_ (fun ok s₁ hp => ?_) fun _ _ x => x))
  · refine isTrue_and (isTrue_plain (lsLdC X rfl T.sent (wpAny_truthy_bool ?_)))
    cases hst : st.sent with
    | false =>
      rw [if_neg (by simp)]
      exact ⟨rfl, _, rfl⟩
    | true =>
      rw [if_pos rfl]
      refine isTrue_and (sign_eq (c := 13) S₀ hj hl1 (fun Q' hq => lsLdC X rfl T.signs hq) (fun Q' hq => lsLd X hk hq) e13 fun tk₃ => ?_)
      by_cases c3 : sg.getD j 0 = 13
      · rw [if_pos (beq_iff_eq.mpr c3)]
        exact isTrue_and_nil ⟨by rw [c3]; rfl, _, rfl⟩
      · rw [if_neg fun e => c3 (beq_iff_eq.mp e)]
        exact ⟨by rw [beq_eq_false_iff_ne.mpr c3]; rfl, _, rfl⟩
  obtain ⟨rfl, tk₁, rfl⟩ := hp
  cases hb : (st.sent && sg.getD j 0 == 13) with
  | true =>
    rw [if_pos rfl]
    refine wpAny_execs_cons (wpAny_Assign_Name (wpAny_BinOp (lsLd X ht (Constant_str ?_))))
    rw [e1310]
    refine wpAny_mono (fin h [13, 10] (fun _ _ e => e) (by unfold render; rw [hb, if_pos rfl]) _ _) (fun v s₁ hq => wpAny_mono hq (fun _ s₂ hq => wpAny_execs_nil (wpAny_execs_nil ⟨rfl, hq⟩)) fun _ _ x => x) fun _ _ x => x
  | false =>
    rw [if_neg (by simp)]
    refine wpAny_execs_cons (wpAny_If (isTrue_plain (lsLdC X rfl T.folded (wpAny_truthy_bool ?_))))
    cases hfo : st.folded with
    | true =>
      rw [if_pos rfl]
      refine wpAny_execs_cons (wpAny_Assign_Name (wpAny_BinOp (lsLd X ht (Call_ (nmC_global B₀ hg (callWith_fn hff (args_cons (sign_at S₀ hj hl1 (fun Q' hq => lsLdC X rfl T.signs hq) (fun Q' hq => lsLd X hk hq) fun u => args_nil ⟨X.keep, ?_⟩))))))))
      refine call_folded (s := Sh s h tk₁) B₀ (hff.keeps X.keep) hroom fun h₁ tk₂ tok hk₁ => ?_
      refine wpAny_mono (fin h₁ _ hk₁ (by unfold render; rw [hb, hfo, if_neg (by simp), if_pos rfl]) _ _) (fun v s₁ hq => wpAny_mono hq (fun _ s₂ hq => wpAny_execs_nil (wpAny_execs_nil (wpAny_execs_nil ⟨rfl, hfo ▸ hq⟩))) fun _ _ x => x) fun _ _ x => x
    | false =>
      rw [if_neg (by simp)]
      refine wpAny_execs_cons (wpAny_Assign_Name (wpAny_BinOp (lsLd X ht (sign_at S₀ hj hl1 (fun Q' hq => lsLdC X rfl T.signs hq) (fun Q' hq => lsLd X hk hq) fun u => ?_))))
      refine wpAny_mono (fin h _ (fun _ _ e => e) (by unfold render; rw [hb, hfo, if_neg (by simp), if_neg (by simp)]) _ _) (fun v s₁ hq => wpAny_mono hq (fun _ s₂ hq => wpAny_execs_nil (wpAny_execs_nil (wpAny_execs_nil ⟨rfl, hfo ▸ hq⟩))) fun _ _ x => x) fun _ _ x => x
end Mine
end

section
open PySem PyProof.Rows PySem.Calls
set_option maxRecDepth 100000
namespace Mine
theorem LS.but {h₀ hc h h' : Heap} {L I : Addr} {cs : List (Str × Addr)} {m cm : Str → Option Value} (X : LS h₀ hc L cs h m cm) (hIL : I ≠ L) (hIc : ∀ n, (n, I) ∉ cs) (hI0 : h₀.get? I = none) (hIh : hc.get? I = none)
    (k : ∀ b o, b ∉ [I] → h.get? b = some o → h'.get? b = some o) : LS h₀ hc L cs h' m cm :=
  ⟨X.ns.at' fun o e => k _ o (by simpa using Ne.symm hIL) e,
   ⟨fun n c e => let ⟨o, ho, hd⟩ := X.cl.cell n c e; ⟨o, k c o (fun hm => hIc n (List.mem_singleton.mp hm ▸ mem_of_lookup e)) ho, hd⟩, X.cl.apart, X.cl.above⟩,
   fun b o e => k b o (fun hm => by rw [List.mem_singleton.mp hm, hI0] at e; cases e) (X.keep b o e),
   fun b o h1 h2 e => k b o (fun hm => by rw [List.mem_singleton.mp hm, hIh] at e; cases e) (X.keepc b o h1 h2 e), X.above⟩
theorem toldCells_lt {h₀ hc h : Heap} {L : Addr} {m cm : Str → Option Value} (X : LS h₀ hc L (toldCells L) h m cm) {n : Str} {c : Addr} (hm : (n, c) ∈ toldCells L) : c < h.objs.size :=
  X.cell_lt (lookup_of_mem_nodup (by rw [cellsFrom_names (defAt 15).2.2.2.names (L + 1) 0 [] [] rfl]; decide +kernel) hm)

abbrev upTo (sg : List Nat) (st : St) (i : Nat) : List Nat := (List.range' st.low i).flatMap fun k => render st.folded st.sent (sg.getD k 0)
theorem upTo_succ (sg : List Nat) (st : St) (i : Nat) : upTo sg st (i + 1) = upTo sg st i ++ render st.folded st.sent (sg.getD (st.low + i) 0) := by
  unfold upTo
  rw [List.range'_concat, List.flatMap_append, Nat.one_mul]
  simp
theorem upTo_len (sg : List Nat) (st : St) : ∀ i, (upTo sg st i).length ≤ 3 * i
  | 0 => by simp [upTo]
  | i + 1 => by
    rw [upTo_succ, List.length_append]
    have := upTo_len sg st i
    have := render_len st.folded st.sent (sg.getD (st.low + i) 0)
    omega

set_option maxHeartbeats 4000000 in
theorem told_tail {w : World} {A : Around} {E : Value → Shared → Prop} {s : Shared} {h₀ h : Heap} {tk : Nat} {a fa ax rx L : Addr} {cd : Value} {sg : List Nat} {st : St} {mg mb m cm : Str → Option Value} (B : Base mg mb h₀)
    (hg : mg (Str.ofString "_law_folded") = some (.ref fa)) (hff : FnAt h₀ 14 fa) (hroom : A.depth < recursionLimit) (hh : A.handled = none)
    (hsg : SignsAt h₀ ax sg) (hl1 : sg.length ≤ 1000) (X : LS h₀ h₀ L (toldCells L) h m cm) (T : Tells ax rx st m cm) (hfine : Fine sg st) (hbe : st.behind.length ≤ 2) :
    wpAny (model pw w) A (execs ((defAt 15).2.2.1.drop 6) (toldEnv L a cd)) (fun f s₂ => ∃ tok h' tk', f = .ret (.str (txt (tellText sg st)) tok) ∧ s₂ = Sh s h' tk' ∧ Keeps h₀ h') E (Sh s h tk) := by
  show wpAny _ _ (execs (_ :: _ :: _ :: []) _) _ _ _
  refine wpAny_execs_cons (wpAny_Assign_Name (Constant_str (lsSt (s := Sh s h _) X fun h₈ X₈ => ?_)))
  obtain ⟨t1, low⟩ := T.low
  obtain ⟨t2, high⟩ := T.high
  obtain ⟨t3, behind⟩ := T.behind
  have B₈ : Base mg mb h₈ := B.keeps X₈.keep
  have e0 : Str.ofString "" = txt [] := by decide +kernel
  rw [e0] at X₈
  refine wpAny_execs_cons (wpAny_For (Call_ (nmC_builtin B₈ B₈.range0 B₈.range (PySem.callWith_type rfl (Calls.evalArgs_plain (args_cons (lsLd X₈ (upd_ne low) (args_cons (lsLd X₈ (upd_ne high) (args_nil ?_))))))))))
  obtain ⟨hsm, hsz⟩ := small_range (lo := st.low) (hi := st.high) (by have := hfine.1; omega) (by have := hfine.2; omega)
  refine call_range_2 (wpAny_pyIter_range (IsRange.new _ _ _ _ _ _ _) hsm ?_)
  dsimp only
  generalize hH : h₈.push { cls := .type "range", data := .fields #[Value.int (st.low : Nat) t1, Value.int (st.high : Nat) t2, .int 1 _] } = H
  have hHs : H.objs.size = h₈.objs.size + 1 := by rw [← hH, Heap.size_push]
  have k1 : Keeps h₈ H := fun b o e => hH ▸ Heap.get?_push_of_some _ e
  generalize hG : H.push { cls := .type "range_iterator", data := .fields #[rawInt (st.low : Nat), rawInt (Builtin.Range.rangeSize (st.low : Nat) (st.high : Nat) 1), rawInt 1] } = G
  have k2 : Keeps h₈ G := fun b o e => hG ▸ Heap.get?_push_of_some _ (k1 b o e)
  have hI8 : h₈.objs.size ≤ H.objs.size := by rw [hHs]; exact Nat.le_succ _
  have hnoI : ∀ {h : Heap}, Keeps h h₈ → h.get? H.objs.size = none := fun {h} k => by
    cases e : h.get? H.objs.size with
    | none => rfl
    | some o => exact absurd (Heap.lt_size (k _ _ e)) (Nat.not_lt.mpr hI8)
  have hIL : H.objs.size ≠ L := Nat.ne_of_gt (Nat.lt_of_lt_of_le X₈.lt hI8)
  have hIc : ∀ n, (n, H.objs.size) ∉ toldCells L := fun n hm => Nat.lt_irrefl _ (Nat.lt_of_lt_of_le (toldCells_lt X₈ hm) hI8)
  refine loopOn (s := Sh s G _) (Walks.range (A := A) hh H.objs.size (st.low : Nat) 1 (st.high - st.low)).bound
    (fun i h => ∃ m, LS h₀ h₀ L (toldCells L) h m cm ∧ Tells ax rx st m cm ∧ ∃ t, m (Str.ofString "text") = some (Value.str (txt (upTo sg st i)) t)) ?_ ?_ ?_ ?_ ?_
  · rintro i h h' ⟨m, X, T, t, ht⟩ k
    exact ⟨m, X.but hIL hIc (hnoI X₈.keep) (hnoI X₈.keep) k, T, t, ht⟩
  · show G.get? H.objs.size = _
    rw [← hG, Heap.get?_push_size _ rfl, hsz]
    simp
  · exact ⟨_, X₈.keeps k2, ⟨upd_ne T.run, T.low.imp fun _ e => upd_ne e, T.high.imp fun _ e => upd_ne e, T.behind.imp fun _ e => upd_ne e, T.signs, T.folded, T.sent⟩, _, upd_eq⟩
  · rintro i v h tk₁ E' hi ⟨hi', tv, rfl⟩ ⟨m, X, T, t, ht⟩ hst
    have hv : ((st.low : Int) + (i : Int) * 1) = ((st.low + i : Nat) : Int) := by omega
    rw [hv]
    have hfh := hfine.2
    have hu := upTo_len sg st i
    refine lsSt (s := Sh s h tk₁) X.self fun h₉ X₉ => ?_
    refine wpAny_mono (text_turn (s := s) (A := A) (j := st.low + i) B hg hff hroom (acc := upTo sg st i) (by omega) hsg hl1 X₉.self ⟨upd_ne T.run, T.low.imp fun _ e => upd_ne e, T.high.imp fun _ e => upd_ne e, T.behind.imp fun _ e => upd_ne e, T.signs, T.folded, T.sent⟩ (by omega) ⟨_, upd_eq⟩ ⟨_, upd_ne ht⟩) (fun f s₂ hp => ?_) fun _ _ x => x
    obtain ⟨rfl, h', tk', m', rfl, X', T', ht'⟩ := hp
    have XX := X₉.back X'
    refine ⟨rfl, h', tk', rfl, ⟨m', X.back XX, T', ?_⟩, fun b hb o e => ?_⟩
    · rw [upTo_succ]; exact ht'
    · rw [List.mem_singleton.mp hb] at e ⊢
      exact XX.keepc _ o hIL hIc e
  rintro h₉ tk₁ ⟨m₉, X₉, T₉, t, ht⟩
  dsimp only
  obtain ⟨t4, be⟩ := T₉.behind
  have hfh := hfine.2
  have hu := upTo_len sg st (st.high - st.low)
  refine wpAny_execs_cons (wpAny_Return_some (wpAny_BinOp (lsLd (s := Sh s h₉ tk₁) X₉ ht (lsLd X₉ be ?_))))
  refine PyProof.Rows.add_str (hsz := by rw [txt_length, txt_length, sizeLine_eq]; omega) fun t' tk₄ => ?_
  rw [txt_append]
  exact ⟨_, h₉, _, rfl, rfl, X₉.keep⟩
end Mine
end

section
open PySem PyProof.Rows PySem.Calls
set_option maxRecDepth 100000
namespace Mine
abbrev stAt (sg run : List Nat) (i : Nat) : St := (run.take i).foldl (tellStep sg) (startSt sg)
theorem stAt_succ {sg run : List Nat} {i d : Nat} (h : run[i]? = some d) : stAt sg run (i + 1) = tellStep sg (stAt sg run i) d := by
  unfold stAt
  rw [List.take_add_one, h, List.foldl_append]
  rfl

theorem tell_behind {sg : List Nat} {st : St} {d : Nat} (h : st.behind.length ≤ 2) : (tellStep sg st d).behind.length ≤ 2 := by
  by_cases d0 : d = 0
  · simpa [tellStep, d0] using h
  by_cases d1 : d = 1
  · by_cases hb : st.behind = [13] <;> simp [tellStep, d1, hb, h]
  cases hb : barsOf sg st with
  | nil =>
    rw [(tell_nil d0 d1 hb).2]
    split
    · simp
    · exact h
  | cons b r =>
    rw [(tell_cons d0 d1 hb).2]
    split <;> simp
theorem fold_behind {sg : List Nat} : ∀ (run : List Nat) (st : St), st.behind.length ≤ 2 → (run.foldl (tellStep sg) st).behind.length ≤ 2
  | [], _, h => h
  | _ :: r, _, h => fold_behind r _ (tell_behind h)

set_option maxHeartbeats 4000000 in
theorem call_told {w : World} {A : Around} {E : Value → Shared → Prop} {s : Shared} {a fa ax rx : Addr} {sg run : List Nat} {Q : Value → Shared → Prop} {mg mb : Str → Option Value} (B : Base mg mb s.heap) (hf : FnAt s.heap 15 a)
    (hg : mg (Str.ofString "_law_folded") = some (.ref fa)) (hff : FnAt s.heap 14 fa) (hroom : A.depth + 1 < recursionLimit) (hh : A.handled = none) (hu : A.units + 3 < cLine)
    (hsg : SignsAt s.heap ax sg) (hrun : RunAt s.heap rx run) (hl1 : sg.length ≤ 1000) (hl2 : run.length ≤ 1000)
    (h : ∀ h' tk tok, Keeps s.heap h' → Q (.str (txt (told sg run)) tok) { s with heap := h', toks := tk }) :
    wpAny (model pw w) A (call (.ref a) [.ref ax, .ref rx]) Q E s := by
  obtain ⟨o, pm, cd, doc, h1, h2, h3⟩ := hf
  refine wpAny_call (call_cells_ret (binds := [(Str.ofString "signs", .ref ax), (Str.ofString "run", .ref rx)]) (by omega) h1 h2 B.lim h3 rfl ?_ ?_ rfl rfl rfl)
  · intro x hx
    simp only [List.mem_cons, List.not_mem_nil, or_false] at hx
    rcases hx with rfl | rfl
    · exact .inr ⟨rfl, rfl⟩
    · exact .inl rfl
  intro h₁ tk F X
  show wpAny _ _ (execs (_ :: _ :: _ :: _ :: _ :: _ :: _ :: _ :: _ :: []) _) _ _ _
  have X : LS s.heap s.heap s.heap.objs.size (toldCells s.heap.objs.size) h₁ _ _ := ⟨F.ns, X, F.keep, fun b o _ _ e => F.keep b o e, Nat.le_refl _⟩
  have B₁ : Base mg mb h₁ := B.keeps X.keep
  refine wpAny_execs_cons (wpAny_Assign_Name (wpAny_Constant_int (lsSt X fun h₂ X₂ => ?_)))
  have B₂ : Base mg mb h₂ := B.keeps X₂.keep
  obtain ⟨its, i1, i2, i3⟩ := id hsg
  refine wpAny_execs_cons (wpAny_Assign_Name (Call_ (nmC_builtin B₂ B₂.len0 B₂.len (callWith_builtin1 (args_cons (lsLdC X₂ rfl rfl (args_nil (call_len_list (isList_keeps i1 X₂.keep) (by omega) (lsSt X₂ fun h₃ X₃ => ?_)))))))))
  refine wpAny_execs_cons (wpAny_Assign_Name (Constant_str (lsSt X₃ fun h₄ X₄ => ?_)))
  refine wpAny_execs_cons (wpAny_Assign_Name (Constant_bool (lsStC X₄ rfl fun h₅ X₅ => ?_)))
  refine wpAny_execs_cons (wpAny_Assign_Name (Constant_bool (lsStC X₅ rfl fun h₆ X₆ => ?_)))
  have e0 : Str.ofString "" = txt [] := by decide +kernel
  obtain ⟨m₆, cm₆, X₆, T₆⟩ : ∃ m cm, LS s.heap s.heap s.heap.objs.size (toldCells s.heap.objs.size) h₆ m cm ∧ Tells ax rx (stAt sg run 0) m cm :=
    ⟨_, _, X₆, rfl, ⟨_, rfl⟩, ⟨_, (rfl : _ = some (Value.int (its.size : Nat) _)).trans (by rw [i2]; rfl)⟩, ⟨_, (rfl : _ = some (Value.str (Str.ofString "") _)).trans (by rw [e0]; rfl)⟩, rfl, rfl, rfl⟩
  refine any_tok (s := s) (h := h₆) fun tk => ?_
  clear X₂ X₃ X₄ X₅ B₂ B₁ X F
  obtain ⟨ris, r1, r2, r3⟩ := RunAt.keeps hrun X₆.keep
  have hrlt : rx < s.heap.objs.size := by obtain ⟨o, e, _⟩ := hrun.choose_spec.1; exact Heap.lt_size e
  refine wpAny_execs_cons (wpAny_For (lsLd X₆ T₆.run (wpAny_pyIter_list r1 ?_)))
  have hI6 : ∀ b o, h₆.get? b = some o → b ≠ h₆.objs.size := fun b o e => Nat.ne_of_lt (Heap.lt_size e)
  have hnoI : ∀ {h : Heap}, Keeps h h₆ → h.get? h₆.objs.size = none := fun {h} k => by
    cases e : h.get? h₆.objs.size with
    | none => rfl
    | some o => exact absurd rfl (hI6 _ _ (k _ _ e))
  have hIL : h₆.objs.size ≠ s.heap.objs.size := Nat.ne_of_gt X₆.lt
  have hIc : ∀ n, (n, h₆.objs.size) ∉ toldCells s.heap.objs.size := fun n hm => Nat.lt_irrefl _ (toldCells_lt X₆ hm)
  have kp : Keeps h₆ (h₆.push { cls := .type "list_iterator", data := .fields #[.ref rx, .int 0 0] }) := fun b o e => Heap.get?_push_of_some _ e
  refine loopOn (s := Sh s _ _) (Walks.list (A := A.deeper _) hh h₆.objs.size rx (Nat.ne_of_lt (Nat.lt_trans hrlt X₆.lt)) ris)
    (fun i h => ∃ m cm, LS s.heap s.heap s.heap.objs.size (toldCells s.heap.objs.size) h m cm ∧ Tells ax rx (stAt sg run i) m cm ∧ Fine sg (stAt sg run i)) ?_ ?_ ?_ ?_ ?_
  · rintro i h h' ⟨m, cm, X, T, F⟩ k
    exact ⟨m, cm, X.but hIL hIc (hnoI X₆.keep) (hnoI X₆.keep) k, T, F⟩
  · exact ⟨⟨_, Heap.get?_push_size _ rfl, rfl, rfl⟩, isList_keeps r1 kp⟩
  · exact ⟨m₆, cm₆, X₆.keeps kp, T₆, Nat.zero_le _, Nat.le_refl _⟩
  · rintro i v h tk₁ E' hi hP ⟨m, cm, X, T, F⟩ hst
    have hi : i < run.length := by omega
    obtain ⟨td, hd⟩ := r3 i _ (getD_of hi)
    have hP : ris[i]? = some v := hP
    rw [hd] at hP
    cases hP
    refine lsSt (s := Sh s h tk₁) X.self fun h₇ X₇ => ?_
    refine wpAny_mono (told_turn (s := s) (d := run.getD i 0) (A := A.deeper _) B hh (by show A.units + 3 < cLine; exact hu) hsg hl1 X₇.self ⟨upd_ne T.run, T.low.imp fun _ e => upd_ne e, T.high.imp fun _ e => upd_ne e, T.behind.imp fun _ e => upd_ne e, T.signs, T.folded, T.sent⟩ F ⟨td, upd_eq⟩) (fun f s₂ hp => ?_) fun _ _ x => x
    obtain ⟨rfl, h', tk', m', cm', rfl, X', T', F'⟩ := hp
    have XX := X₇.back X'
    refine ⟨rfl, h', tk', rfl, ⟨m', cm', X.back XX, ?_, ?_⟩, fun b hb o e => ?_⟩
    · rw [stAt_succ (getD_of hi)]; exact T'
    · rw [stAt_succ (getD_of hi)]; exact F'
    · rcases List.mem_cons.mp hb with rfl | hb
      · exact XX.keepc _ o hIL hIc e
      · rw [List.mem_singleton.mp hb] at e ⊢
        exact XX.keepc _ o (X.off hrlt).1 (X.off hrlt).2 e
  rintro h₇ tk₁ ⟨m₇, cm₇, X₇, T₇, F₇⟩
  have hful : stAt sg run ris.size = run.foldl (tellStep sg) (startSt sg) := by
    unfold stAt
    rw [List.take_of_length_le (by omega)]
  rw [hful] at T₇ F₇
  dsimp only
  refine wpAny_mono (told_tail (s := s) (A := A.deeper _) B hg hff (by show A.depth + 1 < recursionLimit; exact hroom) hh hsg hl1 X₇ T₇ F₇ (fold_behind run _ (by simp [startSt]))) (fun f s₂ hp => ?_) fun _ _ x => x
  obtain ⟨tok, h', tk', rfl, rfl, hk⟩ := hp
  exact h h' tk' tok hk
end Mine
end

section
open PySem PyProof.Rows PySem.Calls
set_option maxRecDepth 100000
namespace Mine
/-! what the law's own code needs: joins, slices, plain comprehensions -/
theorem strs_append : ∀ {vs ws : List Value} {xs ys : List Str}, StrsAre vs xs → StrsAre ws ys → StrsAre (vs ++ ws) (xs ++ ys)
  | _, _, _, _, .nil, h => h
  | _, _, _, _, .cons y t r, h => .cons y t (strs_append r h)
theorem strs_len : ∀ {vs : List Value} {xs : List Str}, StrsAre vs xs → vs.length = xs.length
  | _, _, .nil => rfl
  | _, _, .cons y t r => by simp [strs_len r]
theorem strs_at : ∀ {vs : List Value} {xs : List Str}, StrsAre vs xs → ∀ {k : Nat} {y : Str}, xs[k]? = some y → ∃ t, vs[k]? = some (.str y t)
  | _, _, .nil, _, _, h => by simp at h
  | _, _, .cons y t r, 0, z, h => by simp at h; subst h; exact ⟨t, rfl⟩
  | _, _, .cons y t r, k + 1, z, h => by simpa using strs_at r (k := k) (by simpa using h)
theorem signs_of_strs {h : Heap} {a : Addr} {items : Array Value} {sg : List Nat} (hl : h.IsList a items) (hs : StrsAre items.toList (sg.map fun c => txt [c])) : SignsAt h a sg := by
  refine ⟨items, hl, ?_, fun k c e => ?_⟩
  · have := strs_len hs
    simpa using this
  · have e' : (sg.map fun c => txt [c])[k]? = some (txt [c]) := by simp [e]
    obtain ⟨t, h⟩ := strs_at hs e'
    exact ⟨t, by simpa using h⟩
theorem ints_len : ∀ {vs : List Value} {ns : List Int}, IntsAre vs ns → vs.length = ns.length
  | _, _, .nil => rfl
  | _, _, .cons y t r => by simp [ints_len r]
theorem ints_at : ∀ {vs : List Value} {xs : List Int}, IntsAre vs xs → ∀ {k : Nat} {y : Int}, xs[k]? = some y → ∃ t, vs[k]? = some (.int y t)
  | _, _, .nil, _, _, h => by simp at h
  | _, _, .cons y t r, 0, z, h => by simp at h; subst h; exact ⟨t, rfl⟩
  | _, _, .cons y t r, k + 1, z, h => by simpa using ints_at r (k := k) (by simpa using h)
theorem ints_take : ∀ {vs : List Value} {xs : List Int} (_ : IntsAre vs xs) (k : Nat), IntsAre (vs.take k) (xs.take k)
  | _, _, .nil, k => by simpa using IntsAre.nil
  | _, _, .cons y t r, 0 => by simpa using IntsAre.nil
  | _, _, .cons y t r, k + 1 => by simpa using IntsAre.cons y t (ints_take r k)
abbrev natInts (run : List Nat) : List Int := run.map fun (d : Nat) => (d : Int)
/-- a list of small ints, by the library's relation -/
def RunI (h : Heap) (a : Addr) (run : List Nat) : Prop := ∃ vs : List Value, h.IsList a vs.toArray ∧ IntsAre vs (natInts run)
theorem RunI.at {h : Heap} {a : Addr} {run : List Nat} (x : RunI h a run) : RunAt h a run := by
  obtain ⟨vs, hl, hi⟩ := x
  refine ⟨vs.toArray, hl, by simpa using ints_len hi, fun k d e => ?_⟩
  have e' : (natInts run)[k]? = some (d : Int) := by simp [natInts, e]
  obtain ⟨t, h⟩ := ints_at hi e'
  exact ⟨t, by simpa using h⟩
theorem RunI.keeps {h h' : Heap} {ax : Addr} {sg : List Nat} (x : RunI h ax sg) (k : Keeps h h') : RunI h' ax sg := by
  obtain ⟨its, a, b⟩ := x; exact ⟨its, isList_keeps a k, b⟩

theorem join_empty (ls : List (List Nat)) : Txt.join (Str.ofString "") (ls.map txt) = txt ls.flatten := by
  have e0 : Str.ofString "" = ⟨#[]⟩ := by decide +kernel
  rw [eq_of_beq (join_plain_closes _ _), e0, ← PySem.StrLaws.glued_eq_join]
  refine txt_eq ?_
  rw [glued_list]
  simp [txt, Function.comp_def]
theorem call_join {w : World} {A : Around} {E : Value → Shared → Prop} {s : Shared} {D : Addr} {items : Array Value} {ls : List (List Nat)} {t : Tok} {Q : Value → Shared → Prop} (hl : s.heap.IsList D items) (hi : StrsAre items.toList (ls.map txt))
    (hok : ls.flatten.length ≤ 16777216) (h : ∀ t' k, Q (.str (txt ls.flatten) t') { s with toks := k }) : wpAny (model pw w) A (call (.builtin "str.join") [.str (Str.ofString "") t, .ref D]) Q E s := by
  refine join_list hl hi ?_ fun t' k => ?_
  · have e0 : (Str.ofString "").length = 0 := by decide +kernel
    rw [e0, List.map_map, Nat.mul_zero, Nat.add_zero]
    have : (ls.map ((fun x : Str => x.length) ∘ txt)) = ls.map List.length := by
      apply List.map_congr_left
      intro x _
      exact txt_length x
    rw [this]
    simpa [List.length_flatten] using hok
  · rw [join_empty]; exact h t' k

/-- xs[:n], xs a list -/
theorem take_list {w : World} {A : Around} {E : Value → Shared → Prop} {s : Shared} {env : Env} {value up : Expr} {p pos : Pos} {l : Addr} {vs : List Value} {n : Nat} {Q : Value → Shared → Prop} (hl : s.heap.IsList l vs.toArray) (hsz : vs.length ≤ 1000)
    (h1 : ∀ Q', Q' (.ref l) s → wpAny (model pw w) A (eval value env) Q' E s)
    (h2 : ∀ Q', (∀ t tk, Q' (.int (n : Nat) t) { s with toks := tk }) → wpAny (model pw w) A (eval up env) Q' E s)
    (h : ∀ D h' tk, h'.IsList D (vs.take n).toArray → Keeps s.heap h' → s.heap.get? D = none → Q (.ref D) (Sh s h' tk))
    (ht : ∀ o r, letTemporaryGo value o r = pure () := by intro _ _; rfl) :
    wpAny (model pw w) A (eval (.Subscript value (.Slice none (some up) none p) pos) env) Q E s := by
  refine wpAny_Subscript_list_slice (h1 _ (wpAny_evalPart_none (wpAny_evalPart_some (h2 _ fun t tk => ?_)))) ht
  refine ⟨l, vs.toArray, none, some (n : Int), rfl, hl, by rw [sizeLine_eq]; simp; omega, .none, .int _ _, ?_⟩
  rw [slicePick_upto']
  have hk : Keeps s.heap ((s.heap.push { cls := .type "slice", data := .fields #[Value.none, Value.int (n : Nat) t, .none] }).push { cls := .type "list", data := .seq (vs.toArray.toList.take n).toArray }) := fun b o e => Heap.get?_push_of_some _ (Heap.get?_push_of_some _ e)
  refine h _ _ tk ⟨{ cls := .type "list", data := .seq (vs.toArray.toList.take n).toArray }, ?_, rfl, 0, rfl⟩ hk ?_
  · have e1 := Heap.get?_push_size (s.heap.push { cls := .type "slice", data := .fields #[Value.none, Value.int (n : Nat) t, .none] }) (o := { cls := .type "list", data := .seq (vs.toArray.toList.take n).toArray }) rfl
    rw [Heap.size_push] at e1
    exact e1
  · cases e : s.heap.get? (s.heap.objs.size + 1) with
    | none => rfl
    | some o => exact absurd (Heap.lt_size e) (by show ¬ s.heap.objs.size + 1 < s.heap.objs.size; omega)

/-- [elt for x in src], src a list made for it -/
theorem comp_list {w : World} {A : Around} {E : Value → Shared → Prop} {s : Shared} {env : Env} {scope : Scope} {cl : List (Str × Addr)} {x : Str} {px pos : Pos} {iter elt : Expr} {src : List Value} {Q : Value → Shared → Prop} (F : Value → Value → Prop) (hh : A.handled = none)
    (hclos : closureFor scope env = pure cl) (hcell : ∀ z ∈ scope.names, z.2 ≠ .cell) (hkind : scope.kind = .function)
    (hnames : ∀ z ∈ scope.names, z.2 = .local → scope.names.lookup z.1 = some .local) (hx : scope.names.lookup x = some .local) (hsz : src.length ≤ 1000)
    (hiter : ∀ Q', (∀ l h' tk, h'.IsList l src.toArray → Keeps s.heap h' → s.heap.get? l = none → Q' (.ref l) (Sh s h' tk)) → wpAny (model pw w) A (eval iter env) Q' E s)
    (helt : ∀ C v s₃ m₃ E', v ∈ src → s₃.heap.Ns C m₃ → m₃ x = some v → Keeps s.heap s₃.heap →
      wpAny (model pw w) A (eval elt (compEnvC scope cl C env)) (fun y s₄ => F v y ∧ ∃ tk, s₄ = { s₃ with toks := tk }) E' s₃)
    (hQ : ∀ D h' tk (ys : List Value), h'.IsList D ys.toArray → s.heap.get? D = none → Paired F src ys → Keeps s.heap h' → Q (.ref D) (Sh s h' tk))
    (hs : ∀ x, foldedSetIterable iter env x = pure x := by intro _; rfl) :
    wpAny (model pw w) A (eval (.ListComp elt [⟨.Name x px, iter, [], 0⟩] scope pos) env) Q E s := by
  refine wpAny_ListComp_free (fun _ => true) F hclos hcell hkind hnames hx (hiter _ fun l h₁ tk₁ hl hk₁ hl0 => ?_) hs
  refine wpAny_pyIter_list hl ?_
  dsimp only
  generalize hG : h₁.push { cls := .type "list_iterator", data := .fields #[.ref l, .int 0 0] } = G
  have k2 : Keeps h₁ G := fun b o e => hG ▸ Heap.get?_push_of_some _ e
  have hll : l < h₁.objs.size := by obtain ⟨o, e, _⟩ := hl; exact Heap.lt_size e
  have hGs : G.objs.size = h₁.objs.size + 1 := by rw [← hG, Heap.size_push]
  have offI : ∀ b o, s.heap.get? b = some o → b ∉ [h₁.objs.size] := fun b o e hb => by
    have := Heap.lt_size (hk₁ b o e)
    rw [List.mem_singleton.mp hb] at this
    exact Nat.lt_irrefl _ this
  refine ⟨h₁.objs.size, _, _, src.toArray.size, _, _, rfl, Walks.list hh h₁.objs.size l (Nat.ne_of_lt hll) src.toArray, (by rw [sizeLine_eq]; simp; omega), ⟨⟨_, by rw [← hG]; exact Heap.get?_push_size _ rfl, rfl, rfl⟩, isList_keeps hl k2⟩, ?_, ⟨?_, ?_⟩, ?_⟩
  · intro b hb
    show b < G.objs.size
    rw [hGs]
    rcases List.mem_cons.mp hb with rfl | hb
    · exact Nat.lt_succ_self _
    · rw [List.mem_singleton.mp hb]; exact Nat.lt_succ_of_lt hll
  · intro C i v s₃ m₃ E' hC hP hn hm hk htk
    exact wpAny_pure ⟨rfl, s₃.heap, s₃.toks, rfl, fun _ _ e => e⟩
  · intro C i v s₃ m₃ E' hC hP hpv hn hm hk htk
    have hv : v ∈ src := by
      have hP : src.toArray[i]? = some v := hP
      rw [List.getElem?_toArray] at hP
      exact List.mem_of_getElem? hP
    refine wpAny_mono (helt C v s₃ m₃ E' hv hn hm fun b o e => hk b o (offI b o e) (k2 b o (hk₁ b o e))) (fun y s₄ hp => ?_) fun _ _ x => x
    obtain ⟨hF, tk, rfl⟩ := hp
    exact ⟨hF, s₃.heap, tk, rfl, fun _ _ e => e⟩
  · intro D h' tk' ys vs hD hl' hpl hlen hP hF hk
    have hvs : vs = src := by
      apply List.ext_getElem?
      intro j
      by_cases hj : j < vs.length
      · have e := hP j vs[j] (by simp [hj])
        have e : src.toArray[j]? = some vs[j] := e
        rw [List.getElem?_toArray] at e
        rw [e]; simp [hj]
      · rw [List.getElem?_eq_none (by omega), List.getElem?_eq_none (by simp at hlen; omega)]
    rw [hvs, List.filter_eq_self.mpr (fun _ _ => rfl)] at hF
    refine hQ D h' tk' ys.toList (by simpa using hl') ?_ hF fun b o e => hk b o (offI b o e) (k2 b o (hk₁ b o e))
    cases e : s.heap.get? D with
    | none => rfl
    | some o => have e' : G.get? D = none := hD; rw [k2 D o (hk₁ D o e)] at e'; cases e'
end Mine
end

section
open PySem PyProof.Rows PySem.Calls
set_option maxRecDepth 100000
namespace Mine
/-! plain facts of the deeds -/
abbrev Alpha (t : List Nat) : Prop := ∀ c ∈ t, c ∈ alphabet
theorem fold_alpha {c : Nat} (h : c ∈ alphabet) : Alpha (foldSign c) := by
  simp only [alphabet, List.mem_cons, List.not_mem_nil, or_false] at h
  rcases h with rfl | rfl | rfl | rfl | rfl | rfl | rfl | rfl | rfl | rfl | rfl | rfl | rfl <;> decide
theorem lines_mem : ∀ (b : Bool) (t : List Nat) (c : Nat), c ∈ lines b t → c ∈ t ∨ c = 13 ∨ c = 10
  | _, [], c, h => by simp [lines] at h
  | b, d :: r, c, h => by
    unfold lines at h
    split at h
    · simp only [List.mem_cons] at h
      rcases h with h | h | h
      · exact .inr (.inl h)
      · exact .inr (.inr h)
      · rcases lines_mem _ _ _ h with h | h
        · exact .inl (List.mem_cons_of_mem _ h)
        · exact .inr h
    · split at h
      · split at h
        · rcases lines_mem _ _ _ h with h | h
          · exact .inl (List.mem_cons_of_mem _ h)
          · exact .inr h
        · simp only [List.mem_cons] at h
          rcases h with h | h | h
          · exact .inr (.inl h)
          · exact .inr (.inr h)
          · rcases lines_mem _ _ _ h with h | h
            · exact .inl (List.mem_cons_of_mem _ h)
            · exact .inr h
      · simp only [List.mem_cons] at h
        rcases h with h | h
        · exact .inl (by simp [h])
        · rcases lines_mem _ _ _ h with h | h
          · exact .inl (List.mem_cons_of_mem _ h)
          · exact .inr h
theorem dots_mem : ∀ (b : Bool) (t : List Nat) (c : Nat), c ∈ dots b t → c ∈ t ∨ c = 46
  | _, [], c, h => by simp [dots] at h
  | b, d :: r, c, h => by
    unfold dots at h
    split at h
    · simp only [List.mem_cons] at h
      rcases h with h | h | h
      · exact .inr h
      · exact .inr h
      · rcases dots_mem _ _ _ h with h | h
        · exact .inl (List.mem_cons_of_mem _ h)
        · exact .inr h
    · simp only [List.mem_cons] at h
      rcases h with h | h
      · exact .inl (by simp [h])
      · rcases dots_mem _ _ _ h with h | h
        · exact .inl (List.mem_cons_of_mem _ h)
        · exact .inr h
theorem behindDot_sub : ∀ t : List Nat, (behindDot t).Sublist t
  | [] => List.Sublist.refl _
  | c :: r => by
    unfold behindDot
    split
    · exact (behindDot_sub r).cons c
    · split
      · exact (List.Sublist.refl r).cons c
      · exact List.Sublist.refl _
theorem stripped_sub (t : List Nat) : (stripped t).Sublist t := (behindDot_sub _).trans (List.takeWhile_sublist _)
theorem deed_alpha {t : List Nat} (d : Nat) (h : Alpha t) : Alpha (deedOn t d) := by
  intro c hc
  unfold deedOn at hc
  split at hc
  · obtain ⟨x, hx, hc⟩ := List.mem_flatMap.mp hc
    exact fold_alpha (h x hx) c hc
  · split at hc
    · rcases dots_mem _ _ _ hc with hc | rfl
      · rcases lines_mem _ _ _ hc with hc | rfl | rfl
        · exact h c hc
        · decide
        · decide
      · decide
    · exact h c ((stripped_sub t).subset hc)
theorem fold_len (c : Nat) : (foldSign c).length ≤ 3 := by
  unfold foldSign
  split <;> (try split) <;> (try split) <;> (try split) <;> simp
theorem prepare_len : ∀ t : List Nat, (prepare t).length ≤ 3 * t.length
  | [] => by simp [prepare]
  | c :: r => by
    have := prepare_len r
    have := fold_len c
    unfold prepare at *
    simp only [List.flatMap_cons, List.length_append, List.length_cons]
    omega
theorem deed_len (t : List Nat) (d : Nat) : (deedOn t d).length ≤ 4 * t.length := by
  unfold deedOn
  split
  · have := prepare_len t; omega
  · split
    · have h1 := dots_len true (lines false t)
      have h2 := lines_len false t
      unfold quoted
      omega
    · have := (stripped_sub t).length_le; omega
theorem fold_deed_alpha : ∀ (run t : List Nat), Alpha t → Alpha (run.foldl deedOn t)
  | [], _, h => h
  | d :: r, _, h => fold_deed_alpha r _ (deed_alpha d h)
theorem fold_deed_len : ∀ (run t : List Nat), (run.foldl deedOn t).length ≤ 4 ^ run.length * t.length
  | [], t => by simp
  | d :: r, t => by
    have h1 := fold_deed_len r (deedOn t d)
    have h2 := deed_len t d
    simp only [List.foldl_cons, List.length_cons]
    calc (List.foldl deedOn (deedOn t d) r).length ≤ 4 ^ r.length * (deedOn t d).length := h1
      _ ≤ 4 ^ r.length * (4 * t.length) := Nat.mul_le_mul_left _ h2
      _ = 4 ^ (r.length + 1) * t.length := by rw [Nat.pow_succ, Nat.mul_assoc]
theorem prepare_filter : ∀ t : List Nat, (((t.filter (· != 8203)).map foldSign).flatten) = prepare t
  | [] => rfl
  | c :: r => by
    have ih := prepare_filter r
    unfold prepare at *
    rw [List.filter_cons, List.flatMap_cons]
    by_cases h : c = 8203
    · subst h
      simpa [foldSign] using ih
    · simp [h, ih]
theorem any_two (l : List Nat) : (natInts l).any (· == 2) = decide (2 ∈ l) := by
  induction l with
  | nil => rfl
  | cons d r ih =>
    simp only [natInts, List.map_cons, List.any_cons] at *
    rw [ih]
    by_cases h : d = 2
    · subst h; simp
    · have h1 : ((d : Int) == 2) = false := by rw [beq_eq_false_iff_ne]; omega
      rw [h1]
      simp [Ne.symm h]
end Mine
end

section
open PySem PyProof.Rows PySem.Calls
set_option maxRecDepth 100000
namespace Mine
theorem paired_strs {q : Nat → Bool} {f : Nat → List Nat} {F : Value → Value → Prop} (hF : ∀ c u y, q c = true → F (.str ⟨#[c]⟩ u) y → ∃ t, y = .str (txt (f c)) t) {p : Value → Bool} (hp : ∀ c u, p (.str ⟨#[c]⟩ u) = q c) :
    ∀ {vs ys : List Value} {t : List Nat}, vs.length = t.length → (∀ (j : Nat) v, vs[j]? = some v → ∃ c u, t[j]? = some c ∧ v = .str ⟨#[c]⟩ u) → Paired F (vs.filter p) ys → StrsAre ys ((t.filter q).map fun c => txt (f c))
  | [], ys, t, hl, hv, h => by
    have ht : t = [] := List.length_eq_zero_iff.mp (by simpa using hl.symm)
    subst ht
    cases h
    exact .nil
  | v :: vs, ys, [], hl, _, _ => by simp at hl
  | v :: vs, ys, c :: t, hl, hv, h => by
    obtain ⟨c', u, hc, rfl⟩ := hv 0 v rfl
    have hc : c = c' := by simpa using hc
    subst hc
    have hl' : vs.length = t.length := by simpa using hl
    have hv' : ∀ (j : Nat) v, vs[j]? = some v → ∃ c u, t[j]? = some c ∧ v = .str ⟨#[c]⟩ u := fun j v e => by simpa using hv (j + 1) v (by simpa using e)
    rw [List.filter_cons, hp] at h
    rw [List.filter_cons]
    cases hq : q c with
    | true =>
      rw [hq, if_pos rfl] at h
      rw [if_pos rfl]
      obtain ⟨y, ys', rfl⟩ : ∃ y ys', ys = y :: ys' := by cases h; exact ⟨_, _, rfl⟩
      obtain ⟨h1, h2⟩ : F (.str ⟨#[c]⟩ u) y ∧ Paired F (vs.filter p) ys' := by cases h; exact ⟨by assumption, by assumption⟩
      obtain ⟨tt, rfl⟩ := hF c u y hq h1
      exact .cons _ tt (paired_strs hF hp hl' hv' h2)
    | false =>
      rw [hq, if_neg (by simp)] at h
      rw [if_neg (by simp)]
      exact paired_strs hF hp hl' hv' h

/-- [elt for x in text if test], text a str -/
theorem comp_text {w : World} {A : Around} {E : Value → Shared → Prop} {s : Shared} {env : Env} {scope : Scope} {cl : List (Str × Addr)} {x : Str} {px pos : Pos} {iter elt test : Expr} {t : List Nat} {tt : Tok} {q : Nat → Bool} {f : Nat → List Nat} {Q : Value → Shared → Prop}
    (hh : A.handled = none)
    (hclos : closureFor scope env = pure cl) (hcell : ∀ z ∈ scope.names, z.2 ≠ .cell) (hkind : scope.kind = .function)
    (hnames : ∀ z ∈ scope.names, z.2 = .local → scope.names.lookup z.1 = some .local) (hx : scope.names.lookup x = some .local) (hsz : t.length ≤ sizeLine)
    (hiter : ∀ Q', Q' (.str (txt t) tt) s → wpAny (model pw w) A (eval iter env) Q' E s)
    (htest : ∀ C c u s₃ m₃ E', c ∈ t → s₃.heap.Ns C m₃ → m₃ x = some (.str (txt [c]) u) → Keeps s.heap s₃.heap →
      wpAny (model pw w) A (isTrue test (compEnvC scope cl C env) (eval test (compEnvC scope cl C env))) (fun ok s₄ => ok = q c ∧ PySem.Keeps s₃ s₄) E' s₃)
    (helt : ∀ C c u s₃ m₃ E', c ∈ t → q c = true → s₃.heap.Ns C m₃ → m₃ x = some (.str (txt [c]) u) → Keeps s.heap s₃.heap →
      wpAny (model pw w) A (eval elt (compEnvC scope cl C env)) (fun y s₄ => (∃ tok, y = .str (txt (f c)) tok) ∧ PySem.Keeps s₃ s₄) E' s₃)
    (hQ : ∀ D h' tk (ys : List Value), h'.IsList D ys.toArray → StrsAre ys ((t.filter q).map fun c => txt (f c)) → Keeps s.heap h' → Q (.ref D) (Sh s h' tk))
    (hs : ∀ x, foldedSetIterable iter env x = pure x := by intro _; rfl) :
    wpAny (model pw w) A (eval (.ListComp elt [⟨.Name x px, iter, [test], 0⟩] scope pos) env) Q E s := by
  have ht1 : ∀ c : Nat, txt [c] = (⟨#[c]⟩ : Str) := fun c => rfl
  have hts : (txt t).cps.size = t.length := by simp [txt]
  refine wpAny_ListComp_free (fun v => match v with | .str z _ => (match z.cps.toList with | c :: _ => q c | [] => false) | _ => false) (fun v y => ∀ c u, v = .str ⟨#[c]⟩ u → ∃ tok, y = .str (txt (f c)) tok) hclos hcell hkind hnames hx
    (hiter _ ?_) hs
  refine wpAny_pyIter_str fun o St hW hSt => ?_
  have k2 : Keeps s.heap (s.heap.push o) := fun b o' e => Heap.get?_push_of_some _ e
  have offI : ∀ b o, s.heap.get? b = some o → b ∉ [s.heap.objs.size] := fun b o e hb => by
    have := Heap.lt_size e
    rw [List.mem_singleton.mp hb] at this
    exact Nat.lt_irrefl _ this
  have hsign : ∀ i v, SignAt (txt t) i v → ∃ c u, t[i]? = some c ∧ v = .str ⟨#[c]⟩ u := fun i v ⟨c, u, h1, h2⟩ => ⟨c, u, by simpa [txt] using h1, h2⟩
  refine ⟨s.heap.objs.size, _, _, (txt t).cps.size, _, _, rfl, hW A hh, (by rw [hts]; exact hsz), hSt, ?_, ⟨?_, ?_⟩, ?_⟩
  · intro b hb
    rw [List.mem_singleton.mp hb]
    show s.heap.objs.size < (s.heap.push o).objs.size
    rw [Heap.size_push]
    exact Nat.lt_succ_self _
  · intro C i v s₃ m₃ E' hC hP hn hm hk htk
    obtain ⟨c, u, hc, rfl⟩ := hsign i v hP
    refine wpAny_tests_one (htest C c u s₃ m₃ E' (List.mem_of_getElem? hc) hn hm fun b o e => hk b o (offI b o e) (k2 b o e))
  · intro C i v s₃ m₃ E' hC hP hpv hn hm hk htk
    obtain ⟨c, u, hc, rfl⟩ := hsign i v hP
    refine wpAny_mono (helt C c u s₃ m₃ E' (List.mem_of_getElem? hc) hpv hn hm fun b o e => hk b o (offI b o e) (k2 b o e)) (fun y s₄ hp => ⟨fun c' u' e => ?_, hp.2⟩) fun _ _ x => x
    have e : c = c' := by simp at e; exact e.1
    subst e
    exact hp.1
  · intro D h' tk' ys vs hD hl' hpl hlen hP hF hk
    refine hQ D h' tk' ys.toList (by simpa using hl') ?_ fun b o e => hk b o (offI b o e) (k2 b o e)
    exact paired_strs (q := q) (f := f) (fun c u y hq h => h c u rfl) (fun c u => rfl) (by rw [hlen, hts]) (fun j v e => hsign j v (hP j v e)) hF
end Mine
end

section
open PySem PyProof.Rows PySem.Calls
set_option maxRecDepth 100000
namespace Mine
abbrev lawEnv (L a : Addr) (cd : Value) : Env := envOfC (defAt 16).1 (defAt 16).2.2.2 L a cd
abbrev lawCells (L : Addr) : List (Str × Addr) := cellsFrom (L + 1) (defAt 16).2.2.2.names []
def DefIn (mg : Str → Option Value) (h : Heap) (x : Str) (i : Nat) : Prop := ∃ a, mg x = some (.ref a) ∧ FnAt h i a
theorem DefIn.keeps {mg : Str → Option Value} {h h' : Heap} {x : Str} {i : Nat} (d : DefIn mg h x i) (k : Keeps h h') : DefIn mg h' x i := let ⟨a, e, f⟩ := d; ⟨a, e, f.keeps k⟩
/-- what the law needs of the heap and of the names -/
structure LawAt (w : World) (mg mb : Str → Option Value) (h : Heap) : Prop where
  B : Base mg mb h
  Q : QuoteAt mg h
  T : TablesAt w mg h
  strip : DefIn mg h (Str.ofString "_strip_exception_details") 2
  quote : DefIn mg h (Str.ofString "quotedata") 7
  b1 : DefIn mg h (Str.ofString "in_table_b1") 10
  b3 : DefIn mg h (Str.ofString "map_table_b3") 12
  folded : DefIn mg h (Str.ofString "_law_folded") 14
  told : DefIn mg h (Str.ofString "_law_told") 15
theorem LawAt.keeps {w : World} {mg mb : Str → Option Value} {h h' : Heap} (x : LawAt w mg mb h) (k : Keeps h h') : LawAt w mg mb h' :=
  ⟨x.B.keeps k, x.Q.keeps k, x.T.keeps k, x.strip.keeps k, x.quote.keeps k, x.b1.keeps k, x.b3.keeps k, x.folded.keeps k, x.told.keeps k⟩

section
variable {w : World} {A : Around} {E : Value → Shared → Prop} {s : Shared} {env : Env} {mg mb : Str → Option Value}
theorem nmE_global {x : Str} {pos : Pos} {v : Value} {Q : Value → Shared → Prop} (B : Base mg mb s.heap) (hv : mg x = some v) (hk : env.scope.kind = .function) (hg : env.globals = mainGlobals) (hx : env.kindOf x = some .globalImplicit) (h : Q v s)
    (hd : (x == ("__debug__" : Str)) = false := by decide) : wpAny (model pw w) A (eval (.Name x pos) env) Q E s := Name_function_global hk hx (loadGlobal_global (hg ▸ B.g) hv h) hd
theorem run_at {xs xk : Str} {p1 p2 p3 : Pos} {k d : Nat} {t : Tok} {rx : Addr} {run : List Nat} {Q : Value → Shared → Prop} (hs : RunAt s.heap rx run) (hk : run[k]? = some d) (hl : run.length ≤ 1000)
    (h1 : ∀ Q', Q' (.ref rx) s → wpAny (model pw w) A (eval (.Name xs p1) env) Q' E s) (h2 : ∀ Q', Q' (Value.int (k : Nat) t) s → wpAny (model pw w) A (eval (.Name xk p2) env) Q' E s)
    (h : ∀ u, Q (.int (d : Nat) u) s) : wpAny (model pw w) A (eval (.Subscript (.Name xs p1) (.Name xk p2) p3) env) Q E s := by
  obtain ⟨its, i1, i2, i3⟩ := hs
  obtain ⟨u, hu⟩ := i3 k _ hk
  have hlt : k < run.length := by
    by_cases h : k < run.length
    · exact h
    · rw [List.getElem?_eq_none (by omega)] at hk; cases hk
  exact Subscript_Name (h1 _ (h2 _ ⟨"list", _, slot_list_getitem.lookup, i1.typeIs, wpAny_getItem_list i1 (by omega) (by omega) (by simpa using hu) (h u)⟩))
end

def ifBody (l : List Stmt) (i : Nat) : List Stmt := match l[i]? with | some (.If _ b _ _) => b | _ => []
set_option maxHeartbeats 4000000 in
/-- the deed that prepares -/
theorem prepare_stmt {w : World} {A : Around} {E : Value → Shared → Prop} {s : Shared} {h₀ h : Heap} {tk : Nat} {a L : Addr} {cd : Value} {t : List Nat} {mg mb m cm : Str → Option Value} (F₀ : LawAt w mg mb h₀)
    (hh : A.handled = none) (hroom : A.depth < recursionLimit) (ha : Alpha t) (hlen : t.length ≤ 4000000)
    (X : LS h₀ h L (lawCells L) h m cm) (ht : ∃ u, m (Str.ofString "text") = some (.str (txt t) u)) :
    wpAny (model pw w) A (execs (ifBody (forBody 16 4) 0) (lawEnv L a cd)) (fun f s₂ => f = .next ∧ ∃ h' tk' u, s₂ = Sh s h' tk' ∧ LS h₀ h L (lawCells L) h' (fun z => if z = Str.ofString "text" then some (.str (txt (prepare t)) u) else m z) cm) E (Sh s h tk) := by
  obtain ⟨u, ht⟩ := ht
  show wpAny _ _ (execs (_ :: []) _) _ _ _
  refine wpAny_execs_cons (wpAny_Assign_Name (MethodCall_ (Constant_str (GM.join (callWith_method1 (args_cons ?_))))))
  have F₁ := F₀.keeps X.keep
  obtain ⟨a1, e1, f1⟩ := F₁.b1
  obtain ⟨a3, e3, f3⟩ := F₁.b3
  refine comp_text (s := Sh s h _) (t := t) (tt := u) (q := fun c => c != 8203) (f := foldSign) (cl := []) hh rfl (by decide +kernel) rfl (by decide +kernel) rfl (by rw [sizeLine_eq]; omega) ?_ ?_ ?_ ?_
  · intro Q' hq
    exact lsLd (s := Sh s h _) X ht hq
  · intro C c v s₃ m₃ E' hc hn hm hk
    have B₃ := F₁.B.keeps hk
    refine wpAny_isTrue_Not (isTrue_plain (Call_ (nmE_global (env := compEnvC _ _ _ _) B₃ e1 rfl rfl rfl (callWith_fn f1 (args_cons (ldE (env := compEnvC _ _ _ _) rfl rfl hn hm (args_nil ⟨hk, ?_⟩)))))))
    refine call_b1 (s := s₃) B₃ (F₁.T.keeps hk) (f1.keeps hk) hroom (ha c hc) fun h' tk' hk' => wpAny_truthy_bool ⟨?_, h', tk', rfl, hk'⟩
    by_cases h : c = 8203 <;> simp [h]
  · intro C c v s₃ m₃ E' hc hq hn hm hk
    have B₃ := F₁.B.keeps hk
    refine Call_ (nmE_global (env := compEnvC _ _ _ _) B₃ e3 rfl rfl rfl (callWith_fn f3 (args_cons (ldE (env := compEnvC _ _ _ _) rfl rfl hn hm (args_nil ⟨hk, ?_⟩)))))
    exact call_b3 (s := s₃) B₃ (F₁.T.keeps hk) (f3.keeps hk) hroom (ha c hc) (by simpa using hq) fun h' tk' tok hk' => ⟨⟨tok, rfl⟩, h', tk', rfl, hk'⟩
  · intro D h' tk' ys hl hi hk
    refine args_nil ?_
    have hi' : StrsAre ys.toArray.toList (((t.filter (· != 8203)).map foldSign).map txt) := by
      rw [List.map_map]
      exact hi
    refine call_join (s := Sh s h' tk') hl hi' ?_ fun t' k => ?_
    · rw [prepare_filter]
      have := prepare_len t
      omega
    · rw [prepare_filter]
      refine lsSt (s := Sh s h' k) (X.keeps hk) fun h₂ X₂ => wpAny_execs_nil ⟨rfl, h₂, _, t', rfl, X₂⟩
end Mine
end

section
open PySem PyProof.Rows PySem.Calls
set_option maxRecDepth 100000
namespace Mine
theorem ints_takeN {vs : List Value} {run : List Nat} (h : IntsAre vs (natInts run)) (k : Nat) : IntsAre (vs.take k) (natInts (run.take k)) := by
  have := ints_take h k
  rwa [natInts, ← List.map_take] at this

/-- the names of the law within its loop -/
structure Turns (sx rx : Addr) (t : List Nat) (m : Str → Option Value) : Prop where
  signs : m (Str.ofString "signs") = some (.ref sx)
  run : m (Str.ofString "run") = some (.ref rx)
  text : ∃ u, m (Str.ofString "text") = some (.str (txt t) u)

set_option maxHeartbeats 4000000 in
theorem law_turn {w : World} {A : Around} {E : Value → Shared → Prop} {s : Shared} {h₀ h : Heap} {tk : Nat} {a L sx rx : Addr} {cd : Value} {t sg run : List Nat} {i d : Nat} {mg mb m cm : Str → Option Value} (F₀ : LawAt w mg mb h₀)
    (hh : A.handled = none) (hroom : A.depth + 2 < recursionLimit) (hu : A.units + 3 < cLine) (ha : Alpha t) (hlen : t.length ≤ 4000000)
    (X : LS h₀ h L (lawCells L) h m cm) (T : Turns sx rx t m) (hk : ∃ u, m (Str.ofString "k") = some (.int (i : Nat) u))
    (hno : ∀ b ∈ [sx, rx], b ≠ L ∧ ∀ n, (n, b) ∉ lawCells L) (hsg : SignsAt h sx sg) (hrun : RunI h rx run) (hl1 : sg.length ≤ 1000) (hl2 : run.length ≤ 1000) (hi : run[i]? = some d) (hd : d = 0 ∨ d = 1 ∨ d = 2)
    (hok : 2 ∈ run.take (i + 1) → deedOn t d = told sg (run.take (i + 1))) :
    wpAny (model pw w) A (execs (forBody 16 4) (lawEnv L a cd)) (fun f s₂ => f = .next ∧ ∃ h' tk' m', s₂ = Sh s h' tk' ∧ LS h₀ h L (lawCells L) h' m' cm ∧ Turns sx rx (deedOn t d) m') E (Sh s h tk) := by
  obtain ⟨u, ht⟩ := T.text
  obtain ⟨uk, hk⟩ := hk
  have F₁ := F₀.keeps X.keep
  show wpAny _ _ (execs (_ :: _ :: []) _) _ _ _
  refine wpAny_execs_cons (wpAny_mono (Q := fun f s₂ => f = .next ∧ ∃ h' tk' u, s₂ = Sh s h' tk' ∧ LS h₀ h L (lawCells L) h' (fun z => if z = Str.ofString "text" then some (.str (txt (deedOn t d)) u) else m z) cm) ?_ (fun f s₂ hp => ?_) fun _ _ x => x)
  · refine wpAny_If (wpAny_isTrue_Compare1 (run_at hrun.at hi hl2 (fun Q' hq => lsLd X T.run hq) (fun Q' hq => lsLd X hk hq) fun v => wpAny_Constant_int (PyProof.Rows.eq_int (wpAny_truthy_bool ?_))))
    by_cases d0 : d = 0
    · rw [if_pos (by simp [d0])]
      refine wpAny_mono (prepare_stmt (s := s) (t := t) F₀ hh (by omega) ha hlen X ⟨u, ht⟩) (fun f s₂ hp => ?_) fun _ _ x => x
      rw [show deedOn t d = prepare t by simp [deedOn, d0]]
      exact hp
    rw [if_neg (by simp [d0])]
    refine wpAny_execs_cons (wpAny_If (wpAny_isTrue_Compare1 (run_at hrun.at hi hl2 (fun Q' hq => lsLd (s := Sh s h _) X T.run hq) (fun Q' hq => lsLd (s := Sh s h _) X hk hq) fun v => wpAny_Constant_int (PyProof.Rows.eq_int (wpAny_truthy_bool ?_)))))
    by_cases d1 : d = 1
    · rw [if_pos (by simp [d1])]
      obtain ⟨a1, e1, f1⟩ := F₁.quote
      refine wpAny_execs_cons (wpAny_Assign_Name (Call_ (nmC_global (s := Sh s h _) F₁.B e1 (callWith_fn f1 (args_cons (lsLd (s := Sh s h _) X ht (args_nil ⟨fun _ _ e => e, ?_⟩)))))))
      refine call_quote (s := Sh s h _) F₁.B F₁.Q f1 (by omega) (by rw [sizeLine_eq]; omega) fun h' tk' tok hk' => ?_
      refine lsSt (s := Sh s h' tk') (X.keeps hk') fun h₂ X₂ => wpAny_execs_nil (wpAny_execs_nil ⟨rfl, h₂, _, tok, rfl, ?_⟩)
      rw [show deedOn t d = quoted t by simp [deedOn, d1]]
      exact X₂
    · rw [if_neg (by simp; omega)]
      obtain ⟨a1, e1, f1⟩ := F₁.strip
      refine wpAny_execs_cons (wpAny_Assign_Name (Call_ (nmC_global (s := Sh s h _) F₁.B e1 (callWith_fn f1 (args_cons (lsLd (s := Sh s h _) X ht (args_nil ⟨fun _ _ e => e, ?_⟩)))))))
      refine call_strip (s := Sh s h _) F₁.B f1 (by omega) hh (by rw [sizeLine_eq]; omega) fun h' tk' tok hk' => ?_
      refine lsSt (s := Sh s h' tk') (X.keeps hk') fun h₂ X₂ => wpAny_execs_nil (wpAny_execs_nil ⟨rfl, h₂, _, tok, rfl, ?_⟩)
      rw [show deedOn t d = stripped t by simp [deedOn, d0, d1]]
      exact X₂
  obtain ⟨rfl, h₁, tk₁, u₁, rfl, X₁⟩ := hp
  dsimp only
  have T₁ : Turns sx rx (deedOn t d) (fun z => if z = Str.ofString "text" then some (.str (txt (deedOn t d)) u₁) else m z) := ⟨upd_ne T.signs, upd_ne T.run, u₁, upd_eq⟩
  have hs₁ : SignsAt h₁ sx sg := by
    obtain ⟨its, i1, i2, i3⟩ := hsg
    exact ⟨its, i1.at fun o e => X₁.keepc _ o (hno sx (by simp)).1 (hno sx (by simp)).2 e, i2, i3⟩
  obtain ⟨vs, r1, r2⟩ : RunI h₁ rx run := by
    obtain ⟨vs, i1, i2⟩ := hrun
    exact ⟨vs, i1.at fun o e => X₁.keepc _ o (hno rx (by simp)).1 (hno rx (by simp)).2 e, i2⟩
  have hvl : vs.length ≤ 1000 := by rw [ints_len r2]; simpa [natInts] using hl2
  have hk₁ : (fun z => if z = Str.ofString "text" then some (.str (txt (deedOn t d)) u₁) else m z) (Str.ofString "k") = some (.int (i : Nat) uk) := upd_ne hk
  have up : ∀ (tk : Nat) (h₂ : Heap) (pk pc pos : Pos) (kk : Nat), Keeps h₁ h₂ → ∀ Q' : Value → Shared → Prop, (∀ t tk', Q' (.int ((i + 1 : Nat) : Int) t) (Sh s h₂ tk')) →
      wpAny (model pw w) A (eval (.BinOp (.Name (Str.ofString "k") pk) .Add (.Constant (.int 1) kk pc) pos) (lawEnv L a cd)) Q' E (Sh s h₂ tk) := by
    intro tk h₂ pk pc pos kk hk₂ Q' hq
    refine wpAny_BinOp (lsLd (s := Sh s h₂ tk) (X₁.keeps hk₂) hk₁ (wpAny_Constant_int (PyProof.Rows.add_int ?_)))
    exact hq _ _
  refine wpAny_execs_cons (wpAny_If (isTrue_and (wpAny_mono (Q := fun ok s₂ => ok = decide (2 ∈ run.take (i + 1)) ∧ ∃ h' tk', s₂ = Sh s h' tk' ∧ Keeps h₁ h') ?_ (fun ok s₂ hp => ?_) fun _ _ x => x)))
  · refine wpAny_isTrue_Compare1 (wpAny_Constant_int ?_)
    refine take_list (s := Sh s h₁ _) (n := i + 1) r1 hvl (fun Q' hq => lsLd (s := Sh s h₁ _) X₁ T₁.run hq) (fun Q' hq => up _ h₁ _ _ _ _ (fun _ _ e => e) Q' hq) fun D h' tk' hD hk' _ => ?_
    refine in_list_ints hD (ints_takeN r2 (i + 1)) (wpAny_truthy_bool ⟨any_two _, h', tk', rfl, hk'⟩)
  obtain ⟨rfl, h₂, tk₂, rfl, hk₂⟩ := hp
  have X₂ := X₁.keeps hk₂
  have fin : ∀ {f : Flow} {h' : Heap} {tk' : Nat}, f = .next → Keeps h₂ h' → (f = .next ∧ ∃ h'' tk'' m', Sh s h' tk' = Sh s h'' tk'' ∧ LS h₀ h L (lawCells L) h'' m' cm ∧ Turns sx rx (deedOn t d) m') :=
    fun {f h' tk'} hf hk' => ⟨hf, h', tk', _, rfl, X₂.keeps hk', T₁⟩
  by_cases h2 : 2 ∈ run.take (i + 1)
  · rw [decide_eq_true h2, if_pos rfl]
    refine isTrue_and (wpAny_mono (Q := fun ok s₂ => ok = false ∧ ∃ h' tk', s₂ = Sh s h' tk' ∧ Keeps h₂ h') ?_ (fun ok s₂ hp => ?_) fun _ _ x => x)
    · obtain ⟨a1, e1, f1⟩ := (F₀.keeps X₂.keep).told
      obtain ⟨a2, e2, f2⟩ := (F₀.keeps X₂.keep).folded
      have B₂ := (F₀.keeps X₂.keep).B
      refine wpAny_isTrue_Compare1 (lsLd (s := Sh s h₂ tk₂) X₂ upd_eq (Call_ (nmC_global (s := Sh s h₂ tk₂) B₂ e1 (callWith_fn f1 (args_cons (lsLd (s := Sh s h₂ tk₂) X₂ T₁.signs (args_cons ?_)))))))
      refine take_list (s := Sh s h₂ tk₂) (n := i + 1) (isList_keeps r1 hk₂) hvl (fun Q' hq => lsLd (s := Sh s h₂ _) X₂ T₁.run hq) (fun Q' hq => up _ h₂ _ _ _ _ hk₂ Q' hq) fun D h' tk' hD hk' _ => ?_
      refine args_nil ⟨hk', ?_⟩
      refine call_told (s := Sh s h' tk') (B₂.keeps hk') (f1.keeps hk') e2 (f2.keeps hk') (by omega) hh hu ((hs₁.keeps hk₂).keeps hk') (RunI.at ⟨_, hD, ints_takeN r2 (i + 1)⟩) hl1 (by rw [List.length_take]; omega) fun h'' tk'' tok hk'' => ?_
      refine PyProof.Rows.ne_str (wpAny_truthy_bool ⟨?_, h'', tk'', rfl, fun b o e => hk'' b o (hk' b o e)⟩)
      rw [hok h2]
      simp
    · obtain ⟨rfl, h', tk', rfl, hk'⟩ := hp
      rw [if_neg (by simp), if_neg (by simp)]
      exact wpAny_execs_nil (wpAny_execs_nil (fin rfl hk'))
  · rw [decide_eq_false h2, if_neg (by simp), if_neg (by simp)]
    exact wpAny_execs_nil (wpAny_execs_nil (fin rfl fun _ _ e => e))
end Mine
end

section
open PySem PyProof.Rows PySem.Calls
set_option maxRecDepth 100000
namespace Mine
/-! what the law draws, and lists added -/
def kindsL : List Nat := [46, 13, 75, 13255, 8203, 223, 58, 10, 32]
def kindAt (x : Int) : Nat := kindsL.getD (x.fmod 9).toNat 0
def deedAt (x : Int) : Nat := ((x.fdiv 9).fmod 3).toNat
def sgOf (ns : List Int) : List Nat := [75, 13255] ++ (ns.take 8).map kindAt
def runOf (ns : List Int) : List Nat := (ns.take 4).map deedAt ++ [2, 0, 2, 1, 2]

theorem fmod9 (x : Int) : ∃ k : Nat, x.fmod 9 = k ∧ k < 9 := ⟨(x.fmod 9).toNat, by have := Int.fmod_nonneg_of_pos x (b := 9) (by omega); omega, by have := Int.fmod_lt_of_pos x (b := 9) (by omega); have := Int.fmod_nonneg_of_pos x (b := 9) (by omega); omega⟩
theorem fmod3 (x : Int) : ∃ k : Nat, x.fmod 3 = k ∧ k < 3 := ⟨(x.fmod 3).toNat, by have := Int.fmod_nonneg_of_pos x (b := 3) (by omega); omega, by have := Int.fmod_lt_of_pos x (b := 3) (by omega); have := Int.fmod_nonneg_of_pos x (b := 3) (by omega); omega⟩
theorem kindAt_alpha (x : Int) : kindAt x ∈ alphabet := by
  obtain ⟨k, e, hk⟩ := fmod9 x
  unfold kindAt
  rw [e, Int.toNat_natCast]
  have : ∀ k, k < 9 → kindsL.getD k 0 ∈ alphabet := by decide
  exact this k hk
theorem deedAt_lt (x : Int) : deedAt x = 0 ∨ deedAt x = 1 ∨ deedAt x = 2 := by
  obtain ⟨k, e, hk⟩ := fmod3 (x.fdiv 9)
  unfold deedAt
  rw [e, Int.toNat_natCast]
  omega
theorem sgOf_alpha (ns : List Int) : Alpha (sgOf ns) := by
  intro c hc
  rcases List.mem_append.mp hc with h | h
  · have : ∀ c ∈ [75, 13255], c ∈ alphabet := by decide
    exact this c h
  · obtain ⟨x, _, rfl⟩ := List.mem_map.mp h
    exact kindAt_alpha x
theorem sgOf_len (ns : List Int) : (sgOf ns).length ≤ 10 := by
  unfold sgOf
  rw [List.length_append, List.length_map, List.length_take]
  simp
  omega
theorem runOf_len (ns : List Int) : (runOf ns).length ≤ 9 := by
  unfold runOf
  rw [List.length_append, List.length_map, List.length_take]
  simp
  omega
theorem runOf_deed (ns : List Int) : ∀ d ∈ runOf ns, d = 0 ∨ d = 1 ∨ d = 2 := by
  intro d hd
  rcases List.mem_append.mp hd with h | h
  · obtain ⟨x, _, rfl⟩ := List.mem_map.mp h
    exact deedAt_lt x
  · have : ∀ d ∈ [2, 0, 2, 1, 2], d = 0 ∨ d = 1 ∨ d = 2 := by decide
    exact this d h
theorem sgOf_zero (ns : List Int) : (sgOf ns).getD 0 0 = 75 := rfl
/-- the text ahead of turn i -/
def textAt (ns : List Int) (i : Nat) : List Nat := ((runOf ns).take i).foldl deedOn (sgOf ns)
theorem textAt_succ {ns : List Int} {i d : Nat} (h : (runOf ns)[i]? = some d) : textAt ns (i + 1) = deedOn (textAt ns i) d := by
  unfold textAt
  rw [List.take_add_one, h, List.foldl_append]
  rfl
theorem textAt_alpha (ns : List Int) (i : Nat) : Alpha (textAt ns i) := fold_deed_alpha _ _ (sgOf_alpha ns)
theorem textAt_len (ns : List Int) (i : Nat) : (textAt ns i).length ≤ 4000000 := by
  have h1 := fold_deed_len ((runOf ns).take i) (sgOf ns)
  have h2 := sgOf_len ns
  have h3 : ((runOf ns).take i).length ≤ 9 := by rw [List.length_take]; have := runOf_len ns; omega
  have h4 : 4 ^ ((runOf ns).take i).length ≤ 4 ^ 9 := Nat.pow_le_pow_right (by omega) h3
  have h5 : 4 ^ ((runOf ns).take i).length * (sgOf ns).length ≤ 4 ^ 9 * 10 := Nat.mul_le_mul h4 h2
  unfold textAt
  have : (4 : Nat) ^ 9 * 10 = 2621440 := by decide
  omega
theorem textAt_told {ns : List Int} {i d : Nat} (h : (runOf ns)[i]? = some d) (h2 : 2 ∈ (runOf ns).take (i + 1)) : deedOn (textAt ns i) d = told (sgOf ns) ((runOf ns).take (i + 1)) := by
  rw [← textAt_succ h]
  exact law_plain _ _ (sgOf_zero ns) (fun d hd => runOf_deed ns d (List.mem_of_mem_take hd)) h2

theorem add_two {w : World} {A : Around} {E : Value → Shared → Prop} {s : Shared} {l b : Addr} {vs ws : List Value} {Q : Value → Shared → Prop} (hl : s.heap.IsList l vs.toArray) (hb : s.heap.IsList b ws.toArray) (hsz : vs.length + ws.length ≤ sizeLine)
    (h : Q (.ref s.heap.objs.size) { s with heap := s.heap.push { cls := .type "list", data := .seq (vs ++ ws).toArray } }) : wpAny (model pw w) A (binaryOp .Add (.ref l) (.ref b)) Q E s := by
  obtain ⟨⟨c1, d1, x1, s1⟩, o1, e1, n1, y1⟩ := id hl
  obtain ⟨⟨c2, d2, x2, s2⟩, o2, e2, n2, y2⟩ := id hb
  dsimp only at e1 y1 e2 y2
  subst e1 y1 e2 y2
  refine concat_meets ⟨_, o1, rfl⟩ ⟨_, o2, rfl⟩ noFill_list_add seq_list_add PySem.F.slot_list_add PySem.F.entry_list_add (PySem.F.args_list_add_2 _ _) (list_addW l b vs.toArray ws.toArray n1 n2 d1 d2 s1 s2 (by simpa using hsz)) ⟨o1, o2, ?_⟩
  rw [show vs.toArray ++ ws.toArray = (vs ++ ws).toArray by simp]
  exact h

theorem paired_kinds : ∀ {vs ys : List Value} {ns : List Int}, IntsAre vs ns → Paired (fun v y => ∀ n u, v = .int n u → ∃ t, y = .str (txt [kindAt n]) t) vs ys → StrsAre ys ((ns.map kindAt).map fun c => txt [c])
  | _, ys, _, .nil, h => by cases h; exact .nil
  | _, ys, _, .cons n u hi, h => by
    cases h with
    | cons h1 h2 =>
      obtain ⟨t, rfl⟩ := h1 n u rfl
      exact .cons _ t (paired_kinds hi h2)
theorem paired_deeds : ∀ {vs ys : List Value} {ns : List Int}, IntsAre vs ns → Paired (fun v y => ∀ n u, v = .int n u → ∃ t, y = .int (deedAt n : Nat) t) vs ys → IntsAre ys (natInts (ns.map deedAt))
  | _, ys, _, .nil, h => by cases h; exact .nil
  | _, ys, _, .cons n u hi, h => by
    cases h with
    | cons h1 h2 =>
      obtain ⟨t, rfl⟩ := h1 n u rfl
      exact .cons _ t (paired_deeds hi h2)
theorem ints_mem : ∀ {vs : List Value} {ns : List Int}, IntsAre vs ns → ∀ {v : Value}, v ∈ vs → ∃ n u, v = .int n u
  | _, _, .nil, _, h => by simp at h
  | _, _, .cons n u r, v, h => by
    rcases List.mem_cons.mp h with rfl | h
    · exact ⟨n, u, rfl⟩
    · exact ints_mem r h
theorem sg_strs {ls ys : List Value} {ns : List Int} (h1 : StrsAre ls ([75, 13255].map fun c => txt [c])) (h2 : StrsAre ys (((ns.take 8).map kindAt).map fun c => txt [c])) : StrsAre (ls ++ ys) ((sgOf ns).map fun c => txt [c]) := by
  have := strs_append h1 h2
  rwa [← List.map_append] at this
theorem run_ints {ls ys : List Value} {ns : List Int} (h1 : IntsAre ys (natInts ((ns.take 4).map deedAt))) (h2 : IntsAre ls [2, 0, 2, 1, 2]) : IntsAre (ys ++ ls) (natInts (runOf ns)) := by
  have := IntsAre.append h1 h2
  have e : natInts (runOf ns) = natInts ((ns.take 4).map deedAt) ++ [2, 0, 2, 1, 2] := by
    unfold runOf natInts
    rw [List.map_append]
    rfl
  rw [e]
  exact this
theorem SignsAt.at {h h' : Heap} {a : Addr} {sg : List Nat} (x : SignsAt h a sg) (k : ∀ o, h.get? a = some o → h'.get? a = some o) : SignsAt h' a sg := by
  obtain ⟨its, i1, i2, i3⟩ := x
  exact ⟨its, i1.at k, i2, i3⟩
theorem RunI.at' {h h' : Heap} {a : Addr} {run : List Nat} (x : RunI h a run) (k : ∀ o, h.get? a = some o → h'.get? a = some o) : RunI h' a run := by
  obtain ⟨its, i1, i2⟩ := x
  exact ⟨its, i1.at k, i2⟩
theorem flatten_single : ∀ l : List Nat, (l.map fun c => [c]).flatten = l
  | [] => rfl
  | c :: l => by rw [List.map_cons, List.flatten_cons, flatten_single l]; rfl
inductive StrConsts : List Expr → List Str → Prop
  | nil : StrConsts [] []
  | cons {x : Str} {k : Nat} {p : Pos} {es : List Expr} {xs : List Str} : StrConsts es xs → StrConsts (.Constant (.str x) k p :: es) (x :: xs)
inductive IntConsts : List Expr → List Int → Prop
  | nil : IntConsts [] []
  | cons {x : Int} {k : Nat} {p : Pos} {es : List Expr} {xs : List Int} : IntConsts es xs → IntConsts (.Constant (.int x) k p :: es) (x :: xs)
theorem spliced_strs {M : Model} {A : Around} {E : Value → Shared → Prop} {env : Env} {pos : Pos} : ∀ {es : List Expr} {xs : List Str}, StrConsts es xs → ∀ {s : Shared} {Q : List Value → Shared → Prop}, (∀ vs tk, StrsAre vs xs → Q vs { s with toks := tk }) →
    wpAny M A (spliced (backTo pos (starEach es env))) Q E s
  | _, _, .nil, s, _, h => args_nil (h [] s.toks .nil)
  | _, _, .cons c, _, _, h => args_cons (Constant_str (spliced_strs c fun vs tk hv => h _ tk (.cons _ _ hv)))
theorem spliced_ints {M : Model} {A : Around} {E : Value → Shared → Prop} {env : Env} {pos : Pos} : ∀ {es : List Expr} {xs : List Int}, IntConsts es xs → ∀ {s : Shared} {Q : List Value → Shared → Prop}, (∀ vs tk, IntsAre vs xs → Q vs { s with toks := tk }) →
    wpAny M A (spliced (backTo pos (starEach es env))) Q E s
  | _, _, .nil, s, _, h => args_nil (h [] s.toks .nil)
  | _, _, .cons c, _, _, h => args_cons (wpAny_Constant_int (spliced_ints c fun vs tk hv => h _ tk (.cons _ _ hv)))
theorem isList_push {h : Heap} {vs : List Value} : (h.push { cls := .type "list", data := .seq vs.toArray }).IsList h.objs.size vs.toArray := ⟨_, Heap.get?_push_size _ rfl, rfl, 0, rfl⟩
theorem keeps_push (h : Heap) (o : Obj) : Keeps h (h.push o) := fun _ _ e => Heap.get?_push_of_some _ e
end Mine
end

section
open PySem PyProof.Rows PySem.Calls
set_option maxRecDepth 100000
namespace Mine
theorem lawCells_lt {h₀ hc h : Heap} {L : Addr} {m cm : Str → Option Value} (X : LS h₀ hc L (lawCells L) h m cm) {n : Str} {b : Addr} (hm : (n, b) ∈ lawCells L) : b < h.objs.size := by
  have : lawCells L = [(Str.ofString "kinds", L + 1)] := rfl
  rw [this] at hm
  have hm := List.mem_singleton.mp hm
  cases hm
  exact X.cell_lt (n := Str.ofString "kinds") rfl

set_option maxHeartbeats 4000000 in
theorem call_law {w : World} {A : Around} {E : Value → Shared → Prop} {s : Shared} {a sx : Addr} {vs : List Value} {ns : List Int} {Q : Value → Shared → Prop} {mg mb : Str → Option Value} (F₀ : LawAt w mg mb s.heap) (hf : FnAt s.heap 16 a)
    (hroom : A.depth + 3 < recursionLimit) (hh : A.handled = none) (hu : A.units + 6 < cLine) (hl : s.heap.IsList sx vs.toArray) (hi : IntsAre vs ns) (hlen : ns.length ≤ 63)
    (h : ∀ h' tk, Keeps s.heap h' → Q (.bool true) { s with heap := h', toks := tk }) :
    wpAny (model pw w) A (call (.ref a) [.ref sx]) Q E s := by
  obtain ⟨o, pm, cd, doc, h1, h2, h3⟩ := hf
  have hvl : vs.length ≤ 1000 := by rw [ints_len hi]; omega
  refine wpAny_call (call_cells_ret (binds := [(Str.ofString "script", .ref sx)]) (by omega) h1 h2 F₀.B.lim h3 rfl ?_ ?_ rfl rfl rfl)
  · intro x hx
    simp only [List.mem_cons, List.not_mem_nil, or_false] at hx
    subst hx
    exact .inl rfl
  intro h₁ tk F X
  show wpAny _ _ (execs (_ :: _ :: _ :: _ :: _ :: _ :: []) _) _ _ _
  obtain ⟨m₁, cm₁, X, hscript⟩ : ∃ m cm, LS s.heap s.heap s.heap.objs.size (lawCells s.heap.objs.size) h₁ m cm ∧ m (Str.ofString "script") = some (.ref sx) := ⟨_, _, ⟨F.ns, X, F.keep, fun b o _ _ e => F.keep b o e, Nat.le_refl _⟩, rfl⟩
  clear F
  -- the kinds
  have ek : kindsL.map (fun c => txt [c]) = [Str.ofString ".", Str.ofString "\r", Str.ofString "K", Str.ofString "㏇", Str.ofString "\u200b", Str.ofString "ß", Str.ofString ":", Str.ofString "\n", Str.ofString " "] := by decide +kernel
  refine wpAny_execs_cons ?_
  refine wpAny_Assign_Name ?_
  refine List_ ?_
  refine spliced_strs (.cons (.cons (.cons (.cons (.cons (.cons (.cons (.cons (.cons .nil))))))))) fun ks tk₁ hks => ?_
  have hks : StrsAre ks (kindsL.map fun c => txt [c]) := by rw [ek]; exact hks
  have hkl : ks.length = 9 := by rw [strs_len hks]; rfl
  refine wpAny_newList ?_ (by rw [hkl, sizeLine_eq]; decide)
  generalize hp₁ : h₁.push { cls := .type "list", data := .seq ks.toArray } = p₁
  have kp₁ : Keeps h₁ p₁ := hp₁ ▸ keeps_push _ _
  have hkinds : SignsAt p₁ h₁.objs.size kindsL := signs_of_strs (hp₁ ▸ isList_push) (by simpa using hks)
  have off : ∀ {h₂ : Heap}, h₁.objs.size ≤ h₂.objs.size → h₂.objs.size ≠ s.heap.objs.size ∧ ∀ n, (n, h₂.objs.size) ∉ lawCells s.heap.objs.size := fun {h₂} hle =>
    ⟨Nat.ne_of_gt (Nat.lt_of_lt_of_le X.lt hle), fun n hm => Nat.lt_irrefl _ (Nat.lt_of_lt_of_le (lawCells_lt X hm) hle)⟩
  obtain ⟨ko1, ko2⟩ := off (Nat.le_refl h₁.objs.size)
  generalize hkxe : h₁.objs.size = kx at *
  refine lsStC (s := Sh s p₁ tk₁) (X.keeps kp₁).self rfl fun h₂ X₂ => ?_
  obtain ⟨cm₂, X₂, hcm⟩ : ∃ cm, LS s.heap p₁ s.heap.objs.size (lawCells s.heap.objs.size) h₂ m₁ cm ∧ cm (Str.ofString "kinds") = some (.ref kx) := ⟨_, X₂, if_pos rfl⟩
  refine any_tok (s := s) (h := h₂) fun tk => ?_
  have hk₂ : SignsAt h₂ kx kindsL := hkinds.at fun o e => X₂.keepc _ o ko1 ko2 e
  have hkx : kx < h₂.objs.size := by obtain ⟨its, ⟨o, e, _⟩, _⟩ := hk₂; exact Heap.lt_size e
  -- the signs
  have es : ([75, 13255].map fun c => txt [c]) = [Str.ofString "K", Str.ofString "㏇"] := by decide +kernel
  refine wpAny_execs_cons ?_
  refine wpAny_Assign_Name ?_
  refine wpAny_BinOp ?_
  refine List_ ?_
  refine spliced_strs (.cons (.cons .nil)) fun ls tk₂ hls => ?_
  have hls : StrsAre ls ([75, 13255].map fun c => txt [c]) := by rw [es]; exact hls
  have hll : ls.length = 2 := by rw [strs_len hls]; rfl
  refine wpAny_newList ?_ (by rw [hll, sizeLine_eq]; decide)
  generalize hh₃ : h₂.push { cls := .type "list", data := .seq ls.toArray } = h₃
  have kp₃ : Keeps h₂ h₃ := hh₃ ▸ keeps_push _ _
  have hlist : h₃.IsList h₂.objs.size ls.toArray := hh₃ ▸ isList_push
  have X₃ := X₂.keeps kp₃
  have hk₃ := hk₂.keeps kp₃
  refine comp_list (s := Sh s h₃ tk₂) (src := vs.take 8) (cl := [(Str.ofString "kinds", s.heap.objs.size + 1)]) (fun v y => ∀ n u, v = .int n u → ∃ t, y = .str (txt [kindAt n]) t) hh rfl (by decide +kernel) rfl (by decide +kernel) rfl (by rw [List.length_take]; omega) ?_ ?_ ?_
  · intro Q' hq
    exact take_list (s := Sh s h₃ _) (n := 8) (isList_keeps hl X₃.keep) hvl (fun Q' hq => lsLd (s := Sh s h₃ _) X₃ hscript hq) (fun Q' hq => wpAny_Constant_int (hq _ _)) hq
  · intro C v s₃ m₃ E' hv hn hm hk
    obtain ⟨n, u, rfl⟩ := ints_mem hi (List.mem_of_mem_take hv)
    have ck := (X₃.keeps hk).cl.cell (Str.ofString "kinds") (s.heap.objs.size + 1) rfl
    rw [hcm] at ck
    obtain ⟨its, i1, i2, i3⟩ := hk₃.keeps hk
    obtain ⟨j, ej, hj⟩ := fmod9 n
    obtain ⟨t, ht⟩ := i3 j _ (getD_of hj)
    refine Subscript_BinOp (ldCE (env := compEnvC _ _ _ _) rfl rfl rfl ck (wpAny_BinOp (ldE (env := compEnvC _ _ _ _) rfl rfl hn hm (wpAny_Constant_int (PyProof.Rows.mod_int' (by decide) ?_)))))
    refine ⟨"list", _, slot_list_getitem.lookup, i1.typeIs, ?_⟩
    rw [ej]
    refine wpAny_getItem_list i1 (by omega) (by omega) (by simpa using ht) ⟨fun n' u' e => ?_, _, rfl⟩
    cases e
    refine ⟨t, ?_⟩
    unfold kindAt
    rw [ej, Int.toNat_natCast]
    rfl
  intro D h₄ tk₄ ys hD hD0 hF hk₄
  have hys := paired_kinds (ints_take hi 8) hF
  have hyl : ys.length ≤ 8 := by rw [strs_len hys, List.length_map, List.length_map, List.length_take]; omega
  have hsgs : StrsAre (ls ++ ys) ((sgOf ns).map fun c => txt [c]) := sg_strs hls hys
  refine add_two (s := Sh s h₄ tk₄) (isList_keeps hlist hk₄) hD (by rw [hll, sizeLine_eq]; omega) ?_
  generalize hh₅ : h₄.push { cls := .type "list", data := .seq (ls ++ ys).toArray } = h₅
  have kp₅ : Keeps h₄ h₅ := hh₅ ▸ keeps_push _ _
  have k₃₅ : Keeps h₂ h₅ := fun b o e => kp₅ b o (hk₄ b o (kp₃ b o e))
  have le24 : h₂.objs.size ≤ h₄.objs.size := Nat.le_of_lt (by obtain ⟨o, e, _⟩ := isList_keeps hlist hk₄; exact Heap.lt_size e)
  obtain ⟨so1, so2⟩ := off (h₂ := h₄) (by omega)
  have hsl₅ : h₅.IsList h₄.objs.size (ls ++ ys).toArray := hh₅ ▸ isList_push
  have hsg₅ : SignsAt h₅ h₄.objs.size (sgOf ns) := signs_of_strs (hh₅ ▸ isList_push) (by simpa using hsgs)
  refine lsSt (s := Sh s h₅ tk₄) (X₂.keeps k₃₅).self fun h₆ X₆ => ?_
  have hsg₆ : SignsAt h₆ h₄.objs.size (sgOf ns) := hsg₅.at fun o e => X₆.keepc _ o so1 so2 e
  have hsx : h₄.objs.size < h₆.objs.size := by obtain ⟨its, ⟨o, e, _⟩, _⟩ := hsg₆; exact Heap.lt_size e
  generalize hsxe : h₄.objs.size = sxx at *
  have T₆ : ∃ m, LS s.heap h₅ s.heap.objs.size (lawCells s.heap.objs.size) h₆ m cm₂ ∧ m (Str.ofString "script") = some (.ref sx) ∧ m (Str.ofString "signs") = some (.ref sxx) := ⟨_, X₆, upd_ne hscript, upd_eq⟩
  clear X₆
  obtain ⟨m₆, X₆, hscript₆, hsigns₆⟩ := T₆
  -- the run
  refine wpAny_execs_cons ?_
  refine wpAny_Assign_Name ?_
  refine wpAny_BinOp ?_
  refine comp_list (s := Sh s h₆ _) (src := vs.take 4) (cl := []) (fun v y => ∀ n u, v = .int n u → ∃ t, y = .int (deedAt n : Nat) t) hh rfl (by decide +kernel) rfl (by decide +kernel) rfl (by rw [List.length_take]; omega) ?_ ?_ ?_
  · intro Q' hq
    exact take_list (s := Sh s h₆ _) (n := 4) (isList_keeps hl X₆.keep) hvl (fun Q' hq => lsLd (s := Sh s h₆ _) X₆ hscript₆ hq) (fun Q' hq => wpAny_Constant_int (hq _ _)) hq
  · intro C v s₃ m₃ E' hv hn hm hk
    obtain ⟨n, u, rfl⟩ := ints_mem hi (List.mem_of_mem_take hv)
    obtain ⟨j, ej, hj⟩ := fmod3 (n.fdiv 9)
    refine wpAny_BinOp (wpAny_BinOp (ldE (env := compEnvC _ _ _ _) rfl rfl hn hm (wpAny_Constant_int (PyProof.Rows.floordiv_int (by decide) ?_))))
    refine wpAny_Constant_int (PyProof.Rows.mod_int' (by decide) ⟨fun n' u' e => ?_, _, rfl⟩)
    cases e
    refine ⟨_, congrArg (fun z => Value.int z _) (?_ : _ = ((deedAt n : Nat) : Int))⟩
    unfold deedAt
    rw [ej, Int.toNat_natCast]
  intro D h₇ tk₇ ys' hD₇ hD70 hF₇ hk₇
  have hds := paired_deeds (ints_take hi 4) hF₇
  have hdl : ys'.length ≤ 4 := by rw [ints_len hds, natInts, List.length_map, List.length_map, List.length_take]; omega
  refine List_ ?_
  refine spliced_ints (.cons (.cons (.cons (.cons (.cons .nil))))) fun rs tk₈ hrs => ?_
  have hrl : rs.length = 5 := by rw [ints_len hrs]; rfl
  refine wpAny_newList ?_ (by rw [hrl, sizeLine_eq]; decide)
  generalize hh₈ : h₇.push { cls := .type "list", data := .seq rs.toArray } = h₈
  have kp₈ : Keeps h₇ h₈ := hh₈ ▸ keeps_push _ _
  have hrlist : h₈.IsList h₇.objs.size rs.toArray := hh₈ ▸ isList_push
  refine add_two (s := Sh s h₈ tk₈) (isList_keeps hD₇ kp₈) hrlist (by rw [hrl, sizeLine_eq]; omega) ?_
  generalize hh₉ : h₈.push { cls := .type "list", data := .seq (ys' ++ rs).toArray } = h₉
  have kp₉ : Keeps h₈ h₉ := hh₉ ▸ keeps_push _ _
  have k₆₉ : Keeps h₆ h₉ := fun b o e => kp₉ b o (kp₈ b o (hk₇ b o e))
  have hrun₉ : RunI h₉ h₈.objs.size (runOf ns) := ⟨_, hh₉ ▸ isList_push, run_ints hds hrs⟩
  have hsx8 : sxx < h₈.objs.size := by obtain ⟨its, ⟨o, e, _⟩, _⟩ := hsg₆; exact Heap.lt_size (kp₈ _ _ (hk₇ _ _ e))
  obtain ⟨ro1, ro2⟩ := off (h₂ := h₈) (by omega)
  generalize hrxe : h₈.objs.size = rxx at *
  refine lsSt (s := Sh s h₉ tk₈) (X₆.keeps k₆₉).self fun h₁₀ X₁₀ => ?_
  have hrun₁₀ : RunI h₁₀ rxx (runOf ns) := hrun₉.at' fun o e => X₁₀.keepc _ o ro1 ro2 e
  have hsg₁₀ : SignsAt h₁₀ sxx (sgOf ns) := (hsg₆.keeps k₆₉).at fun o e => X₁₀.keepc _ o so1 so2 e
  have hsl₁₀ : h₁₀.IsList sxx (ls ++ ys).toArray := (isList_keeps (hsl₅.at fun o e => X₆.keepc _ o so1 so2 e) k₆₉).at fun o e => X₁₀.keepc _ o so1 so2 e
  have T₁₀ : ∃ m, LS s.heap h₉ s.heap.objs.size (lawCells s.heap.objs.size) h₁₀ m cm₂ ∧ m (Str.ofString "signs") = some (.ref sxx) ∧ m (Str.ofString "run") = some (.ref rxx) := ⟨_, X₁₀, upd_ne hsigns₆, upd_eq⟩
  clear X₁₀
  obtain ⟨m₁₀, X₁₀, hsigns₁₀, hrunn₁₀⟩ := T₁₀
  -- the text
  refine wpAny_execs_cons ?_
  refine wpAny_Assign_Name ?_
  refine MethodCall_ ?_
  refine Constant_str ?_
  refine GM.join ?_
  refine callWith_method1 ?_
  refine args_cons ?_
  refine lsLd (s := Sh s h₁₀ _) X₁₀ hsigns₁₀ ?_
  refine args_nil ?_
  have hsgl := sgOf_len ns
  refine call_join (s := Sh s h₁₀ _) (ls := (sgOf ns).map fun c => [c]) hsl₁₀ (by rw [List.map_map]; simpa [Function.comp_def] using hsgs) (by rw [flatten_single]; omega) fun t' tk₁₁ => ?_
  rw [flatten_single]
  refine lsSt (s := Sh s h₁₀ tk₁₁) X₁₀.self fun h₁₁ X₁₁ => ?_
  have hrun₁₁ : RunI h₁₁ rxx (runOf ns) := hrun₁₀.at' fun o e => X₁₁.keepc _ o ro1 ro2 e
  have hsg₁₁ : SignsAt h₁₁ sxx (sgOf ns) := hsg₁₀.at fun o e => X₁₁.keepc _ o so1 so2 e
  have T₁₁ : ∃ m, LS s.heap h₁₀ s.heap.objs.size (lawCells s.heap.objs.size) h₁₁ m cm₂ ∧ Turns sxx rxx (textAt ns 0) m := ⟨_, X₁₁, upd_ne hsigns₁₀, upd_ne hrunn₁₀, t', upd_eq⟩
  clear X₁₁
  obtain ⟨m₁₁, X₁₁, T₁₁⟩ := T₁₁
  -- the loop
  have F₁₁ := F₀.keeps X₁₁.keep
  obtain ⟨rvs, r1, r2⟩ := id hrun₁₁
  have hrn := runOf_len ns
  have hrvl : rvs.length = (runOf ns).length := by rw [ints_len r2]; simp [natInts]
  refine wpAny_execs_cons ?_
  refine wpAny_For ?_
  refine Call_ ?_
  refine nmC_builtin (s := Sh s h₁₁ _) F₁₁.B F₁₁.B.range0 F₁₁.B.range ?_
  refine PySem.callWith_type rfl (Calls.evalArgs_plain (args_cons (Call_ ?_)))
  refine nmC_builtin (s := Sh s h₁₁ _) F₁₁.B F₁₁.B.len0 F₁₁.B.len ?_
  refine PyProof.Rows.callWith_builtin1 ?_
  refine args_cons (lsLd (s := Sh s h₁₁ _) X₁₁ T₁₁.run ?_)
  refine args_nil ?_
  refine call_len_list r1 (by simp; omega) ?_
  refine args_nil ?_
  have hsz : rvs.toArray.size = (runOf ns).length := by simpa using hrvl
  rw [hsz]
  obtain ⟨hsm, hrs⟩ := small_range (lo := 0) (hi := (runOf ns).length) (by omega) (by omega)
  refine call_range_1 (wpAny_pyIter_range (IsRange.new _ _ _ _ _ _ _) hsm ?_)
  dsimp only
  generalize hH : h₁₁.push { cls := .type "range", data := .fields #[.int 0 _, Value.int (((runOf ns).length : Nat) : Int) _, .int 1 _] } = H
  have hHs : H.objs.size = h₁₁.objs.size + 1 := by rw [← hH, Heap.size_push]
  have k1 : Keeps h₁₁ H := fun b o e => hH ▸ Heap.get?_push_of_some _ e
  generalize hG : H.push { cls := .type "range_iterator", data := .fields #[rawInt ((0 : Nat) : Int), rawInt (Builtin.Range.rangeSize ((0 : Nat) : Int) (((runOf ns).length : Nat) : Int) 1), rawInt 1] } = G
  have k2 : Keeps h₁₁ G := fun b o e => hG ▸ Heap.get?_push_of_some _ (k1 b o e)
  have hI8 : h₁₁.objs.size ≤ H.objs.size := by rw [hHs]; exact Nat.le_succ _
  have hnoI : ∀ {h : Heap}, Keeps h h₁₁ → h.get? H.objs.size = none := fun {h} k => by
    cases e : h.get? H.objs.size with
    | none => rfl
    | some o => exact absurd (Heap.lt_size (k _ _ e)) (Nat.not_lt.mpr hI8)
  have hIL : H.objs.size ≠ s.heap.objs.size := Nat.ne_of_gt (Nat.lt_of_lt_of_le X₁₁.lt hI8)
  have hIc : ∀ n, (n, H.objs.size) ∉ lawCells s.heap.objs.size := fun n hm => Nat.lt_irrefl _ (Nat.lt_of_lt_of_le (lawCells_lt X₁₁ hm) hI8)
  have hIs : ∀ b, (∃ o, h₁₁.get? b = some o) → b ∉ [H.objs.size] := fun b ⟨o, e⟩ hb => by
    rw [List.mem_singleton.mp hb] at e
    exact absurd (Heap.lt_size e) (Nat.not_lt.mpr hI8)
  have is1 : sxx ∉ [H.objs.size] := hIs _ (by obtain ⟨its, ⟨o, e, _⟩, _⟩ := hsg₁₁; exact ⟨o, e⟩)
  have is2 : rxx ∉ [H.objs.size] := hIs _ (by obtain ⟨its, ⟨o, e, _⟩, _⟩ := hrun₁₁; exact ⟨o, e⟩)
  refine loopOn (s := Sh s G _) (Walks.range (A := A.deeper _) hh H.objs.size ((0 : Nat) : Int) 1 (runOf ns).length).bound
    (fun i h => ∃ m, LS s.heap s.heap s.heap.objs.size (lawCells s.heap.objs.size) h m cm₂ ∧ Turns sxx rxx (textAt ns i) m ∧ SignsAt h sxx (sgOf ns) ∧ RunI h rxx (runOf ns)) ?_ ?_ ?_ ?_ ?_
  · rintro i h h' ⟨m, X, T, hs, hr⟩ k
    exact ⟨m, X.but hIL hIc (hnoI X₁₁.keep) (hnoI X₁₁.keep) k, T, hs.at fun o e => k _ o is1 e, hr.at' fun o e => k _ o is2 e⟩
  · show G.get? H.objs.size = _
    rw [← hG, Heap.get?_push_size _ rfl, hrs]
    simp
  · exact ⟨_, ⟨X₁₁.ns.keeps k2, X₁₁.cl.keeps k2, fun b o e => k2 b o (X₁₁.keep b o e), fun b o _ _ e => k2 b o (X₁₁.keep b o e), X₁₁.above⟩, T₁₁, hsg₁₁.keeps k2, hrun₁₁.keeps k2⟩
  · rintro i v h tk₁ E' hi' ⟨_, tv, rfl⟩ ⟨m, X, T, hs, hr⟩ hst
    have hv : (((0 : Nat) : Int) + (i : Int) * 1) = ((i : Nat) : Int) := by omega
    rw [hv]
    refine lsSt (s := Sh s h tk₁) X.self fun h₁₂ X₁₂ => ?_
    have hs₂ := hs.at fun o e => X₁₂.keepc _ o so1 so2 e
    have hr₂ := hr.at' fun o e => X₁₂.keepc _ o ro1 ro2 e
    have hd : (runOf ns)[i]? = some ((runOf ns).getD i 0) := getD_of hi'
    have hdm : (runOf ns).getD i 0 ∈ runOf ns := List.mem_of_getElem? hd
    refine wpAny_mono (law_turn (s := s) (A := A.deeper _) (i := i) (t := textAt ns i) F₀ hh (by show A.depth + 1 + 2 < recursionLimit; omega) (by show A.units + 3 + 3 < cLine; omega) (textAt_alpha ns i) (textAt_len ns i) X₁₂.self
      ⟨upd_ne T.signs, upd_ne T.run, T.text.imp fun _ e => upd_ne e⟩ ⟨_, upd_eq⟩ (fun b hb => ?_) hs₂ hr₂ (by have := sgOf_len ns; omega) (by omega) hd (runOf_deed ns _ hdm) (textAt_told hd)) (fun f s₂ hp => ?_) fun _ _ x => x
    · simp only [List.mem_cons, List.not_mem_nil, or_false] at hb
      rcases hb with rfl | rfl
      · exact ⟨so1, so2⟩
      · exact ⟨ro1, ro2⟩
    obtain ⟨rfl, h', tk', m', rfl, X', T'⟩ := hp
    have XX := X₁₂.back X'
    refine ⟨rfl, h', tk', rfl, ⟨m', X.back XX, ?_, hs.at fun o e => XX.keepc _ o so1 so2 e, hr.at' fun o e => XX.keepc _ o ro1 ro2 e⟩, fun b hb o e => ?_⟩
    · rw [textAt_succ hd]; exact T'
    · rw [List.mem_singleton.mp hb] at e ⊢
      exact XX.keepc _ o hIL hIc e
  rintro h₁₃ tk₁₃ ⟨m₁₃, X₁₃, _⟩
  dsimp only
  refine wpAny_execs_cons (wpAny_Return_some (Constant_bool ?_))
  exact h h₁₃ tk₁₃ X₁₃.keep
end Mine
end

section
open PySem PySem.W PyProof.Rows PySem.Calls
set_option maxRecDepth 100000
namespace Mine
/-- what is asked of the state behind the opening -/
def obs0 (s : Shared) :=
  (s.heap.isNs mainGlobals && s.heap.isNs builtinsNs && s.heap.isNs cStatics && s.heap.isNs 11 && s.gens.size == 0 && s.heap.bmainOk && s.heap.accountedOkI (importedModules pw.main.body) && namesBound pw s.heap &&
    (s.heap.nsMap cStatics "sys.recursionlimit").isNone && ([Str.ofString "len", Str.ofString "ord", Str.ofString "range", Str.ofString "set", Str.ofString "list"].all fun x => (s.heap.nsMap mainGlobals x).isNone),
   s.heap.nsMap mainGlobals (Str.ofString "_sre"), s.heap.nsMap 11 (Str.ofString "compile"), s.heap.get? 12, s.heap.objs.size, s.heap.bltView)
def seen0 : Bool × Option Value × Option Value × Option Obj × Nat × Option Str × List (Str × Value) :=
  (true, some (.ref 12), some (.builtin "_sre.compile"), some { cls := .type "module", dict := some 11, data := .plain }, 28, bltViewBooted)
set_option maxHeartbeats 0 in
theorem s0_obs : ∀ w : World, (fencedOpening treeTable pw w 1000).map obs0 = some seen0 := fun w => by kernel_rfl
end Mine
end

section
open PySem PySem.W PyProof.Rows PySem.Calls
set_option maxRecDepth 100000
namespace Mine
/-! the top's statements: rules at the module's level -/
def KB (Pl : Addr) (h h' : Heap) : Prop := ∀ b o, b ≠ Pl → b ≠ mainGlobals → h.get? b = some o → h'.get? b = some o
theorem KB.refl {Pl : Addr} {h : Heap} : KB Pl h h := fun _ _ _ _ e => e
theorem KB.trans {Pl : Addr} {h h' h'' : Heap} (x : KB Pl h h') (y : KB Pl h' h'') : KB Pl h h'' := fun b o h1 h2 e => y b o h1 h2 (x b o h1 h2 e)
theorem KB.of {Pl : Addr} {h h' : Heap} (k : Keeps h h') : KB Pl h h' := fun b o _ _ e => k b o e
theorem KB.same {Pl : Addr} {h h' : Heap} (k : Heap.SameBut mainGlobals h h') : KB Pl h h' := fun b _ _ h2 e => (k.2 b h2).trans e
/-- a fact that lasts -/
def Fut (Pl : Addr) (h : Heap) (P : Heap → Prop) : Prop := ∀ h', KB Pl h h' → P h'
theorem Fut.on {Pl : Addr} {h h' : Heap} {P : Heap → Prop} (x : Fut Pl h P) (k : KB Pl h h') : Fut Pl h' P := fun h'' k' => x h'' (k.trans k')
theorem Fut.now {Pl : Addr} {h : Heap} {P : Heap → Prop} (x : Fut Pl h P) : P h := x h .refl

/-- where the top stands -/
structure HS (c Pl : Addr) (n : Nat) (h : Heap) (mg : Str → Option Value) : Prop where
  main : ∃ l : List (Pos × Addr), h.Main mg c Pl (triples l).toArray ∧ ∀ q ∈ l, q.1.line < n
theorem HS.g {c Pl : Addr} {n : Nat} {h : Heap} {mg : Str → Option Value} (x : HS c Pl n h mg) : h.Ns mainGlobals mg := let ⟨_, m, _⟩ := x.main; m.g
theorem HS.pl {c Pl : Addr} {n : Nat} {h : Heap} {mg : Str → Option Value} (x : HS c Pl n h mg) : Pl < h.objs.size := let ⟨_, m, _⟩ := x.main; m.code.lt.2
theorem HS.keeps {c Pl : Addr} {n : Nat} {h h' : Heap} {mg : Str → Option Value} (x : HS c Pl n h mg) (k : Keeps h h') : HS c Pl n h' mg := by
  obtain ⟨l, m, hl⟩ := x.main
  obtain ⟨bm, o, b1, b2, b3, b4, b5, b6⟩ := m.bmod
  exact ⟨l, ⟨m.g.keeps k, m.code.keeps k, m.low, ⟨bm, o, b1, b2, b3, b4, k _ _ b5, b6⟩⟩, hl⟩
theorem HS.store {c Pl : Addr} {n : Nat} {h h' : Heap} {mg : Str → Option Value} {x : Str} {v : Value} (X : HS c Pl n h mg) (hn : h'.Ns mainGlobals (fun y => if y = x then some v else mg y)) (hs : Heap.SameBut mainGlobals h h') (hx : x ≠ "__builtins__") :
    HS c Pl n h' (fun y => if y = x then some v else mg y) := by
  obtain ⟨l, m, hl⟩ := X.main
  obtain ⟨bm, o, b1, b2, b3, b4, b5, b6⟩ := m.bmod
  exact ⟨l, ⟨hn, m.code.sameBut hs (Nat.ne_of_gt m.low.1) (Nat.ne_of_gt m.low.2), m.low, ⟨bm, o, by simp only [Ne.symm hx, if_false]; exact b1, b2, b3, b4, (hs.2 _ b3).trans b5, b6⟩⟩, hl⟩

section
variable {w : World} {A : Around} {E : Value → Shared → Prop} {s : Shared} {c Pl F : Addr} {n : Nat} {mg mb : Str → Option Value}
theorem loadName_top {x : Str} : loadName (mainEnv pw c F) x = loadGlobal (mainEnv pw c F) x := rfl
theorem nmT_global {x : Str} {pos : Pos} {v : Value} {Q : Value → Shared → Prop} (hn : s.heap.Ns mainGlobals mg) (hv : mg x = some v) (h : Q v s) (hd : (x == ("__debug__" : Str)) = false := by decide) :
    wpAny (model pw w) A (eval (.Name x pos) (mainEnv pw c F)) Q E s := wpAny_Name (by rw [loadName_top]; exact loadGlobal_global hn hv h) hd
theorem nmT_builtin {x : Str} {pos : Pos} {v : Value} {Q : Value → Shared → Prop} (hn : s.heap.Ns mainGlobals mg) (h0 : mg x = none) (hb : s.heap.Ns builtinsNs mb) (hv : mb x = some v) (h : Q v s) (hd : (x == ("__debug__" : Str)) = false := by decide) :
    wpAny (model pw w) A (eval (.Name x pos) (mainEnv pw c F)) Q E s := wpAny_Name (by rw [loadName_top]; exact loadGlobal_builtin hn h0 hb hv h) hd
theorem stT {x : Str} {v : Value} {Q : Unit → Shared → Prop} (X : HS c Pl n s.heap mg) (h : ∀ h', HS c Pl n h' (fun y => if y = x then some v else mg y) → KB Pl s.heap h' → Q () { s with heap := h', toks := s.toks + 1 })
    (hl : (mainEnv pw c F).kindOf x = some .local := by rfl) (hx : x ≠ "__builtins__" := by decide) : wpAny (model pw w) A (storeName (mainEnv pw c F) x v) Q E s :=
  wpAny_storeName_local hl X.g (fun h' hn hs => h h' (X.store hn hs hx) (.same hs)) (by rfl)
end

def posAt (i : Nat) : Pos := match pw.main.body[i]? with | some (.FunctionDef _ _ _ _ _ _ _ _ _ p) => p | _ => default
def recAt (i : Nat) : DefRec := ⟨(defAt i).1, (defAt i).2.1, (defAt i).2.2.1, (defAt i).2.2.2, posAt i⟩

theorem def_stmt {w : World} {A : Around} {E : Value → Shared → Prop} {s : Shared} {c Pl F : Addr} {n i : Nat} {mg : Str → Option Value} {st : Stmt} {Q : Flow → Shared → Prop} (X : HS c Pl n s.heap mg) (hst : st = (recAt i).stmt) (hd : (recAt i).Plain pw) (hln : n ≤ (posAt i).line)
    (h : ∀ a h' tk, HS c Pl ((posAt i).line + 1) h' (fun y => if y = (defAt i).1 then some (.ref a) else mg y) → KB Pl s.heap h' → Fut Pl h' (fun h => FnAt h i a) → Q .next (Sh s h' tk)) :
    wpAny (model pw w) A (exec st (mainEnv pw c F)) Q E s := by
  subst hst
  obtain ⟨l, m, hl⟩ := X.main
  have hpl := X.pl
  refine wpAny_def hd rfl m (by rw [List.toList_toArray]; exact codeAmong_triples _ _ fun q hq e => by have h1 := hl q hq; have h2 : q.1.line = (posAt i).line := e.1; omega) fun a c' doc h' tk ha hm' hf hc keep => ?_
  refine h a h' tk ⟨l ++ [(posAt i, c')], ?_, fun q hq => ?_⟩ (fun b o h1 h2 e => keep b o h1 h2 e) fun h'' k => ?_
  · have hm2 : h'.Main (fun y => if y = (defAt i).1 then some (.ref a) else mg y) c Pl ((triples l).toArray ++ #[rawInt (posAt i).line, rawInt (posAt i).col, .ref c']) := hm'
    rw [triples_append]; simpa using hm2
  · rcases List.mem_append.mp hq with hq | hq
    · have := hl q hq; omega
    · rw [List.mem_singleton.mp hq]; exact Nat.lt_succ_self _
  · have hg : mainGlobals < s.heap.objs.size := X.g.lt
    obtain ⟨hc1, c₂, o₂, vs₂, t₂, e₂, g₂, r₂⟩ := hc
    cases e₂
    have n1 : a ≠ Pl := Nat.ne_of_gt (Nat.lt_of_lt_of_le hpl ha)
    have n2 : a ≠ mainGlobals := Nat.ne_of_gt (Nat.lt_of_lt_of_le hg ha)
    have n3 : c' ≠ Pl := Nat.ne_of_gt (Nat.lt_of_lt_of_le hpl hc1)
    have n4 : c' ≠ mainGlobals := Nat.ne_of_gt (Nat.lt_of_lt_of_le hg hc1)
    exact ⟨_, _, _, _, k a _ n1 n2 hf, rfl, c', o₂, vs₂, t₂, rfl, k _ _ n3 n4 g₂, r₂⟩
end Mine
end

section
set_option maxRecDepth 100000
open PySem PySem.W PyProof.Rows PySem.Calls PySem.Builtin PySem.Builtin.Re
namespace Mine
theorem kind_compile : builtinKind "_sre.compile" = none := by decide +kernel
theorem plain_compile : plainId "_sre.compile" = true := by decide +kernel
theorem entry_compile : entryFor table "_sre.compile" = some Builtin.«_sre.compile» := entryFor_of_fast (by kernel_rfl)
theorem args_compile (a b c d e f : Value) : argsOk "_sre.compile" ⟨[a, b, c, d, e, f], []⟩ := by unfold argsOk; kernel_rfl
theorem named_compile (a b c d e f : Value) : reNamed "_sre.compile" "compile" ["pattern", "flags", "code", "groups", "groupindex", "indexgroup"] 6 [a, b, c, d, e, f] [] = pure [some a, some b, some c, some d, some e, some f] := rfl
theorem sub_list : isSubtype (.type "list") (.type "list") = pure true := by rw [isSubtype_type]; kernel_rfl
theorem sub_dict : isSubtype (.type "dict") (.type "dict") = pure true := by rw [isSubtype_type]; kernel_rfl
theorem sub_tuple : isSubtype (.type "tuple") (.type "tuple") = pure true := by rw [isSubtype_type]; kernel_rfl

theorem words_loop {M : Model} {A : Around} {E : Value → Shared → Prop} {s : Shared} {f : Value → Array Nat → Sem (ForInStep (Array Nat))} {Q : Array Nat → Shared → Prop} (hf : ∀ (c : Nat) t acc, c < 2 ^ 32 → f (.int c t) acc = pure (.yield (acc.push c))) :
    ∀ {cs : List Value} {code : List Nat} {acc : Array Nat}, IntsAre cs (natInts code) → (∀ c ∈ code, c < 2 ^ 32) → Q (acc ++ code.toArray) s → wpAny M A (forIn cs acc f) Q E s
  | cs, [], acc, hi, _, h => by
    cases hi
    rw [List.forIn_nil]
    exact wpAny_pure (by simpa using h)
  | cs, c :: code, acc, hi, hs, h => by
    cases hi with
    | cons n t r =>
      rw [List.forIn_cons, hf c t acc (hs c (by simp))]
      refine wpAny_bind (wpAny_pure ?_)
      refine words_loop hf r (fun d hd => hs d (by simp [hd])) ?_
      have e : acc ++ (c :: code).toArray = acc.push c ++ code.toArray := by simp
      rw [← e]
      exact h
set_option maxHeartbeats 1000000 in
theorem call_compile {w : World} {A : Around} {E : Value → Shared → Prop} {s : Shared} {ca da ta : Addr} {cs : List Value} {code : List Nat} {x : Str} {fl : Int} {t1 t2 t4 : Tok} {Q : Value → Shared → Prop} {od ot : Obj} {ep : Nat}
    (hc : s.heap.IsList ca cs.toArray) (hi : IntsAre cs (natInts code)) (hsm : ∀ c ∈ code, c < 2 ^ 32) (hwf : Sre.wellFormed code.toArray 0 = true) (hfl : 0 ≤ fl ∧ fl < 2 ^ 31) (hlen : code.length ≤ 1000)
    (hd : s.heap.get? da = some od) (hdc : od.cls = .type "dict") (hde : od.data = .dict #[] ep) (hdm : (da == sysModules) = false) (ht : s.heap.get? ta = some ot) (htc : ot.cls = .type "tuple")
    (h : ∀ tk tok, Q (.ref (s.heap.objs.size + 1)) { s with heap := (s.heap.push { cls := .type "tuple", data := .seq (code.map fun (c : Nat) => rawInt c).toArray }).push { cls := .type "re.Pattern", data := .fields #[.str x t1, .int fl tok, .int 0 0, .none, .none, .ref s.heap.objs.size, .int 0 0] }, toks := tk }) :
    wpAny (model pw w) A (call (.builtin "_sre.compile") [.str x t1, .int fl t2, .ref ca, .int 0 t4, .ref da, .ref ta]) Q E s := by
  refine Calls.call_function_entry kind_compile plain_compile entry_compile (args_compile _ _ _ _ _ _) ?_
  unfold «_sre.compile»
  dsimp only
  rw [named_compile]
  refine wpAny_bind (wpAny_pure ?_)
  dsimp only
  refine wpAny_bind (m := asIndex (.int fl t2)) (wpAny_pure ?_)
  rw [if_neg (by simp; omega)]
  refine wpAny_bind (wpAny_isInstance (T := "list") (let ⟨o, e, c, _⟩ := hc; ⟨o, e, c⟩) sub_list ?_)
  rw [if_neg (by simp)]
  refine wpAny_bind (m := reSsize (.int 0 t4)) (wpAny_pure ?_)
  rw [if_neg (by rw [sizeLine_eq]; decide)]
  refine wpAny_bind (wpAny_isInstance (T := "dict") ⟨od, hd, hdc⟩ sub_dict ?_)
  rw [if_neg (by simp)]
  refine wpAny_bind (wpAny_isInstance (T := "tuple") ⟨ot, ht, htc⟩ sub_tuple ?_)
  rw [if_neg (by simp)]
  obtain ⟨oc, c1, c2, nc, c3⟩ := hc
  refine wpAny_bind (wpAny_seqItems c1 c3 ?_)
  rw [Option.getD_some, ← Array.forIn_toList]
  refine wpAny_bind (words_loop (fun c t acc hc => ?_) (by simpa using hi) hsm ?_)
  · simp only [asInt?, pure_bind]
    rw [if_neg (by omega), if_neg (by omega), if_neg (by omega), Int.toNat_natCast]
  rw [if_neg (by simp)]
  refine wpAny_bind (m := reTextOf (.str x t1)) (wpAny_pure ?_)
  dsimp only
  refine wpAny_bind (wpAny_pure ?_)
  rw [if_neg (by simp [hwf])]
  refine wpAny_bind (m := notTheModulesDict "_sre.compile:groupindex" da) ?_
  unfold notTheModulesDict
  rw [if_neg (by simp [hdm])]
  refine wpAny_pure ?_
  refine wpAny_bind (wpAny_dictEntries hd hde ?_)
  refine wpAny_bind (wpAny_pure ?_)
  refine wpAny_bind (wpAny_mkInt ?_)
  have e1 : (#[] ++ code.toArray).toList = code := by simp
  rw [e1]
  refine wpAny_bind (wpAny_newTuple ?_ (by rw [List.length_map, sizeLine_eq]; omega))
  refine wpAny_bind (m := newFields _ _) ?_
  unfold newFields
  refine wpAny_newObj_type ?_ ?_
  · refine wpAny_pure ⟨_, rfl, ?_⟩
    have hs1 : (s.heap.push { cls := .type "tuple", data := .seq (code.map fun (c : Nat) => rawInt c).toArray }).objs.size = s.heap.objs.size + 1 := by rw [Heap.size_push]
    have := h (s.toks + 1) s.toks
    rw [← hs1] at this
    exact this
  · show _ ≤ sizeLine + 2
    rw [sizeLine_eq]
    exact Nat.le_of_ble_eq_true rfl
end Mine
end

section
set_option maxRecDepth 100000
open PySem PySem.W PyProof.Rows PySem.Calls
namespace Mine
theorem plain2 : (recAt 2).Plain pw := ⟨fun _ => rfl, by decide +kernel, by decide +kernel, by decide +kernel, by decide +kernel⟩
theorem plain7 : (recAt 7).Plain pw := ⟨fun _ => rfl, by decide +kernel, by decide +kernel, by decide +kernel, by decide +kernel⟩
theorem plain10 : (recAt 10).Plain pw := ⟨fun _ => rfl, by decide +kernel, by decide +kernel, by decide +kernel, by decide +kernel⟩
theorem plain12 : (recAt 12).Plain pw := ⟨fun _ => rfl, by decide +kernel, by decide +kernel, by decide +kernel, by decide +kernel⟩
theorem plain14 : (recAt 14).Plain pw := ⟨fun _ => rfl, by decide +kernel, by decide +kernel, by decide +kernel, by decide +kernel⟩
theorem plain15 : (recAt 15).Plain pw := ⟨fun _ => rfl, by decide +kernel, by decide +kernel, by decide +kernel, by decide +kernel⟩
theorem plain16 : (recAt 16).Plain pw := ⟨fun _ => rfl, by decide +kernel, by decide +kernel, by decide +kernel, by decide +kernel⟩

theorem no_compile : typeLookup (.type "module") (Str.ofString "compile") = pure none := by rw [typeLookup_type, builtinLookup_eq_fast]; kernel_rfl

set_option maxHeartbeats 1000000 in
theorem regex_stmt {w : World} {A : Around} {E : Value → Shared → Prop} {s : Shared} {c Pl F : Addr} {n : Nat} {mg md : Str → Option Value} {nm x : Str} {fl : Int} {es : List Expr} {code : List Nat} {k4 k5 k7 k9 k10 : Nat} {p1 p2 p3 p4 p5 p6 p7 p8 p9 p10 p11 p12 : Pos} {pl : Sem Bool}
    {Q : Flow → Shared → Prop} (X : HS c Pl n s.heap mg) (hsre : mg (Str.ofString "_sre") = some (.ref 12)) (hmod : Flt.IsCMod s.heap 12 11 md) (hmd : md (Str.ofString "compile") = some (.builtin "_sre.compile"))
    (hc : IntConsts es (natInts code)) (hsm : ∀ c ∈ code, c < 2 ^ 32) (hwf : Sre.wellFormed code.toArray 0 = true) (hfl : 0 ≤ fl ∧ fl < 2 ^ 31) (hlen : code.length ≤ 1000) (hsz : sysModules < s.heap.objs.size)
    (hl : (mainEnv pw c F).kindOf nm = some .local) (hb : nm ≠ "__builtins__")
    (h : ∀ a h' tk, HS c Pl n h' (fun y => if y = nm then some (.ref a) else mg y) → KB Pl s.heap h' → Fut Pl h' (fun h => IsPat h a code.toArray) → Q .next (Sh s h' tk))
    (he : eval (.Call (.Attribute (.Name (Str.ofString "_sre") p2) (Str.ofString "compile") p3) [.Constant (.str x) k4 p4, .Constant (.int fl) k5 p5, .List es p6, .Constant (.int 0) k7 p7, .Dict [] [] p8, .Tuple [.Constant .none k9 p9] k10 p10] [] p11) (mainEnv pw c F) = (do
      let ov ← eval (.Name (Str.ofString "_sre") p2) (mainEnv pw c F)
      standAt p3.atName
      let (f, first) ← holding [ov] (getMethod ov (Str.ofString "compile") pl)
      callWith p11 f first (backTo p11 (starEach [.Constant (.str x) k4 p4, .Constant (.int fl) k5 p5, .List es p6, .Constant (.int 0) k7 p7, .Dict [] [] p8, .Tuple [.Constant .none k9 p9] k10 p10] (mainEnv pw c F))) [])) :
    wpAny (model pw w) A (exec (.Assign [.Name nm p1] (.Call (.Attribute (.Name (Str.ofString "_sre") p2) (Str.ofString "compile") p3) [.Constant (.str x) k4 p4, .Constant (.int fl) k5 p5, .List es p6, .Constant (.int 0) k7 p7, .Dict [] [] p8, .Tuple [.Constant .none k9 p9] k10 p10] [] p11) p12) (mainEnv pw c F)) Q E s := by
  have hpl := X.pl
  have hg : mainGlobals < s.heap.objs.size := X.g.lt
  refine wpAny_Assign_Name ?_
  refine MethodCall_ ?_ he
  refine nmT_global X.g hsre ?_
  refine Flt.getMethod_module hmod no_compile hmd rfl ?_
  refine callWith_method1 ?_
  refine args_cons ?_
  refine Constant_str ?_
  refine args_cons ?_
  refine wpAny_Constant_int ?_
  refine args_cons ?_
  refine List_ ?_
  refine spliced_ints hc fun cs tk hi => ?_
  have hcl : cs.length ≤ 1000 := by rw [ints_len hi]; simpa [natInts] using hlen
  refine wpAny_newList ?_ (by rw [sizeLine_eq]; omega)
  generalize hh₁ : s.heap.push { cls := .type "list", data := .seq cs.toArray } = h₁
  have k₁ : Keeps s.heap h₁ := hh₁ ▸ keeps_push _ _
  have l₁ : h₁.IsList s.heap.objs.size cs.toArray := hh₁ ▸ isList_push
  have z₁ : h₁.objs.size = s.heap.objs.size + 1 := by rw [← hh₁, Heap.size_push]
  refine args_cons ?_
  refine wpAny_Constant_int ?_
  refine args_cons ?_
  refine wpAny_Dict_empty ?_
  dsimp only
  generalize hh₂ : h₁.push { cls := .type "dict", data := .dict #[] } = h₂
  have k₂ : Keeps h₁ h₂ := hh₂ ▸ keeps_push _ _
  have d₂ : h₂.get? h₁.objs.size = some { cls := .type "dict", data := .dict #[] } := hh₂ ▸ Heap.get?_push_size _ rfl
  have z₂ : h₂.objs.size = s.heap.objs.size + 2 := by rw [← hh₂, Heap.size_push, z₁]
  refine args_cons ?_
  refine Tuple_ ?_
  refine args_cons ?_
  refine const_none ?_
  refine args_nil ?_
  refine wpAny_newTuple ?_ (by rw [sizeLine_eq]; exact Nat.le_of_ble_eq_true rfl)
  dsimp only
  generalize hh₃ : h₂.push { cls := .type "tuple", data := .seq [Value.none].toArray } = h₃
  have k₃ : Keeps h₂ h₃ := hh₃ ▸ keeps_push _ _
  have t₃ : h₃.get? h₂.objs.size = some { cls := .type "tuple", data := .seq [Value.none].toArray } := hh₃ ▸ Heap.get?_push_size _ rfl
  have z₃ : h₃.objs.size = s.heap.objs.size + 3 := by rw [← hh₃, Heap.size_push, z₂]
  have kk₃ : Keeps s.heap h₃ := fun b o e => k₃ b o (k₂ b o (k₁ b o e))
  refine args_nil ?_
  refine call_compile (s := Sh s h₃ _) (isList_keeps (isList_keeps l₁ k₂) k₃) hi hsm hwf hfl hlen (k₃ _ _ d₂) rfl rfl (beq_eq_false_iff_ne.mpr (Nat.ne_of_gt (Nat.lt_of_lt_of_le hsz (by rw [z₁]; exact Nat.le_succ _)))) t₃ rfl fun tk' tok => ?_
  dsimp only
  generalize ho₄ : ({ cls := .type "tuple", data := .seq (code.map fun (c : Nat) => rawInt c).toArray } : Obj) = o₄
  generalize hh₄ : h₃.push o₄ = h₄
  have k₄ : Keeps h₃ h₄ := hh₄ ▸ keeps_push _ _
  have z₄ : h₄.objs.size = h₃.objs.size + 1 := by rw [← hh₄, Heap.size_push]
  have g₄ : h₄.get? h₃.objs.size = some o₄ := hh₄ ▸ Heap.get?_push_size _ (by rw [← ho₄]; rfl)
  generalize ho₅ : ({ cls := .type "re.Pattern", data := .fields #[.str x _, .int fl tok, .int 0 0, .none, .none, .ref h₃.objs.size, .int 0 0] } : Obj) = o₅
  generalize hh₅ : h₄.push o₅ = h₅
  have k₅ : Keeps h₄ h₅ := hh₅ ▸ keeps_push _ _
  have g₅ : h₅.get? h₄.objs.size = some o₅ := hh₅ ▸ Heap.get?_push_size _ (by rw [← ho₅]; rfl)
  have kk₅ : Keeps s.heap h₅ := fun b o e => k₅ b o (k₄ b o (kk₃ b o e))
  rw [← z₄]
  refine stT (s := Sh s h₅ tk') (X.keeps kk₅) (fun h' X' k' => ?_) hl hb
  refine h _ h' _ X' ((KB.of kk₅).trans k') fun h'' k'' => ?_
  have kf := k'.trans k''
  have q₃ : s.heap.objs.size ≤ h₃.objs.size := by rw [z₃]; exact Nat.le_add_right _ _
  have q₄ : s.heap.objs.size ≤ h₄.objs.size := by rw [z₄]; exact Nat.le_succ_of_le q₃
  have e₅ := kf _ _ (Nat.ne_of_gt (Nat.lt_of_lt_of_le hpl q₄)) (Nat.ne_of_gt (Nat.lt_of_lt_of_le hg q₄)) g₅
  have e₄ := kf _ _ (Nat.ne_of_gt (Nat.lt_of_lt_of_le hpl q₃)) (Nat.ne_of_gt (Nat.lt_of_lt_of_le hg q₃)) (k₅ _ _ g₄)
  subst ho₅ ho₄
  refine ⟨_, _, _, _, _, _, _, e₅, rfl, rfl, rfl, e₄, rfl, ?_⟩
  simp [Builtin.Re.reRawOf, rawInt, Function.comp_def]
end Mine
end

section
set_option maxRecDepth 100000
open PySem PySem.W PyProof.Rows PySem.Calls
namespace Mine
def b1A : List Int := [173, 847, 6150, 6155, 6156, 6157, 8203, 8204, 8205, 8288, 65279]
def b1B : List Int := (List.range' 0 16).map fun (i : Nat) => 65024 + (i : Int)
def b1L : List Int := b1A ++ b1B
theorem b1_asked : ∀ c ∈ alphabet, (firstMet (fun i => b1L.getD i 0) 27).any (· == (c : Int)) = decide (c = 8203) := by decide +kernel
theorem ints_items : ∀ {vs : List Value} {n b : Nat}, vs.length = n → (∀ (j : Nat) v, vs[j]? = some v → ∃ t, v = .int (65024 + ((b + j : Nat) : Int)) t) → IntsAre vs ((List.range' b n).map fun (i : Nat) => 65024 + (i : Int))
  | [], 0, _, _, _ => .nil
  | [], _ + 1, _, h, _ => by simp at h
  | _ :: _, 0, _, h, _ => by simp at h
  | v :: vs, n + 1, b, h, hv => by
    obtain ⟨t, rfl⟩ := hv 0 v rfl
    rw [List.range'_succ]
    refine .cons _ t (ints_items (by simpa using h) fun j u hj => ?_)
    have := hv (j + 1) u (by simpa using hj)
    rwa [show b + (j + 1) = b + 1 + j by omega] at this

/-- the set, as the law asks it -/
def B1At (w : World) (h : Heap) (a : Addr) : Prop := ∃ S n, h.SetOf (intKind pw w) a S n ∧ ∀ c ∈ alphabet, S (c : Int) = decide (c = 8203)

set_option maxHeartbeats 2000000 in
theorem set_stmt {w : World} {A : Around} {E : Value → Shared → Prop} {s : Shared} {c Pl F : Addr} {n : Nat} {mg mb : Str → Option Value} {es : List Expr} {k1 k2 : Nat} {p1 p2 p3 p4 p5 p6 p7 p8 p9 p10 p11 p12 : Pos}
    {Q : Flow → Shared → Prop} (X : HS c Pl n s.heap mg) (hh : A.handled = none) (hs0 : mg (Str.ofString "set") = none) (hl0 : mg (Str.ofString "list") = none) (hr0 : mg (Str.ofString "range") = none) (hb : s.heap.Ns builtinsNs mb)
    (hs1 : mb (Str.ofString "set") = some (.type "set")) (hl1 : mb (Str.ofString "list") = some (.type "list")) (hr1 : mb (Str.ofString "range") = some (.type "range")) (hc : IntConsts es b1A)
    (h : ∀ a h' tk, HS c Pl n h' (fun y => if y = Str.ofString "b1_set" then some (.ref a) else mg y) → KB Pl s.heap h' → Fut Pl h' (fun h => B1At w h a) → Q .next (Sh s h' tk)) :
    wpAny (model pw w) A (exec (.Assign [.Name (Str.ofString "b1_set") p1] (.Call (.Name (Str.ofString "set") p2) [.BinOp (.List es p3) .Add (.Call (.Name (Str.ofString "list") p4) [.Call (.Name (Str.ofString "range") p5) [.Constant (.int 65024) k1 p6, .Constant (.int 65040) k2 p7] [] p8] [] p9) p10] [] p11) p12) (mainEnv pw c F)) Q E s := by
  have hpl := X.pl
  have hg : mainGlobals < s.heap.objs.size := X.g.lt
  refine wpAny_Assign_Name ?_
  refine Call_ ?_
  refine nmT_builtin X.g hs0 hb hs1 ?_
  refine PySem.callWith_type rfl (Calls.evalArgs_plain (args_cons (wpAny_BinOp ?_)))
  refine List_ ?_
  refine spliced_ints hc fun vs tk hi => ?_
  have hvl : vs.length = 11 := by rw [ints_len hi]; rfl
  refine wpAny_newList ?_ (by rw [sizeLine_eq, hvl]; decide)
  generalize hh₁ : s.heap.push { cls := .type "list", data := .seq vs.toArray } = h₁
  have k₁ : Keeps s.heap h₁ := hh₁ ▸ keeps_push _ _
  have l₁ : h₁.IsList s.heap.objs.size vs.toArray := hh₁ ▸ isList_push
  have X₁ := X.keeps k₁
  have B₁ := hb.keeps k₁
  refine Call_ ?_
  refine nmT_builtin (s := Sh s h₁ _) X₁.g hl0 B₁ hl1 ?_
  refine PySem.callWith_type rfl (Calls.evalArgs_plain (args_cons (Call_ ?_)))
  refine nmT_builtin (s := Sh s h₁ _) X₁.g hr0 B₁ hr1 ?_
  refine PySem.callWith_type rfl (Calls.evalArgs_plain (args_cons (wpAny_Constant_int (args_cons (wpAny_Constant_int (args_nil ?_))))))
  refine call_range_2 ?_
  dsimp only
  generalize ho₂ : ({ cls := .type "range", data := .fields #[.int 65024 _, .int 65040 _, .int 1 _] } : Obj) = o₂
  generalize hh₂ : h₁.push o₂ = h₂
  have k₂ : Keeps h₁ h₂ := hh₂ ▸ keeps_push _ _
  refine args_nil ?_
  refine call_list_range (s := Sh s h₂ _) (n := 16) hh (by rw [← hh₂, ← ho₂]; exact IsRange.new _ _ _ _ _ _ _) (by decide +kernel) (by decide +kernel) (by decide) fun h₃ tk₃ acc c3 k₃ g₃ hit => ?_
  have hacc : IntsAre acc.toList b1B := ints_items (by simpa using hit.1) fun j v hj => by
    obtain ⟨t, rfl⟩ := hit.2 j v (by simpa using hj)
    exact ⟨t, by simp⟩
  have l₃ : h₃.IsList h₂.objs.size acc.toList.toArray := ⟨_, g₃, rfl, c3, rfl⟩
  have hal : acc.toList.length = 16 := by rw [ints_len hacc]; rfl
  refine add_two (s := Sh s h₃ tk₃) (isList_keeps (isList_keeps l₁ k₂) k₃) l₃ (by rw [hvl, hal, sizeLine_eq]; decide) ?_
  dsimp only
  generalize hh₄ : h₃.push { cls := .type "list", data := .seq (vs ++ acc.toList).toArray } = h₄
  have k₄ : Keeps h₃ h₄ := hh₄ ▸ keeps_push _ _
  have l₄ : h₄.IsList h₃.objs.size (vs ++ acc.toList).toArray := hh₄ ▸ isList_push
  have kk₄ : Keeps s.heap h₄ := fun b o e => k₄ b o (k₃ b o (k₂ b o (k₁ b o e)))
  refine args_nil ?_
  have hz : (vs ++ acc.toList).toArray.size = 27 := by rw [List.size_toArray, List.length_append, hvl, hal]
  refine call_set_list (s := Sh s h₄ _) (ns := b1L) hh l₄ (by rw [List.toList_toArray]; exact IntsAre.append hi hacc) (by rw [hz]; decide) fun h₅ tk₅ hS k₅ => ?_
  rw [hz] at hS
  have k₅' : Keeps h₄ h₅ := fun b o e => k₅ b o (Heap.lt_size e) e
  have kk₅ : Keeps s.heap h₅ := fun b o e => k₅' b o (kk₄ b o e)
  refine stT (s := Sh s h₅ tk₅) (X.keeps kk₅) (fun h' X' k' => ?_) rfl (by decide)
  refine h _ h' _ X' ((KB.of kk₅).trans k') fun h'' k'' => ?_
  have q₄ : s.heap.objs.size ≤ h₄.objs.size := Nat.le_of_lt (by obtain ⟨o, e, _⟩ := isList_keeps (isList_keeps (isList_keeps l₁ k₂) k₃) k₄; exact Heap.lt_size e)
  obtain ⟨o, es', ep, t, e1, r⟩ := hS
  exact ⟨_, _, ⟨o, es', ep, t, (k'.trans k'') _ _ (Nat.ne_of_gt (Nat.lt_of_lt_of_le hpl q₄)) (Nat.ne_of_gt (Nat.lt_of_lt_of_le hg q₄)) e1, r⟩, b1_asked⟩
end Mine
end

section
set_option maxRecDepth 100000
open PySem PySem.W PyProof.Rows PySem.Calls
namespace Mine
/-- a key that is not there yet is put behind the others -/
theorem put_pairs {w : World} {A : Around} {E : Value → Shared → Prop} {s : Shared} {d : Addr} {kvs : List (Int × Value)} {k : Int} {key v : Value} {Q : Unit → Shared → Prop} (hkey : (intKind pw w).is k key = true) (hm : s.heap.DictOf (intKind pw w) d kvs)
    (hnew : k ∉ kvs.map (·.1)) (hsz : kvs.length ≤ sizeLine)
    (hQ : ∀ h', h'.DictOf (intKind pw w) d (kvs ++ [(k, v)]) → Heap.SameBut d s.heap h' → Q () { s with heap := h' }) :
    wpAny (model pw w) A (dictPut d ((intKind pw w).hash k) key v) Q E s := by
  obtain ⟨o, ⟨es⟩, ep, ho, hc, hd, hk, hp, hn⟩ := hm
  have hp : Pairs (intKind pw w) es kvs := hp
  have hmiss : (Array.mk es).findIdx? (fun e => (intKind pw w).is k e.key) = none := by
    have e1 : es.findIdx? (fun e => (intKind pw w).is k e.key) = kvs.findIdx? fun kv => decide (kv.1 = k) := hp.findIdx k
    have e2 : kvs.findIdx? (fun kv => decide (kv.1 = k)) = none := List.findIdx?_eq_none_iff.mpr fun kv hkv => decide_eq_false fun e => hnew (e ▸ List.mem_map_of_mem hkv)
    simpa using e1.trans e2
  have hsize : (Array.mk es).size ≤ sizeLine := by
    have := hp.length
    show es.length ≤ sizeLine
    omega
  have hnod : ((kvs ++ [(k, v)]).map (·.1)).Nodup := by
    rw [List.map_append]
    exact List.nodup_append.mpr ⟨hn, by simp, fun a ha b hb e => hnew (by simp at hb; rw [← hb, ← e]; exact ha)⟩
  have hpa : Pairs (intKind pw w) ((Array.mk es).push ⟨(intKind pw w).hash k, key, v⟩).toList (kvs ++ [(k, v)]) := by
    have := hp.append hkey ((intKind pw w).hash k) v
    simpa using this
  unfold dictPut
  refine wpAny_bind (wpAny_dictFind_of hkey ho hd hk ?_)
  rw [hmiss]
  have hd' := Obj.data_mapDictKeys hd (·.push ⟨(intKind pw w).hash k, key, v⟩)
  exact wpAny_updateDictKeys (hz := hsize) ho hd (hQ _ ⟨_, _, _, Heap.get?_update_self _ ho (Obj.isFreed_of_dict hd'), hc.mapDictKeys _, hd', hk.push hkey _, hpa, hnod⟩ (Heap.SameBut.update ..))

/-- places i, i + 1, .. of the second dict, one turn each -/
theorem merge_turns {w : World} {A : Around} {E : Value → Shared → Prop} {s : Shared} {d a : Addr} {acc more : List (Int × Value)} {oa : Obj} {f : Nat → PUnit → Sem (ForInStep PUnit)}
    (turn : ∀ i h, i < more.length → h.DictOf (intKind pw w) d (acc ++ more.take i) → h.get? a = some oa →
      wpAny (model pw w) A (f i PUnit.unit) (fun r s' => r = .yield PUnit.unit ∧ ∃ h', s' = { s with heap := h' } ∧ h'.DictOf (intKind pw w) d (acc ++ more.take (i + 1)) ∧ h'.get? a = some oa ∧ Heap.SameBut d h h') E { s with heap := h }) :
    ∀ (n i : Nat) (h : Heap) (Q : PUnit → Shared → Prop), i + n = more.length → h.DictOf (intKind pw w) d (acc ++ more.take i) → h.get? a = some oa →
      (∀ h', h'.DictOf (intKind pw w) d (acc ++ more) → Heap.SameBut d h h' → Q PUnit.unit { s with heap := h' }) → wpAny (model pw w) A (forIn (List.range' i n) PUnit.unit f) Q E { s with heap := h }
  | 0, i, h, Q, hi, hd, _, hQ => by
    have e : more.take i = more := List.take_of_length_le (by omega)
    rw [e] at hd
    rw [List.range'_zero, List.forIn_nil]
    exact wpAny_pure (hQ h hd (Heap.SameBut.refl _ _))
  | n + 1, i, h, Q, hi, hd, ha, hQ => by
    rw [List.range'_succ, List.forIn_cons]
    refine wpAny_bind (wpAny_mono (turn i h (by omega) hd ha) (fun r s' hp => ?_) fun _ _ x => x)
    obtain ⟨rfl, h', rfl, hd', ha', hs⟩ := hp
    exact merge_turns turn n (i + 1) h' Q (by omega) hd' ha' fun h'' hd'' hs' => hQ h'' hd'' (hs.trans hs')

set_option maxHeartbeats 1000000 in
theorem wp_merge {w : World} {A : Around} {E : Value → Shared → Prop} {s : Shared} {d a : Addr} {acc more : List (Int × Value)} {Q : Unit → Shared → Prop} (hda : d ≠ a) (haS : (a == sysModules) = false) (hne : acc ≠ [])
    (hd : s.heap.DictOf (intKind pw w) d acc) (ha : s.heap.DictOf (intKind pw w) a more) (hsz : acc.length + more.length ≤ sizeLine) (hnd : ((acc ++ more).map (·.1)).Nodup)
    (hQ : ∀ h', h'.DictOf (intKind pw w) d (acc ++ more) → Heap.SameBut d s.heap h' → Q () { s with heap := h' }) :
    wpAny (model pw w) A (mergeMapping d (.ref a) false) Q E s := by
  obtain ⟨od, esd, epd, hod, hcd, hdd, hkd, hpd, hnd'⟩ := id hd
  obtain ⟨oa, esa, epa, hoa, hca, hda', hka, hpa, hna⟩ := id ha
  have hlen : more.length = esa.size := by rw [← hpa.length]; simp
  unfold mergeMapping
  refine wpAny_bind (wpAny_isInstance (T := "dict") ha.typeIs sub_dict ?_)
  rw [if_pos rfl]
  refine wpAny_bind (wpAny_specialOf (T := "dict") ha.typeIs PySem.F.slot_dict_iter.lookup ?_)
  refine wpAny_bind (wpAny_pure ?_)
  rw [show (some (Value.builtin "dict.__iter__") == some (Value.builtin "dict.__iter__")) = true by simp]
  dsimp only
  rw [if_neg (by rw [haS]; exact Bool.false_ne_true)]
  refine wpAny_bind (wpAny_dictEntries hod hdd ?_)
  rw [if_neg (by
    have e1 := hpd.length
    have e2 : esd.toList.length = esd.size := by simp
    have e3 : acc.length ≠ 0 := fun e => hne (List.length_eq_zero_iff.mp e)
    rw [Array.isEmpty_iff_size_eq_zero]
    omega)]
  refine wpAny_bind (wpAny_dictEntries hoa hda' ?_)
  refine wpAny_bind (wpAny_dictEpoch hoa hda' ?_)
  refine wpAny_bind ?_
  rw [List.range_eq_range', ← hlen]
  refine merge_turns (s := s) (acc := acc) (oa := oa) (fun i h hi hd' ha' => ?_) more.length 0 s.heap _ (by omega) (by simpa using hd) hoa fun h' hd' hs => wpAny_pure (hQ h' hd' hs)
  have hlt : i < esa.size := by omega
  obtain ⟨⟨k, v⟩, hkv⟩ : ∃ kv, more[i]? = some kv := ⟨_, List.getElem?_eq_getElem hi⟩
  obtain ⟨hkey, hval⟩ := hpa.get? (e := esa[i]) (by simp [hlt]) hkv
  obtain ⟨k', hkey', hhash⟩ := hka esa[i] (Array.getElem_mem hlt)
  have hkk : k' = k := (intKind pw w).inj _ _ _ hkey' hkey
  have htk : more.take (i + 1) = more.take i ++ [(k, v)] := by rw [List.take_add_one, hkv]; rfl
  have hfresh : k ∉ (acc ++ more.take i).map (·.1) := fun hmem => by
    have hn2 : ((acc ++ more.take (i + 1)).map (·.1)).Nodup := hnd.sublist (((List.Sublist.refl acc).append (List.take_sublist _ _)).map _)
    rw [htk, ← List.append_assoc, List.map_append] at hn2
    exact (List.nodup_append.mp hn2).2.2 k hmem k (by simp) rfl
  refine wpAny_bind (wpAny_dictEntries ha' hda' ?_)
  rw [Array.getElem?_eq_getElem hlt]
  dsimp only
  rw [hhash, hkk, hval, if_neg (by simp)]
  refine wpAny_bind (wpAny_holding (put_pairs (s := { s with heap := h }) hkey hd' hfresh (by rw [List.length_append, List.length_take]; omega) fun h₁ hd₁ hs₁ => ?_))
  have ha₁ : h₁.get? a = some oa := (hs₁.2 a (Ne.symm hda)).trans ha'
  refine wpAny_bind (wpAny_dictEpoch ha₁ hda' ?_)
  rw [if_neg (by simp)]
  exact wpAny_pure ⟨rfl, h₁, rfl, by rw [htk, ← List.append_assoc]; exact hd₁, ha₁, hs₁⟩
end Mine
end

section
set_option maxRecDepth 100000
open PySem PySem.W PyProof.Rows PySem.Calls
namespace Mine
/-! a dict display of many pairs int: str -/
inductive Vals : List (Int × Value) → List (Int × List Nat) → Prop
  | nil : Vals [] []
  | cons {k : Int} {v : List Nat} {t : Tok} {kvs : List (Int × Value)} {l : List (Int × List Nat)} : Vals kvs l → Vals ((k, .str (txt v) t) :: kvs) ((k, v) :: l)
theorem Vals.append : ∀ {a b : List (Int × Value)} {x y : List (Int × List Nat)}, Vals a x → Vals b y → Vals (a ++ b) (x ++ y)
  | _, _, _, _, .nil, h => h
  | _, _, _, _, .cons r, h => .cons (r.append h)
theorem Vals.keys : ∀ {a : List (Int × Value)} {x : List (Int × List Nat)}, Vals a x → a.map (·.1) = x.map (·.1)
  | _, _, .nil => rfl
  | _, _, .cons r => by rw [List.map_cons, List.map_cons, r.keys]
theorem Vals.len {a : List (Int × Value)} {x : List (Int × List Nat)} (h : Vals a x) : a.length = x.length := by
  have := congrArg List.length h.keys
  simpa using this

/-- a pair of trees that gives k: v -/
structure Gives (w : World) (p : Sem Value × Sem Value) (kv : Int × List Nat) : Prop where
  key : ∀ {A : Around} {E : Value → Shared → Prop} {s : Shared} {Q : Value → Shared → Prop}, (∀ t tk, Q (.int kv.1 t) { s with toks := tk }) → wpAny (model pw w) A p.1 Q E s
  val : ∀ {A : Around} {E : Value → Shared → Prop} {s : Shared} {Q : Value → Shared → Prop}, (∀ t tk, Q (.str (txt kv.2) t) { s with toks := tk }) → wpAny (model pw w) A p.2 Q E s
inductive Trees (w : World) : List (Sem Value × Sem Value) → List (Int × List Nat) → Prop
  | nil : Trees w [] []
  | cons {p : Sem Value × Sem Value} {kv : Int × List Nat} {ps : List (Sem Value × Sem Value)} {l : List (Int × List Nat)} : Gives w p kv → Trees w ps l → Trees w (p :: ps) (kv :: l)
theorem Trees.len {w : World} : ∀ {a : List (Sem Value × Sem Value)} {x : List (Int × List Nat)}, Trees w a x → a.length = x.length
  | _, _, .nil => rfl
  | _, _, .cons _ r => by simp [r.len]
theorem Trees.append {w : World} : ∀ {a b : List (Sem Value × Sem Value)} {x y : List (Int × List Nat)}, Trees w a x → Trees w b y → Trees w (a ++ b) (x ++ y)
  | _, _, _, _, .nil, h => h
  | _, _, _, _, .cons g r, h => .cons g (r.append h)

section
variable {w : World} {A : Around} {E : Value → Shared → Prop}
theorem set_fresh {s : Shared} {d : Addr} {kvs : List (Int × Value)} {k : Int} {t : Tok} {v : Value} {Q : Unit → Shared → Prop} (hm : s.heap.DictOf (intKind pw w) d kvs) (hnew : k ∉ kvs.map (·.1)) (hsz : kvs.length ≤ sizeLine)
    (hQ : ∀ h' tk, h'.DictOf (intKind pw w) d (kvs ++ [(k, v)]) → Heap.SameBut d s.heap h' → Q () { s with heap := h', toks := tk }) : wpAny (model pw w) A (dictSet d (.int k t) v) Q E s := by
  refine wpAny_dictSet_pairs (knd := intKind pw w) (k := k) (hsz := hsz) (by simp [intKind, Value.isInt]) hm fun h' hm' hs' => ?_
  have e : stored kvs k v = kvs ++ [(k, v)] := by
    unfold stored
    rw [if_neg]
    rw [List.any_eq_true]; rintro ⟨x, hx, he⟩
    exact hnew (List.mem_map.mpr ⟨x, hx, of_decide_eq_true he⟩)
  exact hQ h' _ (e ▸ hm') hs'

theorem long_loop {d : Addr} : ∀ {ps : List (Sem Value × Sem Value)} {l acc' : List (Int × List Nat)} {acc : List (Int × Value)} {s : Shared} {Q : PUnit → Shared → Prop} {f : Sem Value × Sem Value → PUnit → Sem (ForInStep PUnit)},
    (∀ p, f p PUnit.unit = (do let kv ← p.1; let vv ← holding [kv] p.2; holding [kv, vv] (dictSet d kv vv); pure (ForInStep.yield PUnit.unit))) →
    Trees w ps l → s.heap.DictOf (intKind pw w) d acc → Vals acc acc' → ((acc' ++ l).map (·.1)).Nodup → (acc' ++ l).length ≤ sizeLine →
    (∀ h' tk kvs, h'.DictOf (intKind pw w) d kvs → Vals kvs (acc' ++ l) → Heap.SameBut d s.heap h' → Q PUnit.unit { s with heap := h', toks := tk }) →
    wpAny (model pw w) A (forIn ps PUnit.unit f) Q E s
  | _, _, acc', acc, s, Q, f, _, .nil, hm, hv, _, _, hQ => by
    rw [List.forIn_nil]
    exact wpAny_pure (hQ s.heap s.toks acc hm (by simpa using hv) (Heap.SameBut.refl _ _))
  | _, _, acc', acc, s, Q, f, hf, .cons (p := p) (kv := kv) (ps := ps) (l := l) g r, hm, hv, hn, hl, hQ => by
    have e : acc' ++ kv :: l = (acc' ++ [kv]) ++ l := by simp
    have hnew : kv.1 ∉ acc.map (·.1) := by
      rw [hv.keys]
      rw [List.map_append, List.map_cons, List.nodup_append] at hn
      intro hmem
      exact hn.2.2 kv.1 hmem kv.1 (by simp) rfl
    rw [List.forIn_cons, hf]
    refine wpAny_bind (wpAny_bind (g.key fun t tk => wpAny_bind (wpAny_holding (g.val fun u tk' => wpAny_bind (wpAny_holding (set_fresh (s := Sh s s.heap tk') hm hnew ?_ fun h₁ tk₁ hm₁ hs₁ => wpAny_pure ?_))))))
    · rw [hv.len]; rw [List.length_append] at hl; omega
    · refine long_loop (s := Sh s h₁ tk₁) hf r hm₁ (hv.append (.cons (k := kv.1) (v := kv.2) .nil)) (e ▸ hn) (e ▸ hl) fun h' tk₂ kvs hm' hv' hs' => ?_
      exact hQ h' tk₂ kvs hm' (by rw [e]; exact hv') (hs₁.trans hs')

theorem eval_pairs : ∀ {ps : List (Sem Value × Sem Value)} {l : List (Int × List Nat)} {s : Shared} {Q : List (Value × Value) → Shared → Prop}, Trees w ps l →
    (∀ vs kvs tk, Carries (intKind pw w) vs kvs → Vals kvs l → Q vs { s with toks := tk }) → wpAny (model pw w) A (evalPairs ps) Q E s
  | _, _, s, _, .nil, h => evalPairs_nil (h [] [] s.toks trivial .nil)
  | _, _, _, _, .cons (p := (a, b)) (kv := (k, v)) g r, h => evalPairs_cons (g.key fun t tk => g.val fun u tk' => eval_pairs r fun vs kvs tk'' hc hv => h _ ((k, .str (txt v) u) :: kvs) _ ⟨by simp [intKind, Value.isInt], rfl, hc⟩ (.cons hv))

theorem new_dict (h : Heap) : (h.push { cls := .type "dict", data := .dict #[] }).DictOf (intKind pw w) h.objs.size [] := Heap.DictOf.new h
theorem keeps_sameBut {h h' : Heap} {o : Obj} (hs : Heap.SameBut h.objs.size (h.push o) h') : Keeps h h' := fun b _ e => (hs.2 b (Nat.ne_of_lt (Heap.lt_size e))).trans (Heap.get?_push_of_some _ e)

theorem wp_sub {ps : List (Sem Value × Sem Value)} {l : List (Int × List Nat)} {s : Shared} {Q : Addr → Shared → Prop} (ht : Trees w ps l) (hn : (l.map (·.1)).Nodup) (hl : l.length ≤ sizeLine)
    (hQ : ∀ h' tk kvs, h'.DictOf (intKind pw w) s.heap.objs.size kvs → Vals kvs l → Keeps s.heap h' → Q s.heap.objs.size (Sh s h' tk)) : wpAny (model pw w) A (subDict ps) Q E s := by
  by_cases h15 : ps.length ≤ 15
  · refine wpAny_subDict (knd := intKind pw w) h15 (eval_pairs ht fun vs kvs tk hc hv => ⟨kvs, hc, new_dict _, fun h' hm hs => ?_⟩)
    rw [merged_nil_of_nodup _ (by rw [hv.keys]; exact hn)] at hm
    exact hQ h' _ kvs hm hv (keeps_sameBut hs)
  · unfold subDict
    refine wpAny_bind (wpAny_alloc (wpAny_bind (wpAny_holding ?_)))
    rw [if_neg h15]
    refine wpAny_bind (wpAny_rule ?_)
    refine wpAny_bind (long_loop (d := s.heap.objs.size) (acc' := []) (fun p => rfl) ht (new_dict _) .nil (by simpa using hn) (by simpa using hl) fun h' tk kvs hm hv hs => ?_)
    exact wpAny_pure (wpAny_pure (hQ h' tk kvs hm (by simpa using hv) (keeps_sameBut hs)))
end
end Mine
end

section
set_option maxRecDepth 100000
open PySem PySem.W PyProof.Rows PySem.Calls
namespace Mine
/-- between the chunks: the dict so far -/
def SoFar (w : World) (h₀ : Heap) (main : Option Addr) (ld : List (Int × List Nat)) (h : Heap) : Prop :=
  Keeps h₀ h ∧ h₀.objs.size ≤ h.objs.size ∧ match main with
    | none => ld = []
    | some d => h₀.objs.size ≤ d ∧ ld ≠ [] ∧ ∃ kvs, h.DictOf (intKind pw w) d kvs ∧ Vals kvs ld

section
variable {w : World} {A : Around} {E : Value → Shared → Prop}
theorem first_chunk {h₀ : Heap} {run : List (Sem Value × Sem Value)} {lr : List (Int × List Nat)} {s : Shared} {Q : Addr → Shared → Prop} (hk : SoFar w h₀ none [] s.heap) (ht : Trees w run lr) (hne : lr ≠ []) (hn : (lr.map (·.1)).Nodup) (hl : lr.length ≤ sizeLine)
    (hQ : ∀ d h' tk, SoFar w h₀ (some d) lr h' → Q d (Sh s h' tk)) : wpAny (model pw w) A (subDict run) Q E s := by
  refine wp_sub ht hn hl fun h' tk kvs hm hv hk' => hQ _ h' tk ⟨fun b o e => hk' b o (hk.1 b o e), ?_, hk.2.1, hne, kvs, hm, hv⟩
  obtain ⟨o, _, _, e, _⟩ := hm
  exact Nat.le_trans hk.2.1 (Nat.le_of_lt (Heap.lt_size e))

theorem next_chunk {h₀ : Heap} {run : List (Sem Value × Sem Value)} {ld lr : List (Int × List Nat)} {d : Addr} {s : Shared} {K : Value → Sem Unit} {Q : Option Addr → Shared → Prop} (hk : SoFar w h₀ (some d) ld s.heap) (ht : Trees w run lr) (hn : ((ld ++ lr).map (·.1)).Nodup) (hl : (ld ++ lr).length ≤ sizeLine)
    (hmod : sysModules < h₀.objs.size) (hQ : ∀ h' tk, SoFar w h₀ (some d) (ld ++ lr) h' → Q (some d) (Sh s h' tk)) :
    wpAny (model pw w) A (do
      let sub ← holding [.ref d] (subDict run)
      (holding [.ref d, .ref sub] (mergeMapping d (.ref sub) false)).onRaise K
      pure (some d)) Q E s := by
  obtain ⟨k1, k2, k3, k4, kvs, k5, k6⟩ := hk
  have hn2 : (lr.map (·.1)).Nodup := by rw [List.map_append, List.nodup_append] at hn; exact hn.2.1
  have hdl : d < s.heap.objs.size := by obtain ⟨o, _, _, e, _⟩ := k5; exact Heap.lt_size e
  refine wpAny_bind (wpAny_holding (wp_sub ht hn2 (by rw [List.length_append] at hl; omega) fun h' tk more hm hv hk' => ?_))
  have k5' : h'.DictOf (intKind pw w) d kvs := by
    obtain ⟨o, es, ep, e, r⟩ := k5
    exact ⟨o, es, ep, hk' _ _ e, r⟩
  refine wpAny_bind (wpAny_onRaise (wpAny_holding (wp_merge (s := Sh s h' tk) (Nat.ne_of_lt hdl) (beq_eq_false_iff_ne.mpr (Nat.ne_of_gt (Nat.lt_of_lt_of_le hmod k2))) (fun e => ?_) k5' hm ?_ ?_ fun h'' hm' hs => wpAny_pure ?_)))
  · subst e
    cases k6
    exact k4 rfl
  · rw [k6.len, hv.len]; rw [List.length_append] at hl; exact hl
  · rw [List.map_append, k6.keys, hv.keys, ← List.map_append]; exact hn
  · refine hQ h'' tk ⟨fun b o e => ?_, ?_, k3, by simp [k4], _, hm', k6.append hv⟩
    · exact (hs.2 b (Nat.ne_of_lt (Nat.lt_of_lt_of_le (Heap.lt_size e) k3))).trans (hk' b o (k1 b o e))
    · rw [hs.1]
      obtain ⟨o, _, _, e, _⟩ := hm
      exact Nat.le_trans k2 (Nat.le_of_lt (Heap.lt_size e))

theorem gather {h₀ : Heap} {f : Option (Sem Value) × Sem Value → Option Addr × List (Sem Value × Sem Value) → Sem (ForInStep (Option Addr × List (Sem Value × Sem Value)))}
    (hf1 : ∀ (p : Sem Value × Sem Value) main run, (run ++ [p]).length ≠ 17 → f (some p.1, p.2) (main, run) = pure (.yield (main, run ++ [p])))
    (hf2 : ∀ (p : Sem Value × Sem Value) main run lr ld (s : Shared) (Q : ForInStep (Option Addr × List (Sem Value × Sem Value)) → Shared → Prop), (run ++ [p]).length = 17 → Trees w (run ++ [p]) lr → SoFar w h₀ main ld s.heap → ((ld ++ lr).map (·.1)).Nodup → (ld ++ lr).length ≤ sizeLine →
      (∀ d h' tk, SoFar w h₀ (some d) (ld ++ lr) h' → Q (.yield (some d, [])) (Sh s h' tk)) → wpAny (model pw w) A (f (some p.1, p.2) (main, run)) Q E s) :
    ∀ {rest : List (Sem Value × Sem Value)} {lrest lr ld : List (Int × List Nat)} {main : Option Addr} {run : List (Sem Value × Sem Value)} {s : Shared} {Q : Option Addr × List (Sem Value × Sem Value) → Shared → Prop}, Trees w rest lrest → Trees w run lr → run.length < 17 →
      SoFar w h₀ main ld s.heap → ((ld ++ (lr ++ lrest)).map (·.1)).Nodup → (ld ++ (lr ++ lrest)).length ≤ sizeLine →
      (∀ main' run' ld' lr' h' tk, Trees w run' lr' → SoFar w h₀ main' ld' h' → ld' ++ lr' = ld ++ (lr ++ lrest) → Q (main', run') (Sh s h' tk)) →
      wpAny (model pw w) A (forIn (rest.map fun p => (some p.1, p.2)) (main, run) f) Q E s
  | _, _, lr, ld, main, run, s, Q, .nil, hr, hl, hS, _, _, hQ => by
    rw [List.map_nil, List.forIn_nil]
    exact wpAny_pure (hQ main run ld lr s.heap s.toks hr hS (by simp))
  | _, _, lr, ld, main, run, s, Q, .cons (p := p) (kv := kv) (ps := ps) (l := l) g r, hr, hl, hS, hn, hz, hQ => by
    have e : lr ++ kv :: l = (lr ++ [kv]) ++ l := by simp
    have hr' : Trees w (run ++ [p]) (lr ++ [kv]) := hr.append (.cons g .nil)
    rw [List.map_cons, List.forIn_cons]
    by_cases h17 : (run ++ [p]).length = 17
    · have e2 : ld ++ (lr ++ kv :: l) = (ld ++ (lr ++ [kv])) ++ ([] ++ l) := by simp
      refine wpAny_bind (hf2 p main run _ ld s _ h17 hr' hS ?_ ?_ fun d h' tk hS' => ?_)
      · rw [e2, List.map_append, List.nodup_append] at hn; exact hn.1
      · rw [e2, List.length_append] at hz; omega
      · dsimp only
        refine gather hf1 hf2 (s := Sh s h' tk) r .nil (by simp) hS' (e2 ▸ hn) (e2 ▸ hz) fun main' run' ld' lr' h'' tk' a b c => ?_
        exact hQ main' run' ld' lr' h'' tk' a b (by rw [c, e2])
    · rw [hf1 p main run h17]
      refine wpAny_bind (wpAny_pure ?_)
      refine gather hf1 hf2 r hr' (by simp at h17 ⊢; omega) hS (by rw [← e]; exact hn) (by rw [← e]; exact hz) fun main' run' ld' lr' h'' tk' a b c => ?_
      exact hQ main' run' ld' lr' h'' tk' a b (by rw [c, e])

set_option maxHeartbeats 1000000 in
theorem display {ps : List (Sem Value × Sem Value)} {l : List (Int × List Nat)} {s : Shared} {Q : Value → Shared → Prop} (ht : Trees w ps l) (hne : l ≠ []) (hn : (l.map (·.1)).Nodup) (hl : l.length ≤ sizeLine) (hmod : sysModules < s.heap.objs.size)
    (hQ : ∀ d h' tk kvs, s.heap.objs.size ≤ d → Keeps s.heap h' → h'.DictOf (intKind pw w) d kvs → Vals kvs l → Q (.ref d) (Sh s h' tk)) :
    wpAny (model pw w) A (dictDisplay (ps.map fun p => (some p.1, p.2))) Q E s := by
  unfold dictDisplay
  dsimp only
  refine wpAny_bind (gather (h₀ := s.heap) (lr := []) (ld := []) ?_ ?_ ht .nil (by simp) ⟨fun _ _ e => e, Nat.le_refl _, rfl⟩ (by simpa using hn) (by simpa using hl) fun main' run' ld' lr' h' tk a b c => ?_)
  · intro p main run h
    have h17 : ((run ++ [(p.1, p.2)]).length == 17) = false := beq_eq_false_iff_ne.mpr h
    simp only [h17, Bool.false_eq_true, if_false]
  · intro p main run lr ld s₁ Q' h17 hr hS hn' hl' hQ'
    have h17' : ((run ++ [(p.1, p.2)]).length == 17) = true := beq_iff_eq.mpr h17
    simp only [h17', if_true]
    have hne' : (run ++ [(p.1, p.2)]).isEmpty = false := by simp
    rw [if_neg (by rw [hne']; exact Bool.false_ne_true)]
    refine wpAny_bind ?_
    cases main with
    | none =>
      have hld : ld = [] := hS.2.2
      subst hld
      have hlr : lr ≠ [] := fun e => by subst e; have := hr.len; simp at this
      exact wpAny_bind (first_chunk hS hr hlr (by simpa using hn') (by simpa using hl') fun d h' tk hS' => wpAny_pure (wpAny_pure (hQ' d h' tk (by simpa using hS'))))
    | some d => exact next_chunk hS hr hn' hl' hmod fun h' tk hS' => wpAny_pure (hQ' d h' tk hS')
  · have c' : ld' ++ lr' = l := by simpa using c
    have fin : ∀ d h'' tk', SoFar w s.heap (some d) l h'' → Q (.ref d) (Sh s h'' tk') := fun d h'' tk' hS' => by
      obtain ⟨k1, _, k3, _, kvs, k5, k6⟩ := hS'
      exact hQ d h'' tk' kvs k3 k1 k5 k6
    dsimp only
    refine wpAny_bind ?_
    cases hr : run' with
    | nil =>
      subst hr
      have : lr' = [] := by cases a; rfl
      subst this
      have c2 : ld' = l := by simpa using c'
      subst c2
      rw [if_pos (show ([] : List (Sem Value × Sem Value)).isEmpty = true from rfl)]
      cases main' with
      | none => exact absurd b.2.2 hne
      | some d => exact wpAny_pure (wpAny_pure (fin d h' tk b))
    | cons q qs =>
      rw [hr] at a
      rw [if_neg (by simp)]
      have hn' : ((ld' ++ lr').map (·.1)).Nodup := by rw [c']; exact hn
      have hl' : (ld' ++ lr').length ≤ sizeLine := by rw [c']; exact hl
      cases main' with
      | none =>
        have hld : ld' = [] := b.2.2
        subst hld
        have hlr : lr' ≠ [] := fun e => by subst e; exact hne (by simpa using c'.symm)
        have e2 : lr' = l := by simpa using c'
        exact wpAny_bind (first_chunk b a hlr (by simpa using hn') (by simpa using hl') fun d h'' tk' hS' => wpAny_pure (wpAny_pure (fin d h'' tk' (e2 ▸ hS'))))
      | some d => exact next_chunk b a hn' hl' hmod fun h'' tk' hS' => wpAny_pure (fin d h'' tk' (c' ▸ hS'))
end
end Mine
end

section
set_option maxRecDepth 100000
open PySem PySem.W PyProof.Rows PySem.Calls
namespace Mine
def allConst : List (Option Expr) → List Expr → Bool
  | some (.Constant (.int _) _ _) :: ks, .Constant (.str _) _ _ :: vs => allConst ks vs
  | [], [] => true
  | _, _ => false
def pairsOf : List (Option Expr) → List Expr → List (Int × List Nat)
  | some (.Constant (.int k) _ _) :: ks, .Constant (.str v) _ _ :: vs => (k, v.cps.toList) :: pairsOf ks vs
  | _, _ => []
theorem txt_cps (v : Str) : txt v.cps.toList = v := by cases v; simp [txt]
theorem trees_of {w : World} {env : Env} {pos : Pos} : ∀ {ks : List (Option Expr)} {vs : List Expr}, allConst ks vs = true → Trees w (pairTrees ks vs env pos) (pairsOf ks vs) ∧ ks.all (·.isSome) = true ∧ ks.length = vs.length
  | [], [], _ => ⟨.nil, rfl, rfl⟩
  | some (.Constant (.int k) k1 p1) :: ks, .Constant (.str v) k2 p2 :: vs, h => by
    obtain ⟨a, b, c⟩ := trees_of (w := w) (env := env) (pos := pos) (ks := ks) (vs := vs) h
    have g : Gives w (eval (.Constant (.int k) k1 p1) env, do let x ← eval (.Constant (.str v) k2 p2) env; standAt pos; pure x) (k, v.cps.toList) := by
      constructor
      · intro A E s Q h
        show wpAny _ _ (eval (.Constant (.int k) k1 p1) env) _ _ _
        exact wpAny_Constant_int (h _ _)
      · intro A E s Q h
        show wpAny _ _ (do let x ← eval (.Constant (.str v) k2 p2) env; standAt pos; pure x) _ _ _
        refine wpAny_bind (Constant_str (wpAny_bind (wpAny_standAt (wpAny_pure ?_))))
        have := h
        dsimp only at this
        rw [txt_cps v] at this
        exact this _ _
    exact ⟨.cons g a, by simpa using b, by simpa using c⟩

def ascend : Int → List (Int × List Nat) → Bool
  | _, [] => true
  | b, kv :: l => decide (b < kv.1) && ascend kv.1 l
theorem ascend_lt : ∀ {b : Int} {l : List (Int × List Nat)}, ascend b l = true → ∀ k ∈ l.map (·.1), b < k
  | _, [], _, k, hk => by simp at hk
  | b, kv :: l, h, k, hk => by
    simp only [ascend, Bool.and_eq_true, decide_eq_true_eq] at h
    rcases List.mem_cons.mp hk with rfl | hk
    · exact h.1
    · exact Int.lt_trans h.1 (ascend_lt h.2 k hk)
theorem ascend_nodup : ∀ {b : Int} {l : List (Int × List Nat)}, ascend b l = true → (l.map (·.1)).Nodup
  | _, [], _ => List.nodup_nil
  | b, kv :: l, h => by
    simp only [ascend, Bool.and_eq_true, decide_eq_true_eq] at h
    rw [List.map_cons, List.nodup_cons]
    exact ⟨fun hm => Int.lt_irrefl _ (ascend_lt h.2 _ hm), ascend_nodup h.2⟩

def lookP : List (Int × List Nat) → Int → Option (List Nat)
  | [], _ => none
  | kv :: l, k => if kv.1 = k then some kv.2 else lookP l k
theorem vals_at : ∀ {kvs : List (Int × Value)} {l : List (Int × List Nat)}, Vals kvs l → ∀ k : Int, (lookP l k = none → valueAt kvs k = none) ∧ ∀ v, lookP l k = some v → ∃ t, valueAt kvs k = some (.str (txt v) t)
  | _, _, .nil, k => ⟨fun _ => rfl, fun v h => by simp [lookP] at h⟩
  | _, _, .cons (k := k') (v := v') (t := t) r, k => by
    have ih := vals_at r k
    unfold lookP valueAt
    by_cases h : k' = k
    · subst h
      rw [if_pos rfl, List.find?_cons_of_pos (by simp)]
      exact ⟨fun e => (nomatch e), fun v e => by cases e; exact ⟨t, rfl⟩⟩
    · rw [if_neg h, List.find?_cons_of_neg (by simpa using h)]
      exact ih

def dictKeys : List (Option Expr) := match pw.main.body[(11 : Nat)]? with | some (.Assign _ (.Dict ks _ _) _) => ks | _ => []
def dictVals : List Expr := match pw.main.body[(11 : Nat)]? with | some (.Assign _ (.Dict _ vs _) _) => vs | _ => []
def dictOk (ks : List (Option Expr)) (vs : List Expr) : Bool :=
  allConst ks vs && ascend 0 (pairsOf ks vs) && Nat.beq (pairsOf ks vs).length 650 && decide (lookP (pairsOf ks vs) 223 = some [115, 115]) && decide (lookP (pairsOf ks vs) 13255 = some [99, 111, 46]) &&
    alphabet.all fun c => c == 223 || c == 13255 || decide (lookP (pairsOf ks vs) (c : Int) = none)
theorem dictOk_parts {ks : List (Option Expr)} {vs : List Expr} (h : dictOk ks vs = true) : allConst ks vs = true ∧ ascend 0 (pairsOf ks vs) = true ∧ (pairsOf ks vs).length = 650 ∧ lookP (pairsOf ks vs) 223 = some [115, 115] ∧
    lookP (pairsOf ks vs) 13255 = some [99, 111, 46] ∧ ∀ c ∈ alphabet, c ≠ 223 → c ≠ 13255 → lookP (pairsOf ks vs) (c : Int) = none := by
  unfold dictOk at h
  simp only [Bool.and_eq_true, decide_eq_true_eq, Nat.beq_eq_true_eq] at h
  obtain ⟨⟨⟨⟨⟨h1, h2⟩, h3⟩, h4⟩, h5⟩, h6⟩ := h
  refine ⟨h1, h2, Nat.eq_of_beq_eq_true h3, h4, h5, fun c hc n1 n2 => ?_⟩
  have := List.all_eq_true.mp h6 c hc
  simpa [n1, n2] using this
set_option maxHeartbeats 0 in
theorem dict_ok : dictOk dictKeys dictVals = true := by decide +kernel
def topSt (i : Nat) : Stmt := match pw.main.body[i]? with | some st => st | none => .Pass default
def dPos (k : Nat) : Pos := match pw.main.body[(11 : Nat)]? with | some (.Assign [.Name _ p1] (.Dict _ _ p2) p3) => (if k = 0 then p1 else if k = 1 then p2 else p3) | _ => default
theorem topSt_11 : topSt 11 = .Assign [.Name (Str.ofString "b3_exceptions") (dPos 0)] (.Dict dictKeys dictVals (dPos 1)) (dPos 2) := by kernel_rfl
theorem dict_some : ∃ ks vs p1 p2 p3, topSt 11 = .Assign [.Name (Str.ofString "b3_exceptions") p1] (.Dict ks vs p2) p3 ∧ dictOk ks vs = true := ⟨dictKeys, dictVals, dPos 0, dPos 1, dPos 2, topSt_11, dict_ok⟩
theorem body_eq : W.behindTheImports pw = [topSt 1, topSt 2, topSt 3, topSt 4, topSt 5, topSt 6, topSt 7, topSt 8, topSt 9, topSt 10, topSt 11, topSt 12, topSt 13, topSt 14, topSt 15, topSt 16] := by kernel_rfl
end Mine
end

section
set_option maxRecDepth 100000
open PySem PySem.W PyProof.Rows PySem.Calls
namespace Mine
def B3At (w : World) (h : Heap) (a : Addr) : Prop := ∃ f, (a == sysModules) = false ∧ h.MapOf (intKind pw w) a f ∧ (∃ t, f 223 = some (.str (txt [115, 115]) t)) ∧ (∃ t, f 13255 = some (.str (txt [99, 111, 46]) t)) ∧
    ∀ c ∈ alphabet, c ≠ 223 → c ≠ 13255 → f (c : Int) = none

set_option maxHeartbeats 1000000 in
theorem dict_stmt {w : World} {A : Around} {E : Value → Shared → Prop} {s : Shared} {c Pl F : Addr} {n : Nat} {mg : Str → Option Value} {p1 p2 p3 : Pos} {ks : List (Option Expr)} {vs : List Expr}
    {Q : Flow → Shared → Prop} (hok : dictOk ks vs = true) (X : HS c Pl n s.heap mg) (hsz : sysModules < s.heap.objs.size)
    (h : ∀ a h' tk, HS c Pl n h' (fun y => if y = Str.ofString "b3_exceptions" then some (.ref a) else mg y) → KB Pl s.heap h' → Fut Pl h' (fun h => B3At w h a) → Q .next (Sh s h' tk)) :
    wpAny (model pw w) A (exec (.Assign [.Name (Str.ofString "b3_exceptions") p1] (.Dict ks vs p2) p3) (mainEnv pw c F)) Q E s := by
  have hpl := X.pl
  have hg : mainGlobals < s.heap.objs.size := X.g.lt
  obtain ⟨hc, ha, hln, l1, l2, l3⟩ := dictOk_parts hok
  obtain ⟨ht, hall, hlen⟩ := trees_of (w := w) (env := mainEnv pw c F) (pos := p2) hc
  refine wpAny_Assign_Name ?_
  rw [arm_eval_Dict, zip_pairTrees _ _ _ _ hall hlen]
  refine wpAny_bind (wpAny_standAt ?_)
  refine display ht (fun e => by rw [e] at hln; simp at hln) (ascend_nodup ha) (by rw [hln, sizeLine_eq]; decide) hsz fun d h₁ tk kvs hd k₁ hm hv => ?_
  refine stT (s := Sh s h₁ tk) (X.keeps k₁) (fun h' X' k' => ?_) rfl (by decide)
  refine h d h' _ X' ((KB.of k₁).trans k') fun h'' k'' => ?_
  have hm'' : h''.DictOf (intKind pw w) d kvs := by
    obtain ⟨o, es, ep, e, r⟩ := hm
    exact ⟨o, es, ep, (k'.trans k'') _ _ (Nat.ne_of_gt (Nat.lt_of_lt_of_le hpl hd)) (Nat.ne_of_gt (Nat.lt_of_lt_of_le hg hd)) e, r⟩
  exact ⟨valueAt kvs, beq_eq_false_iff_ne.mpr (Nat.ne_of_gt (Nat.lt_of_lt_of_le hsz hd)), hm''.mapOf, (vals_at hv 223).2 _ l1, (vals_at hv 13255).2 _ l2, fun c hc h1 h2 => (vals_at hv c).1 (l3 c hc h1 h2)⟩

/-- assignments of a written text -/
theorem text_stmt {w : World} {A : Around} {E : Value → Shared → Prop} {s : Shared} {c Pl F : Addr} {n k : Nat} {mg : Str → Option Value} {nm x : Str} {p1 p2 p3 : Pos}
    {Q : Flow → Shared → Prop} (X : HS c Pl n s.heap mg) (hl : (mainEnv pw c F).kindOf nm = some .local) (hb : nm ≠ "__builtins__")
    (h : ∀ t h' tk, HS c Pl n h' (fun y => if y = nm then some (.str x t) else mg y) → KB Pl s.heap h' → Q .next (Sh s h' tk)) :
    wpAny (model pw w) A (exec (.Assign [.Name nm p1] (.Constant (.str x) k p2) p3) (mainEnv pw c F)) Q E s := by
  refine wpAny_Assign_Name (Constant_str ?_)
  refine stT (s := Sh s s.heap _) X (fun h' X' k' => h _ h' _ X' k') hl hb

/-- what the opening leaves, and what holds till the end -/
structure Opened (h : Heap) (mg mb md : Str → Option Value) : Prop where
  b : h.Ns builtinsNs mb
  len : mb (Str.ofString "len") = some (.builtin "len")
  ord : mb (Str.ofString "ord") = some (.builtin "ord")
  range : mb (Str.ofString "range") = some (.type "range")
  set : mb (Str.ofString "set") = some (.type "set")
  list : mb (Str.ofString "list") = some (.type "list")
  no : ∀ x ∈ [Str.ofString "len", Str.ofString "ord", Str.ofString "range", Str.ofString "set", Str.ofString "list"], mg x = none
  sre : mg (Str.ofString "_sre") = some (.ref 12)
  mod : Flt.IsCMod h 12 11 md
  comp : md (Str.ofString "compile") = some (.builtin "_sre.compile")
  lim : h.NoLimit
theorem Opened.on {h h' : Heap} {mg mb md : Str → Option Value} {Pl : Addr} (x : Opened h mg mb md) (hp : 28 ≤ Pl) (k : KB Pl h h') : Opened h' mg mb md := by
  have k2 : ∀ b : Nat, b < 28 → b ≠ 3 → ∀ o, h.get? b = some o → h'.get? b = some o := fun b h1 h2 o e => k b o (Nat.ne_of_lt (Nat.lt_of_lt_of_le h1 hp)) h2 e
  obtain ⟨m1, o, es, ep, e, r⟩ := x.mod
  obtain ⟨mc, ⟨o', es', ep', e', r'⟩, l⟩ := x.lim
  obtain ⟨ob, esb, epb, eb, rb⟩ := x.b
  exact ⟨⟨ob, esb, epb, k2 _ (by decide) (by decide) _ eb, rb⟩, x.len, x.ord, x.range, x.set, x.list, x.no, x.sre, ⟨k2 _ (by decide) (by decide) _ m1, o, es, ep, k2 _ (by decide) (by decide) _ e, r⟩, x.comp,
    ⟨mc, ⟨o', es', ep', k2 _ (by decide) (by decide) _ e', r'⟩, l⟩⟩
end Mine
end

section
set_option maxRecDepth 100000
open PySem PySem.W PyProof.Rows PySem.Calls
namespace Mine
theorem ite_ne {p : Prop} [Decidable p] {x y z : Option Value} (e : y = z) (h : ¬ p := by decide +kernel) : (if p then x else y) = z := (if_neg h).trans e
theorem ite_eq {p : Prop} [Decidable p] {x y z : Option Value} (e : x = z) (h : p := by decide +kernel) : (if p then x else y) = z := (if_pos h).trans e
def tops : List Str := [Str.ofString "__name__", Str.ofString "_strip_exception_details", Str.ofString "_twin_re_1", Str.ofString "_twin_re_2", Str.ofString "CRLF", Str.ofString "quotedata", Str.ofString "b1_set", Str.ofString "in_table_b1", Str.ofString "b3_exceptions", Str.ofString "map_table_b3", Str.ofString "_law_folded", Str.ofString "_law_told", Str.ofString "law"]
def codeDotL : List Nat := [14, 4, 0, 1, 1, 6, 1, 16, 46, 1]
def codeLineL : List Nat := codeLine.toList
/-- the end of the top -/
structure Ended (w : World) (c Pl : Addr) (mg mb : Str → Option Value) (h₀ h : Heap) (mg' : Str → Option Value) : Prop where
  hs : HS c Pl 1000 h mg'
  kb : KB Pl h₀ h
  law : LawAt w mg' mb h
  fn : DefIn mg' h (Str.ofString "law") 16
  other : ∀ y, y ∉ tops → mg' y = mg y

set_option maxHeartbeats 4000000 in
theorem head_body {w : World} {A : Around} {E : Value → Shared → Prop} {s : Shared} {c Pl F : Addr} {mg mb md : Str → Option Value} (hh : A.handled = none) (X : HS c Pl 0 s.heap mg) (O : Opened s.heap mg mb md) (hp : 28 ≤ Pl) :
    wpAny (model pw w) A (execs (behindTheImports pw) (mainEnv pw c F)) (fun f s' => f = .next ∧ ∃ h' tk mg', s' = Sh s h' tk ∧ Ended w c Pl mg mb s.heap h' mg') E s := by
  have zz : ∀ {h : Heap}, Opened h mg mb md → sysModules < h.objs.size := fun {h} o => by
    obtain ⟨m1, _⟩ := o.mod
    exact Nat.lt_trans (show sysModules < 12 by decide) (Heap.lt_size m1)
  rw [body_eq]
  obtain ⟨h0, eh0⟩ : ∃ h, h = s.heap := ⟨_, rfl⟩
  obtain ⟨tk0, et0⟩ : ∃ t, t = s.toks := ⟨_, rfl⟩
  have es : s = Sh s h0 tk0 := by rw [eh0, et0]
  have X0 : HS c Pl 0 h0 mg := eh0 ▸ X
  have O0 : Opened h0 mg mb md := eh0 ▸ O
  rw [es]
  refine wpAny_execs_cons ?_
  refine text_stmt (s := Sh s h0 tk0) X0 rfl (by decide +kernel) fun t1 h1 tk1 X1 k1 => ?_
  have O1 := O0.on hp k1
  refine wpAny_execs_cons ?_
  refine def_stmt (s := Sh s h1 tk1) (i := 2) X1 rfl plain2 (by decide +kernel) fun a2 h2 tk2 X2 k2 f2 => ?_
  have O2 := O1.on hp k2
  refine wpAny_execs_cons ?_
  refine text_stmt (s := Sh s h2 tk2) X2 rfl (by decide +kernel) fun t3 h3 tk3 X3 k3 => ?_
  have O3 := O2.on hp k3
  refine wpAny_execs_cons ?_
  refine regex_stmt (s := Sh s h3 tk3) (code := codeDotL) X3 (ite_ne (ite_ne (ite_ne (O.sre)))) O3.mod O3.comp (.cons (.cons (.cons (.cons (.cons (.cons (.cons (.cons (.cons (.cons .nil)))))))))) (by decide +kernel) (by decide +kernel) (by decide) (by decide +kernel) (zz O3) rfl (by decide +kernel) (fun a4 h4 tk4 X4 k4 f4 => ?_) rfl
  have O4 := O3.on hp k4
  refine wpAny_execs_cons ?_
  refine regex_stmt (s := Sh s h4 tk4) (code := codeLineL) X4 (ite_ne (ite_ne (ite_ne (ite_ne (O.sre))))) O4.mod O4.comp (.cons (.cons (.cons (.cons (.cons (.cons (.cons (.cons (.cons (.cons (.cons (.cons (.cons (.cons (.cons (.cons (.cons (.cons (.cons (.cons (.cons (.cons (.cons (.cons (.cons (.cons (.cons (.cons (.cons (.cons (.cons (.cons (.cons (.cons (.cons (.cons .nil)))))))))))))))))))))))))))))))))))) (by decide +kernel) (by decide +kernel) (by decide) (by decide +kernel) (zz O4) rfl (by decide +kernel) (fun a5 h5 tk5 X5 k5 f5 => ?_) rfl
  have O5 := O4.on hp k5
  refine wpAny_execs_cons ?_
  refine text_stmt (s := Sh s h5 tk5) X5 rfl (by decide +kernel) fun t6 h6 tk6 X6 k6 => ?_
  have O6 := O5.on hp k6
  refine wpAny_execs_cons ?_
  refine def_stmt (s := Sh s h6 tk6) (i := 7) X6 rfl plain7 (by decide +kernel) fun a7 h7 tk7 X7 k7 f7 => ?_
  have O7 := O6.on hp k7
  refine wpAny_execs_cons ?_
  refine text_stmt (s := Sh s h7 tk7) X7 rfl (by decide +kernel) fun t8 h8 tk8 X8 k8 => ?_
  have O8 := O7.on hp k8
  refine wpAny_execs_cons ?_
  refine set_stmt (s := Sh s h8 tk8) X8 hh (ite_ne (ite_ne (ite_ne (ite_ne (ite_ne (ite_ne (ite_ne (ite_ne (O.no _ (by simp)))))))))) (ite_ne (ite_ne (ite_ne (ite_ne (ite_ne (ite_ne (ite_ne (ite_ne (O.no _ (by simp)))))))))) (ite_ne (ite_ne (ite_ne (ite_ne (ite_ne (ite_ne (ite_ne (ite_ne (O.no _ (by simp)))))))))) O8.b O.set O.list O.range (.cons (.cons (.cons (.cons (.cons (.cons (.cons (.cons (.cons (.cons (.cons .nil))))))))))) fun a9 h9 tk9 X9 k9 f9 => ?_
  have O9 := O8.on hp k9
  refine wpAny_execs_cons ?_
  refine def_stmt (s := Sh s h9 tk9) (i := 10) X9 rfl plain10 (by decide +kernel) fun a10 h10 tk10 X10 k10 f10 => ?_
  have O10 := O9.on hp k10
  refine wpAny_execs_cons ?_
  obtain ⟨ks, vs, dp1, dp2, dp3, hst, hok⟩ := dict_some
  rw [hst]
  refine dict_stmt (s := Sh s h10 tk10) (ks := ks) (vs := vs) hok X10 (zz O10) fun a11 h11 tk11 X11 k11 f11 => ?_
  have O11 := O10.on hp k11
  refine wpAny_execs_cons ?_
  refine def_stmt (s := Sh s h11 tk11) (i := 12) X11 rfl plain12 (by decide +kernel) fun a12 h12 tk12 X12 k12 f12 => ?_
  have O12 := O11.on hp k12
  refine wpAny_execs_cons ?_
  refine text_stmt (s := Sh s h12 tk12) X12 rfl (by decide +kernel) fun t13 h13 tk13 X13 k13 => ?_
  have O13 := O12.on hp k13
  refine wpAny_execs_cons ?_
  refine def_stmt (s := Sh s h13 tk13) (i := 14) X13 rfl plain14 (by decide +kernel) fun a14 h14 tk14 X14 k14 f14 => ?_
  have O14 := O13.on hp k14
  refine wpAny_execs_cons ?_
  refine def_stmt (s := Sh s h14 tk14) (i := 15) X14 rfl plain15 (by decide +kernel) fun a15 h15 tk15 X15 k15 f15 => ?_
  have O15 := O14.on hp k15
  refine wpAny_execs_cons ?_
  refine def_stmt (s := Sh s h15 tk15) (i := 16) X15 rfl plain16 (by decide +kernel) fun a16 h16 tk16 X16 k16 f16 => ?_
  have O16 := O15.on hp k16
  refine wpAny_execs_nil ?_
  have e15 := k16
  have e14 := k15.trans e15
  have e13 := k14.trans e14
  have e12 := k13.trans e13
  have e11 := k12.trans e12
  have e10 := k11.trans e11
  have e9 := k10.trans e10
  have e8 := k9.trans e9
  have e7 := k8.trans e8
  have e6 := k7.trans e7
  have e5 := k6.trans e6
  have e4 := k5.trans e5
  have e3 := k4.trans e4
  have e2 := k3.trans e3
  have e1 := k2.trans e2
  have e0 := k1.trans e1
  refine ⟨rfl, h16, tk16, _, rfl, ⟨let ⟨l, m, hl⟩ := X16.main; ⟨l, m, fun q hq => Nat.lt_of_lt_of_le (hl q hq) (by decide +kernel)⟩, eh0 ▸ e0,
    ⟨⟨X16.g, O16.b, O16.lim, ite_ne (ite_ne (ite_ne (ite_ne (ite_ne (ite_ne (ite_ne (ite_ne (ite_ne (ite_ne (ite_ne (ite_ne (ite_ne (ite_ne (ite_ne (ite_ne (O.no _ (by simp))))))))))))))))), ite_ne (ite_ne (ite_ne (ite_ne (ite_ne (ite_ne (ite_ne (ite_ne (ite_ne (ite_ne (ite_ne (ite_ne (ite_ne (ite_ne (ite_ne (ite_ne (O.no _ (by simp))))))))))))))))), ite_ne (ite_ne (ite_ne (ite_ne (ite_ne (ite_ne (ite_ne (ite_ne (ite_ne (ite_ne (ite_ne (ite_ne (ite_ne (ite_ne (ite_ne (ite_ne (O.no _ (by simp))))))))))))))))), O.len, O.ord, O.range⟩,
     ⟨⟨a4, ite_ne (ite_ne (ite_ne (ite_ne (ite_ne (ite_ne (ite_ne (ite_ne (ite_ne (ite_ne (ite_ne (ite_ne (ite_eq rfl)))))))))))), f4 h16 e4⟩, ⟨a5, ite_ne (ite_ne (ite_ne (ite_ne (ite_ne (ite_ne (ite_ne (ite_ne (ite_ne (ite_ne (ite_ne (ite_eq rfl))))))))))), f5 h16 e5⟩, ⟨t6, ite_ne (ite_ne (ite_ne (ite_ne (ite_ne (ite_ne (ite_ne (ite_ne (ite_ne (ite_ne (ite_eq (congrArg (fun z => some (Value.str z t6)) (by decide +kernel : Str.ofString "\r\n" = txt [13, 10]))))))))))))⟩⟩,
     ⟨?_, ?_⟩,
     ⟨a2, ite_ne (ite_ne (ite_ne (ite_ne (ite_ne (ite_ne (ite_ne (ite_ne (ite_ne (ite_ne (ite_ne (ite_ne (ite_ne (ite_ne (ite_eq rfl)))))))))))))), f2 h16 e2⟩, ⟨a7, ite_ne (ite_ne (ite_ne (ite_ne (ite_ne (ite_ne (ite_ne (ite_ne (ite_ne (ite_eq rfl))))))))), f7 h16 e7⟩, ⟨a10, ite_ne (ite_ne (ite_ne (ite_ne (ite_ne (ite_ne (ite_eq rfl)))))), f10 h16 e10⟩, ⟨a12, ite_ne (ite_ne (ite_ne (ite_ne (ite_eq rfl)))), f12 h16 e12⟩, ⟨a14, ite_ne (ite_ne (ite_eq rfl)), f14 h16 e14⟩, ⟨a15, ite_ne (ite_eq rfl), f15 h16 e15⟩⟩,
    ⟨a16, ite_eq rfl, f16 h16 .refl⟩, fun y hy => ?_⟩⟩
  · obtain ⟨S, n, hS, hq⟩ := f9 h16 e9
    exact ⟨a9, S, n, ite_ne (ite_ne (ite_ne (ite_ne (ite_ne (ite_ne (ite_ne (ite_eq rfl))))))), hS, hq⟩
  · obtain ⟨f, q1, q2, q3⟩ := f11 h16 e11
    exact ⟨a11, f, ite_ne (ite_ne (ite_ne (ite_ne (ite_ne (ite_eq rfl))))), q1, q2, q3⟩
  · simp only [tops, List.mem_cons, List.not_mem_nil, or_false, not_or] at hy
    obtain ⟨n0, n1, n2, n3, n4, n5, n6, n7, n8, n9, n10, n11, n12⟩ := hy
    exact ite_ne (ite_ne (ite_ne (ite_ne (ite_ne (ite_ne (ite_ne (ite_ne (ite_ne (ite_ne (ite_ne (ite_ne (ite_ne (ite_ne (ite_ne (ite_ne rfl n0) n1) n0) n2) n3) n4) n5) n0) n6) n7) n8) n9) n0) n10) n11) n12
end Mine
end

section
set_option maxRecDepth 100000
open PySem PySem.W PyProof.Rows PySem.Calls
namespace Mine
theorem no_halt {den : Code → Sem Fin} {p : Program} {w : World} : ∀ {n k : Nat} {s : Shared} {t : Thread} {σ s'' : Shared} {τ t'' : Thread} {o : Outcome} {σ' : Shared}, runN den p w n s t = .running σ τ → k < n → runN den p w k s t = .running s'' t'' → step den p w s'' t'' = .halt o σ' → False
  | 0, _, _, _, _, _, _, _, _, _, _, h, _, _ => by omega
  | n + 1, 0, s, t, σ, s'', τ, t'', o, σ', h1, _, h2, h3 => by
    simp only [runN] at h2
    injection h2 with e1 e2
    subst e1 e2
    simp only [runN, h3] at h1
    cases h1
  | n + 1, k + 1, s, t, σ, s'', τ, t'', o, σ', h1, hk, h2, h3 => by
    simp only [runN] at h1 h2
    cases hs : step den p w s t with
    | go s₁ t₁ =>
      simp only [hs] at h1 h2
      exact no_halt h1 (by omega) h2 h3
    | halt o' s₁ => simp only [hs] at h1; cases h1
theorem reach_top {w : World} {s₀ : Shared} {t : Sem Fin} {P : Shared → Prop} (hz : s₀.asleep)
    (h : wpAny (model pw w) callerA t (fun fin s' => fin = .done (.ret .none) ∧ P s' ∧ s'.gens = #[]) (fun _ _ => False) s₀) :
    ∃ n s₁ t₁, schedN (denote table) pw w n (.single s₀ ⟨t, .builtin "claim.caller" {}, default, []⟩) = .running (.single s₁ t₁) ∧ through t₁ = true ∧ P s₁ ∧ s₁.heap.life = s₀.heap.life := by
  have h1 := h (Ctx.of (.builtin "claim.caller" {}) []) default caller_in
  obtain ⟨n, s', σ, p', leaf, hr, hfo, hl, _⟩ := wp_reaches_first (M := model pw w) h1
  have h2 : Sem.wp (model pw w) ⟨.builtin "claim.caller" {}, none, none, [], none⟩ t (Sem.finPost (model pw w) ⟨.builtin "claim.caller" {}, none, none, [], none⟩ fun _ s' => True ∧ leftWithCleanup s'.gens = false)
      (fun e _ s' => True ∧ leftWithCleanup s'.gens = false) default s₀ :=
    Sem.wp_mono _ _ _ (fun fin p s hq => by obtain ⟨rfl, _, hg⟩ := hq; exact ⟨trivial, by rw [hg]; simp [leftWithCleanup]⟩) (fun _ _ _ x => x.elim) _ _ h1
  obtain ⟨m, r, s₂, hm, _⟩ := (wp_iff_halts t _ default s₀).mp h2
  obtain ⟨s₃, h3, _, hcalm⟩ := runNI_real _ _ _ hm (outcomeOf_ends r)
  rcases hl with ⟨a, rfl, rfl, hP, hg⟩ | ⟨e, _, hF⟩
  · obtain rfl := Shared.eq_of_forget_eq hfo hg
    refine ⟨n, σ, ⟨.pure (.done (.ret .none)), .builtin "claim.caller" {}, p', []⟩, ?_, rfl, hP, runN_life_running hr⟩
    have hr' : runN (denote table) pw w n s₀ ⟨t, .builtin "claim.caller" {}, default, []⟩ = .running σ ⟨.pure (.done (.ret .none)), .builtin "claim.caller" {}, p', []⟩ := hr
    have e := schedN_prefix (denote table) pw w n s₀ ⟨t, .builtin "claim.caller" {}, default, []⟩ hz fun k s'' t'' hk hrun => ⟨hcalm k s'' t'' hrun, fun e => no_halt hr' hk hrun e⟩
    rw [e, hr']
    rfl
  · exact hF.elim
end Mine
end

section
set_option maxRecDepth 100000
open PySem PySem.W PyProof.Rows PySem.Calls
namespace Mine
theorem no_anns : hasAnns (behindTheImports pw) = false := by decide +kernel
theorem no_doc : docOf (behindTheImports pw) = none := by kernel_rfl

/-- what the top leaves -/
def Left (w : World) (mg mb : Str → Option Value) (s₀ s' : Shared) : Prop := ∃ h' tk mg', s' = Sh s₀ h' tk ∧ (∀ b o, b ≠ mainGlobals → s₀.heap.get? b = some o → h'.get? b = some o) ∧ h'.Ns mainGlobals mg' ∧ LawAt w mg' mb h' ∧ DefIn mg' h' (Str.ofString "law") 16 ∧ ∀ y, y ∉ tops → mg' y = mg y

set_option maxHeartbeats 1000000 in
theorem stub_wp {w : World} {s₀ : Shared} {mg mb md : Str → Option Value} (hg : s₀.heap.Ns mainGlobals mg) (hbm : ∃ bm o, mg "__builtins__" = some (.ref bm) ∧ bm ≠ builtinsNs ∧ s₀.heap.get? bm = some o ∧ o.cls = .type "module" ∧ o.dict = some builtinsNs ∧ o.data = .plain)
    (O : Opened s₀.heap mg mb md) (hsz : s₀.heap.objs.size = 28) (hgens : s₀.gens = #[]) :
    wpAny (model pw w) callerA (topStub pw).cur (fun fin s' => fin = .done (.ret .none) ∧ Left w mg mb s₀ s' ∧ s'.gens = #[]) (fun _ _ => False) s₀ := by
  unfold topStub
  dsimp only
  refine wpAny_bind (wpAny_moduleCode fun c Pl h₁ tk₁ k₁ hc hPl hcode => ?_)
  unfold newBodyFrame
  refine wpAny_bind (wpAny_bind (wpAny_nsGet (hg.keeps k₁) (wpAny_alloc ?_)))
  refine wpAny_bind (wpAny_run (codeAny_body no_anns no_doc ?_))
  dsimp only
  have k₂ : ∀ o : Obj, Keeps h₁ (h₁.push o) := fun o => keeps_push _ _
  have kk : ∀ o : Obj, Keeps s₀.heap (h₁.push o) := fun o b o' e => k₂ o b o' (k₁ b o' e)
  have X : ∀ o : Obj, HS c Pl 0 (h₁.push o) mg := by
    intro o
    obtain ⟨bm, ob, b1, b2, b3, b4, b5, b6⟩ := hbm
    refine ⟨[], ⟨hg.keeps (kk o), hcode.keeps (k₂ o), ⟨Nat.lt_of_lt_of_le (by rw [hsz]; decide) hc, Nat.lt_of_lt_of_le (by rw [hsz]; decide) hPl⟩, bm, ob, b1, b2, ?_, ?_, kk o _ _ b3, b4, b5, b6⟩, by simp⟩
    · rintro rfl
      obtain ⟨o', es, ep, e1, e2, _⟩ := hg
      rw [b3] at e1
      cases e1
      rw [b6] at e2
      cases e2
    · exact Nat.ne_of_lt (Nat.lt_of_lt_of_le (Heap.lt_size b3) hPl)
  have hp : 28 ≤ Pl := by rw [hsz] at hPl; exact hPl
  have OO : ∀ o : Obj, Opened (h₁.push o) mg mb md := fun o => O.on hp (KB.of (kk o))
  refine wpAny_mono (head_body (E := fun _ _ => False) (mg := mg) (mb := mb) (md := md) (Pl := Pl) rfl (X _) (OO _) hp) (fun f s' hq => ?_) fun _ _ (x : False) => x.elim
  obtain ⟨rfl, h', tk, mg', rfl, D⟩ := hq
  refine wpAny_pure ⟨rfl, ⟨h', tk, mg', rfl, fun b o hb e => ?_, D.hs.g, D.law, D.fn, D.other⟩, hgens⟩
  exact D.kb b o (Nat.ne_of_lt (Nat.lt_of_lt_of_le (Heap.lt_size e) hPl)) hb (kk _ b o e)
end Mine
end

section
set_option maxRecDepth 100000
open PySem PySem.W PyProof.Rows PySem.Calls
namespace Mine
structure Start (s : Shared) : Prop where
  g : s.heap.isNs mainGlobals = true
  b : s.heap.isNs builtinsNs = true
  c : s.heap.isNs cStatics = true
  gens : s.gens = #[]
  bm : s.heap.bmainOk = true
  acc : s.heap.accountedOkI (importedModules pw.main.body) = true
  bound : namesBound pw s.heap = true
  size : s.heap.objs.size = 28
  view : s.heap.bltView = bltViewBooted
  op : Opened s.heap (s.heap.nsMap mainGlobals) (s.heap.nsMap builtinsNs) (s.heap.nsMap 11)

theorem start_of {s : Shared} (e : obs0 s = seen0) : Start s := by
  have e1 : (_ && _) = true := congrArg Prod.fst e
  have e2 := congrArg (fun x => x.2.1) e
  have e3 := congrArg (fun x => x.2.2.1) e
  have e4 := congrArg (fun x => x.2.2.2.1) e
  have e5 : s.heap.objs.size = 28 := congrArg (fun x => x.2.2.2.2.1) e
  have e6 : s.heap.bltView = bltViewBooted := congrArg (fun x => x.2.2.2.2.2) e
  simp only [Bool.and_eq_true, Option.isNone_iff_eq_none, beq_iff_eq] at e1
  obtain ⟨⟨⟨⟨⟨⟨⟨⟨⟨g, b⟩, c⟩, d⟩, n⟩, bm⟩, ac⟩, nb⟩, lim⟩, no⟩ := e1
  have hb : ∀ x : Str, x ≠ "__name__" → s.heap.nsMap builtinsNs x = bootBuiltins x := fun x hx => Heap.of_bltView b e6 x hx
  refine ⟨g, b, c, Array.eq_empty_of_size_eq_zero n, bm, ac, nb, e5, e6, .of_isNs b, (hb _ (by decide +kernel)).trans (by decide +kernel), (hb _ (by decide +kernel)).trans (by decide +kernel), (hb _ (by decide +kernel)).trans (by decide +kernel),
    (hb _ (by decide +kernel)).trans (by decide +kernel), (hb _ (by decide +kernel)).trans (by decide +kernel), fun x hx => ?_, e2, ⟨e4, .of_isNs d⟩, e3, ⟨_, .of_isNs c, lim⟩⟩
  have := List.all_eq_true.mp no x hx
  simpa using this

theorem tops_bound : ∀ y ∈ tops, y ∈ pw.boundNames := by decide +kernel
theorem laid_tops : ∀ x ∈ laidNames, x ∉ tops := by decide +kernel

theorem top_ran {w : World} {s₀ : Shared} (S : Start s₀) (hz : s₀.asleep) : ∃ s₁, TopRan pw w s₀ s₁ ∧ s₁.asleep ∧ s₁.gens = #[] ∧ Left w (s₀.heap.nsMap mainGlobals) (s₀.heap.nsMap builtinsNs) s₀ s₁ := by
  have hbm := Heap.bmainOk_spec S.bm
  obtain ⟨n, s₁, t₁, hr, ht, ⟨hL, hg⟩, hlife⟩ := reach_top (P := fun s' => Left w (s₀.heap.nsMap mainGlobals) (s₀.heap.nsMap builtinsNs) s₀ s' ∧ s'.gens = #[]) hz
    (wpAny_mono (stub_wp (w := w) (.of_isNs S.g) hbm S.op S.size S.gens) (fun fin s' hq => ⟨hq.1, ⟨hq.2.1, hq.2.2⟩, hq.2.2⟩) fun _ _ x => x)
  have hL' := hL
  obtain ⟨h', tk, mg', rfl, keep, hn, _, _, oth⟩ := hL
  have gl : ∀ x, globalOf h' x = mg' x := PySem.Claim2Try.globalOf_of_ns hn
  have gl0 : ∀ x, globalOf s₀.heap x = s₀.heap.nsMap mainGlobals x := Pin.globalOf_eq S.g
  have c2 : ∀ o, s₀.heap.get? cStatics = some o → h'.get? cStatics = some o := fun o e => keep _ o (by decide) e
  have st : ∀ key, staticOf h' key = staticOf s₀.heap key := by
    intro key
    obtain ⟨o, es, ep, e, _⟩ := Heap.Ns.of_isNs S.c
    unfold staticOf
    rw [e, c2 _ e]
  have bt : ∀ x, builtinOf h' x = builtinOf s₀.heap x := by
    intro x
    obtain ⟨o, es, ep, e, _⟩ := Heap.Ns.of_isNs S.b
    unfold builtinOf
    rw [e, keep _ _ (by decide) e]
  refine ⟨_, ⟨⟨n, t₁, hr, ht⟩, hlife, rfl, ?_, ?_, fun key => .inl (st key), Pin.keysAreStrs_of_ns hn, ?_, ?_, ?_, ?_, ?_⟩, Shared.asleep_of_life hlife hz, hg, hL'⟩
  · intro b o e hb
    exact keep b o (fun q => hb (.inl q)) e
  · intro key v hv
    have hv0 : staticOf s₀.heap key = some v := (st key).symm.trans hv
    have := Heap.accountedI_of_ok S.acc key v hv0
    simpa only [st] using this
  · intro x hx
    exact (bt x).trans ((Pin.builtinOf_eq S.b x).trans (Heap.of_bltView S.b S.view x hx))
  · obtain ⟨bm, ob, b1, b2, b3, b4, b5, b6⟩ := hbm
    refine ⟨bm, ob, ?_, keep _ _ ?_ b3, b4, b5⟩
    · exact (gl _).trans ((oth _ (by decide +kernel)).trans b1)
    · rintro rfl
      obtain ⟨o', es, ep, e1, e2, _⟩ := Heap.Ns.of_isNs S.g
      rw [b3] at e1
      cases e1
      rw [b6] at e2
      cases e2
  · intro g hgm
    have : (Sh s₀ h' tk).gens = #[] := hg
    rw [this] at hgm
    simp at hgm
  · intro x v hv
    by_cases hx : x ∈ tops
    · exact .inr (tops_bound x hx)
    · exact names_of_bound S.bound x v (((gl0 x).trans (oth x hx).symm).trans ((gl x).symm.trans hv))
  · intro x hx
    exact (gl x).trans ((oth x (laid_tops x hx)).trans (gl0 x).symm)
end Mine
end

section
set_option maxRecDepth 100000
open PySem PySem.W PyProof.Rows PySem.Calls
namespace Mine
abbrev law : OpenLaw := PySem.Challenge.rw_re0109_01
theorem bare : pw.bare := by
  refine ⟨rfl, rfl, rfl, rfl, rfl, ?_⟩
  kernel_rfl
theorem opens : opensWell pw = true := by decide +kernel
theorem the_def : pw.theDef (Str.ofString "law") = some ((defAt 16).2.1, (defAt 16).2.2.1, (defAt 16).2.2.2) := by kernel_rfl
theorem def_pinned {h : Heap} {mg : Str → Option Value} (hn : h.Ns mainGlobals mg) (hd : DefIn mg h (Str.ofString "law") 16) : isTheDefsW pw h (Str.ofString "law") := by
  obtain ⟨a, e, o, pm, cd, doc, h1, h2, h3⟩ := hd
  exact ⟨a, o, _, _, _, _, (PySem.Claim2Try.globalOf_of_ns hn _).trans e, h1, h2, the_def, rfl, rfl, rfl, rfl, rfl, rfl, rfl, rfl, .inl ⟨rfl, rfl⟩, [], rfl, .inl ⟨rfl, rfl⟩⟩
end Mine
end

section
set_option maxRecDepth 100000
open PySem PySem.W PyProof.Rows PySem.Calls
namespace Mine
theorem ints_of {R : WRecords} {cl : Str → Option Addr} {h : Heap} : ∀ {vs : List Value} {ns : List Int} {as : List Addr}, ReadsAllW R cl h vs (ns.map .int) as → IntsAre vs ns
  | _, [], _, r => by cases r; exact .nil
  | _, n :: ns, _, r => by
    cases r with
    | cons r1 r2 =>
      cases r1 with
      | int i t => exact .cons n t (ints_of r2)
theorem arg_of {R : WRecords} {cl : Str → Option Addr} {h : Heap} {vs : List Value} {ns : List Int} {as : List Addr} (r : ReadsAllW R cl h vs [.list (ns.map .int)] as) : ∃ a ws, vs = [.ref a] ∧ h.IsList a (List.toArray ws) ∧ IntsAre ws ns := by
  cases r with
  | cons r1 r2 =>
    cases r2
    cases r1 with
    | list h1 h2 h3 h4 => exact ⟨_, _, rfl, ⟨_, h1, h2, _, by simpa using h3⟩, ints_of h4⟩
theorem items_ints {R : WRecords} : ∀ {xs : List WData}, WShape.hasItems R xs .int = true → ∃ ns : List Int, xs = ns.map .int
  | [], _ => ⟨[], rfl⟩
  | x :: xs, h => by
    simp only [WShape.hasItems, Bool.and_eq_true] at h
    obtain ⟨ns, rfl⟩ := items_ints (xs := xs) h.2
    have hx := h.1
    cases x <;> simp [WShape.has, WShape.arms] at hx
    case int n => exact ⟨n :: ns, rfl⟩
theorem args_of {args : List WData} (hpre : law.row.toRowW.claim.pre args = true) : ∃ ns : List Int, args = [.list (ns.map .int)] ∧ ns.length ≤ 63 := by
  obtain ⟨h1, h2⟩ := pre_splitW hpre
  obtain ⟨d, r, rfl, h3, h4⟩ := hasAllW_cons (es := []) h1
  obtain rfl := hasAllW_nil h4
  cases d <;> simp [WShape.has, WShape.arms] at h3
  obtain ⟨ns, rfl⟩ := items_ints h3
  refine ⟨ns, rfl, ?_⟩
  have h5 : WTm.holds [] (.and (.not (.lt (.lit (.int 63)) (.len (.arg 0)))) (.lit (.bool true))) { args := [.list (ns.map .int)] } = true := h2
  simp [WTm.holds, WTm.value] at h5
  have e : less? (WData.int 63) (WData.int (ns.length : Int)) = some (decide ((63 : Int) < ns.length)) := rfl
  rw [e] at h5
  by_cases h : (63 : Int) < ns.length
  · simp [h] at h5
  · omega

theorem true_post {args : List WData} : law.row.toRowW.claim.post args (.bool true) args = true := by
  show ((WShape.has [] (.bool true) .bool) && (WTm.holds [] (.eq .res (.lit (.bool true))) { args := args, res := some (.bool true), after := args })) = true
  simp [WTm.holds, WTm.value, WShape.has, WShape.arms, same]
set_option maxHeartbeats 1000000 in
theorem held (hw : law.row.toRowW.promised) : law.row.toRowW.claim.HoldsOpenBy (callStub law.row.name) (if law.row.pinned then [law.row.name] else []) law.row.keeps law.row.writes := by
  refine ⟨⟨bare, opens, rfl⟩, hw.witness, fun w => ?_⟩
  have h := s0_obs w
  rw [← table_eq_tree] at h
  obtain ⟨s₀, h2, e⟩ := Option.map_eq_some_iff.mp h
  obtain ⟨s, h4, h5⟩ := Option.bind_eq_some_iff.mp h2
  have A := AfterImport.of_importEnds h4
  refine ⟨⟨s, A⟩, fun s' hs' => ?_⟩
  obtain rfl : s' = s := AfterImport.unique hs' A
  have z : s₀.asleep := Shared.asleep_of_life (fence_lifeW h5) A.life
  have S := start_of e
  obtain ⟨s₁, hT, hz, hg, L⟩ := top_ran (w := w) S z
  obtain ⟨h', tk, mg', rfl, keep, hn, hL, hD, oth⟩ := L
  refine ⟨s₀, h5, S.gens, _, hT, fun n hn' => ?_, fun x hx => (nomatch hx), fun x hx => (nomatch hx), ?_⟩
  · obtain rfl : n = Str.ofString "law" := List.mem_singleton.mp hn'
    exact def_pinned hn hD
  refine ClaimW.callFrom_of_specG (c := law.row.toRowW.claim) (tree := fun vs => do match ← nsGet mainNs (Str.ofString "law") with
      | some f => do ret (← PySem.call f vs)
      | none => unsupported "claim.caller:no-such-global") hz hg fun args hpre hlay ord hord => ?_
  obtain ⟨ns, rfl, hlen⟩ := args_of hpre
  obtain ⟨⟨vs, s₂⟩, hlaid⟩ := Option.isSome_iff_exists.mp (layAllW_isSome (R := law.row.toRowW.claim.records) (cl := classAt h') (P := w.params) (ord := ord) (fun c hc => by cases hc) [.list (ns.map .int)] law.row.toRowW.args (Sh s₀ h' tk) (pre_splitW hpre).1)
  have keeps := layAllW_keeps _ _ _ hlaid
  have hal := layAllW_rest _ _ _ hlaid
  obtain ⟨as, hrd, hin, hold⟩ := reads_layAllW hord _ _ _ hlaid hlay s₂.heap (fun _ _ e => e)
  obtain ⟨a, ws, rfl, hl, hi⟩ := arg_of hrd
  have L₂ : LawAt w mg' (s₀.heap.nsMap builtinsNs) s₂.heap := hL.keeps keeps
  obtain ⟨fa, ef, ff⟩ := hD.keeps keeps
  have LL : Laid law.row.toRowW.claim.records w (Sh s₀ h' tk) s₂ [.list (ns.map .int)] [.ref a] as := ⟨⟨ord, hord, hlaid⟩, hrd, hin, hold, keeps, hal.1.trans hg, hal.2.2.1⟩
  refine ⟨_, s₂, hlaid, ?_⟩
  refine wpAny_bind (wpAny_nsGet (hn.keeps keeps) ?_)
  rw [ef]
  refine wpAny_bind (call_law L₂ ff (by decide) rfl (by decide) hl hi hlen fun h'' tk'' k'' => wpAny_pure ?_)
  have g : GoodW law.row.toRowW.claim (classAt (Sh s₀ h' tk).heap) (ExcName.means (Sh s₀ h' tk).heap) [.list (ns.map .int)] s₂ (.ok (.ret (.bool true))) (Sh s₂ h'' tk'') :=
    ⟨.inl ⟨_, .bool true, [], rfl, fun cls => rfl, .bool true, true_post, fun _ => ⟨List.nodup_nil, fun a h => (nomatch h)⟩⟩, k'', rfl, hal.1.trans hg⟩
  have zz := g.toG.laid (c := law.row.toRowW.claim) rfl rfl (ident_freeW rfl rfl rfl) LL
  exact ⟨_, rfl, zz.1, zz.2.1, zz.2.2, fun q => (nomatch q)⟩
end Mine
end

set_option maxRecDepth 100000
open PySem PySem.W PyProof.Rows PySem.Calls
set_option maxHeartbeats 8000000 in
theorem PySem.Challenge.cw_re0109_01_holds : PySem.Challenge.rw_re0109_01.Holds := by
  o_law
  have hw : PySem.Challenge.rw_re0109_01.row.toRowW.promised := ⟨[.list [.int 3, .int 1]], by decide +kernel, by decide +kernel⟩
  exact ⟨by assumption, hw, Mine.held hw⟩
