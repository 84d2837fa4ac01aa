import PyProof.Rows.All
import Wide.All
import OpenK.AllK
import Wide.FinOn
import PySem.Challenge.RW_pe0071_01
set_option Elab.async false
namespace Mine
section
open PySem PySem.W PyProof.Rows
set_option maxRecDepth 100000 in
set_option maxHeartbeats 8000000 in
open_top hd for PySem.Challenge.rw_pe0071_01
end
end Mine
section TPure
namespace Mine
set_option autoImplicit false

/-- a mark lies ahead that is not behind a backslash -/
def hasMark : List Nat → Bool
  | [] => false
  | c :: r => if c = 92 then (match r with | [] => false | _ :: r' => hasMark r') else if c = 34 then true else hasMark r

/-- the closed quotations left out; q: inside one -/
def stripS (q : Bool) : List Nat → List Nat
  | [] => []
  | c :: r =>
    if c = 92 then (match r with | [] => (if q then [] else [92]) | d :: r' => (if q then [] else [92, d]) ++ stripS q r')
    else if c = 34 then (if q then stripS false r else if hasMark r then stripS true r else 34 :: stripS false r)
    else (if q then [] else [c]) ++ stripS q r

/-- which signs stay -/
def ann (q : Bool) : List Nat → List Bool
  | [] => []
  | c :: r =>
    if c = 92 then (match r with | [] => [!q] | _ :: r' => (!q) :: (!q) :: ann q r')
    else if c = 34 then (if q then false :: ann false r else if hasMark r then false :: ann true r else true :: ann false r)
    else (!q) :: ann q r

def LS (p : Nat) : Bool := p == 13 || p == 10

def emit (b a near far c : Nat) : List Nat :=
  if c = 46 then List.replicate (1 + (if LS near then b else 0) + (if LS far then a else 0)) 46
  else if (c ≠ 13 ∧ c ≠ 10) ∨ b + a = 0 then [c]
  else if c = 13 ∨ (if b > 0 then near else far) ≠ 13 then [13, 10] else []

def told (b : Nat) (sh : Bool) (a : Nat) (near far : Nat) : List (Nat × Bool) → List Nat
  | [] => []
  | (c, st) :: r => if st || !sh then emit b a near far c ++ told b sh a c c r else told b sh a c far r

def snd1 (p c : Nat) : List Nat :=
  if c = 46 then (if LS p then [46, 46] else [46]) else if c = 13 then [13, 10] else if c = 10 then (if p = 13 then [] else [13, 10]) else [c]
def sendF (p : Nat) : List Nat → List Nat
  | [] => []
  | c :: r => snd1 p c ++ sendF c r

def chkF (n : Nat) : List Nat → Bool
  | [] => decide (n = 0)
  | c :: r =>
    if c = 92 then (match r with | [] => decide (n = 0) | _ :: r' => chkF n r')
    else if c = 40 then chkF (n + 1) r
    else if c = 41 then (if n = 0 then false else chkF (n - 1) r)
    else chkF n r

def clF (h lo : Int) : List (Nat × Bool) → Int × Int
  | [] => (h, lo)
  | (c, st) :: r =>
    let h1 := if st && c == 40 then h + 1 else h
    let h2 := if st && c == 41 then h1 - 1 else h1
    if c = 92 then (match r with | [] => (h2, min lo h2) | _ :: r' => clF h2 (min lo h2) r') else clF h2 (min lo h2) r

/-! the text is read off by an induction of its own: a sign, or a backslash with the one behind it -/
theorem text_ind {P : List Nat → Prop} (nil : P []) (lone : P [92]) (esc : ∀ d r, P r → P (92 :: d :: r)) (one : ∀ c r, c ≠ 92 → P r → P (c :: r)) : ∀ l, P l := by
  have key : ∀ n (l : List Nat), l.length ≤ n → P l := by
    intro n
    induction n with
    | zero => intro l h; cases l with | nil => exact nil | cons c r => simp at h
    | succ n ih =>
      intro l h
      cases l with
      | nil => exact nil
      | cons c r =>
        by_cases hc : c = 92
        · subst hc
          cases r with
          | nil => exact lone
          | cons d r => exact esc d r (ih r (by simp at h; omega))
        · exact one c r hc (ih r (by simp at h; omega))
  exact fun l => key _ l (Nat.le_refl _)

@[simp] theorem hasMark_nil : hasMark [] = false := rfl
@[simp] theorem hasMark_lone : hasMark [92] = false := rfl
@[simp] theorem hasMark_esc (d : Nat) (r : List Nat) : hasMark (92 :: d :: r) = hasMark r := by simp [hasMark]
theorem hasMark_one {c : Nat} (r : List Nat) (h : c ≠ 92) : hasMark (c :: r) = if c = 34 then true else hasMark r := by rw [hasMark.eq_def]; simp only [if_neg h]
theorem stripS_esc (q : Bool) (d : Nat) (r : List Nat) : stripS q (92 :: d :: r) = (if q then [] else [92, d]) ++ stripS q r := by simp [stripS]
theorem stripS_mark (q : Bool) (r : List Nat) : stripS q (34 :: r) = if q then stripS false r else if hasMark r then stripS true r else 34 :: stripS false r := by rw [stripS.eq_def]; simp only [if_neg (show ¬ (34 : Nat) = 92 by decide), if_true]
theorem stripS_one (q : Bool) {c : Nat} (r : List Nat) (h : c ≠ 92) (h' : c ≠ 34) : stripS q (c :: r) = (if q then [] else [c]) ++ stripS q r := by rw [stripS.eq_def]; simp only [if_neg h, if_neg h']
theorem ann_esc (q : Bool) (d : Nat) (r : List Nat) : ann q (92 :: d :: r) = (!q) :: (!q) :: ann q r := by simp [ann]
theorem ann_mark (q : Bool) (r : List Nat) : ann q (34 :: r) = if q then false :: ann false r else if hasMark r then false :: ann true r else true :: ann false r := by rw [ann.eq_def]; simp only [if_neg (show ¬ (34 : Nat) = 92 by decide), if_true]
theorem ann_one (q : Bool) {c : Nat} (r : List Nat) (h : c ≠ 92) (h' : c ≠ 34) : ann q (c :: r) = (!q) :: ann q r := by rw [ann.eq_def]; simp only [if_neg h, if_neg h']
theorem chkF_esc (n d : Nat) (r : List Nat) : chkF n (92 :: d :: r) = chkF n r := by simp [chkF]
theorem chkF_one (n : Nat) {c : Nat} (r : List Nat) (h : c ≠ 92) : chkF n (c :: r) = if c = 40 then chkF (n + 1) r else if c = 41 then (if n = 0 then false else chkF (n - 1) r) else chkF n r := by rw [chkF.eq_def]; simp only [if_neg h]

theorem ann_length (q : Bool) (l : List Nat) : (ann q l).length = l.length := by
  induction l using text_ind generalizing q with
  | nil => rfl
  | lone => simp [ann]
  | esc d r ih => simp [ann_esc, ih]
  | one c r hc ih =>
    by_cases h : c = 34
    · subst h; rw [ann_mark]; (repeat' split) <;> simp [ih]
    · simp [ann_one q r hc h, ih]

/-! ## strip: nothing to leave out -/
/-- no closed quotation -/
def noClosed : List Nat → Bool
  | [] => true
  | c :: r => if c = 92 then (match r with | [] => true | _ :: r' => noClosed r') else if c = 34 then !hasMark r else noClosed r
theorem noClosed_esc (d : Nat) (r : List Nat) : noClosed (92 :: d :: r) = noClosed r := by simp [noClosed]
theorem noClosed_one {c : Nat} (r : List Nat) (h : c ≠ 92) : noClosed (c :: r) = if c = 34 then !hasMark r else noClosed r := by rw [noClosed.eq_def]; simp only [if_neg h]

theorem strip_noMark {l : List Nat} (h : hasMark l = false) : stripS false l = l := by
  induction l using text_ind with
  | nil => rfl
  | lone => simp [stripS]
  | esc d r ih => rw [hasMark_esc] at h; simp [stripS_esc, ih h]
  | one c r hc ih =>
    rw [hasMark_one r hc] at h
    split at h
    · cases h
    · rename_i h'; simp [stripS_one false r hc h', ih h]
theorem strip_noClosed {l : List Nat} (h : noClosed l = true) : stripS false l = l := by
  induction l using text_ind with
  | nil => rfl
  | lone => simp [stripS]
  | esc d r ih => rw [noClosed_esc] at h; simp [stripS_esc, ih h]
  | one c r hc ih =>
    rw [noClosed_one r hc] at h
    split at h
    · rename_i h'; subst h'
      have h0 : hasMark r = false := by simpa using h
      rw [stripS_mark]; simp [h0, strip_noMark h0]
    · rename_i h'; simp [stripS_one false r hc h', ih h]
theorem noClosed_of_noMark {l : List Nat} (h : hasMark l = false) : noClosed l = true := by
  induction l using text_ind with
  | nil => rfl
  | lone => simp [noClosed]
  | esc d r ih => rw [hasMark_esc] at h; rw [noClosed_esc]; exact ih h
  | one c r hc ih =>
    rw [hasMark_one r hc] at h
    split at h
    · cases h
    · rename_i h'; rw [noClosed_one r hc, if_neg h']; exact ih h
theorem noClosed_strip (q : Bool) (l : List Nat) : noClosed (stripS q l) = true := by
  induction l using text_ind generalizing q with
  | nil => rfl
  | lone => cases q <;> simp [stripS, noClosed]
  | esc d r ih => rw [stripS_esc]; cases q <;> simp [noClosed_esc, ih]
  | one c r hc ih =>
    by_cases h : c = 34
    · subst h
      rw [stripS_mark]
      split
      · exact ih _
      · split
        · exact ih _
        · rename_i h2
          have h2 : hasMark r = false := by simpa using h2
          rw [strip_noMark h2, noClosed_one _ (by decide)]; simp [h2]
    · rw [stripS_one q r hc h]; cases q <;> simp [noClosed_one _ hc, h, ih]

/-! ## sending changes no mark -/
theorem snd1_cases (p c : Nat) : snd1 p c = [46, 46] ∧ c = 46 ∨ snd1 p c = [46] ∧ c = 46 ∨ snd1 p c = [13, 10] ∧ (c = 13 ∨ c = 10) ∨ snd1 p c = [] ∧ c = 10 ∨ snd1 p c = [c] ∧ c ≠ 46 ∧ c ≠ 13 ∧ c ≠ 10 := by
  unfold snd1; (repeat' split) <;> simp_all
theorem snd1_esc (d : Nat) : snd1 92 d = [13, 10] ∧ (d = 13 ∨ d = 10) ∨ snd1 92 d = [d] ∧ d ≠ 13 ∧ d ≠ 10 := by
  unfold snd1; (repeat' split) <;> simp_all [LS]
theorem snd1_bs (p : Nat) : snd1 p 92 = [92] := by simp [snd1]
theorem snd1_mark (p : Nat) : snd1 p 34 = [34] := by simp [snd1]
theorem hasMark_plain (x : Nat) (r : List Nat) (h : x ≠ 92) (h' : x ≠ 34) : hasMark (x :: r) = hasMark r := by rw [hasMark_one r h, if_neg h']
theorem hasMark_send (p : Nat) (l : List Nat) : hasMark (sendF p l) = hasMark l := by
  induction l using text_ind generalizing p with
  | nil => rfl
  | lone => simp [sendF, snd1_bs]
  | esc d r ih =>
    simp only [sendF, snd1_bs, hasMark_esc]
    rcases snd1_esc d with ⟨e, _⟩ | ⟨e, _⟩ <;> rw [e] <;> simp only [List.cons_append, List.nil_append, hasMark_esc]
    · rw [hasMark_plain _ _ (by decide) (by decide), ih]
    · exact ih _
  | one c r hc ih =>
    by_cases h : c = 34
    · subst h; simp only [sendF, snd1_mark, List.cons_append, List.nil_append]; rw [hasMark_one _ (by decide), hasMark_one _ (by decide)]; simp
    · rw [hasMark_plain c r hc h]
      simp only [sendF]
      rcases snd1_cases p c with ⟨e, _⟩ | ⟨e, _⟩ | ⟨e, _⟩ | ⟨e, _⟩ | ⟨e, _⟩ <;> rw [e] <;> simp only [List.cons_append, List.nil_append]
      · rw [hasMark_plain _ _ (by decide) (by decide), hasMark_plain _ _ (by decide) (by decide), ih]
      · rw [hasMark_plain _ _ (by decide) (by decide), ih]
      · rw [hasMark_plain _ _ (by decide) (by decide), hasMark_plain _ _ (by decide) (by decide), ih]
      · exact ih _
      · rw [hasMark_plain _ _ hc h, ih]
theorem noClosed_plain (x : Nat) (r : List Nat) (h : x ≠ 92) (h' : x ≠ 34) : noClosed (x :: r) = noClosed r := by rw [noClosed_one r h, if_neg h']
theorem noClosed_send (p : Nat) (l : List Nat) : noClosed (sendF p l) = noClosed l := by
  induction l using text_ind generalizing p with
  | nil => rfl
  | lone => simp [sendF, snd1_bs]
  | esc d r ih =>
    simp only [sendF, snd1_bs, noClosed_esc]
    rcases snd1_esc d with ⟨e, _⟩ | ⟨e, _⟩ <;> rw [e] <;> simp only [List.cons_append, List.nil_append, noClosed_esc]
    · rw [noClosed_plain _ _ (by decide) (by decide), ih]
    · exact ih _
  | one c r hc ih =>
    by_cases h : c = 34
    · subst h; simp only [sendF, snd1_mark, List.cons_append, List.nil_append]; rw [noClosed_one _ (by decide), noClosed_one _ (by decide)]; simp [hasMark_send]
    · rw [noClosed_plain c r hc h]
      simp only [sendF]
      rcases snd1_cases p c with ⟨e, _⟩ | ⟨e, _⟩ | ⟨e, _⟩ | ⟨e, _⟩ | ⟨e, _⟩ <;> rw [e] <;> simp only [List.cons_append, List.nil_append]
      · rw [noClosed_plain _ _ (by decide) (by decide), noClosed_plain _ _ (by decide) (by decide), ih]
      · rw [noClosed_plain _ _ (by decide) (by decide), ih]
      · rw [noClosed_plain _ _ (by decide) (by decide), noClosed_plain _ _ (by decide) (by decide), ih]
      · exact ih _
      · rw [noClosed_plain _ _ hc h, ih]

/-! ## the round brackets -/
def check (l : List Nat) : Bool := chkF 0 (stripS false l)
theorem chkF_plain (n x : Nat) (r : List Nat) (h : x ≠ 92) (h1 : x ≠ 40) (h2 : x ≠ 41) : chkF n (x :: r) = chkF n r := by rw [chkF_one n r h, if_neg h1, if_neg h2]
theorem chk_send (n : Nat) (q : Bool) (p : Nat) (l : List Nat) : chkF n (stripS q (sendF p l)) = chkF n (stripS q l) := by
  induction l using text_ind generalizing n q p with
  | nil => rfl
  | lone => simp [sendF, snd1_bs]
  | esc d r ih =>
    simp only [sendF, snd1_bs]
    rcases snd1_esc d with ⟨e, _⟩ | ⟨e, _⟩ <;> rw [e] <;> simp only [List.cons_append, List.nil_append, stripS_esc]
    · rw [stripS_one _ _ (by decide) (by decide)]
      cases q
      · simp only [Bool.false_eq_true, if_false, List.cons_append, List.nil_append, chkF_esc]
        rw [chkF_plain _ _ _ (by decide) (by decide) (by decide), ih]
      · simp only [if_true, List.nil_append]; exact ih _ _ _
    · cases q
      · simp only [Bool.false_eq_true, if_false, List.cons_append, List.nil_append, chkF_esc]; exact ih _ _ _
      · simp only [if_true, List.nil_append]; exact ih _ _ _
  | one c r hc ih =>
    by_cases h : c = 34
    · subst h
      simp only [sendF, snd1_mark, List.cons_append, List.nil_append, stripS_mark, hasMark_send]
      split
      · exact ih _ _ _
      · split
        · exact ih _ _ _
        · rw [chkF_plain _ _ _ (by decide) (by decide) (by decide), chkF_plain _ _ _ (by decide) (by decide) (by decide), ih]
    · rw [stripS_one q r hc h]
      simp only [sendF]
      rcases snd1_cases p c with ⟨e, h1⟩ | ⟨e, h1⟩ | ⟨e, h1⟩ | ⟨e, h1⟩ | ⟨e, h1⟩ <;> rw [e] <;> simp only [List.cons_append, List.nil_append]
      · subst h1
        rw [stripS_one _ _ (by decide) (by decide), stripS_one _ _ (by decide) (by decide)]
        cases q
        · simp only [Bool.false_eq_true, if_false, List.cons_append, List.nil_append]
          rw [chkF_plain _ _ _ (by decide) (by decide) (by decide), chkF_plain _ _ _ (by decide) (by decide) (by decide), chkF_plain _ _ _ (by decide) (by decide) (by decide), ih]
        · simp only [if_true, List.nil_append]; exact ih _ _ _
      · subst h1
        rw [stripS_one _ _ (by decide) (by decide)]
        cases q
        · simp only [Bool.false_eq_true, if_false, List.cons_append, List.nil_append]
          rw [chkF_plain _ _ _ (by decide) (by decide) (by decide), chkF_plain _ _ _ (by decide) (by decide) (by decide), ih]
        · simp only [if_true, List.nil_append]; exact ih _ _ _
      · rw [stripS_one _ _ (by decide) (by decide), stripS_one _ _ (by decide) (by decide)]
        cases q
        · simp only [Bool.false_eq_true, if_false, List.cons_append, List.nil_append]
          rw [chkF_plain _ _ _ (by decide) (by decide) (by decide), chkF_plain _ _ _ (by decide) (by decide) (by decide), chkF_plain _ _ _ hc (by omega) (by omega), ih]
        · simp only [if_true, List.nil_append]; exact ih _ _ _
      · cases q
        · simp only [Bool.false_eq_true, if_false, List.cons_append, List.nil_append]
          rw [chkF_plain _ _ _ hc (by omega) (by omega), ih]
        · simp only [if_true, List.nil_append]; exact ih _ _ _
      · rw [stripS_one q _ hc h]
        cases q
        · simp only [Bool.false_eq_true, if_false, List.cons_append, List.nil_append]
          rw [chkF_one _ _ hc, chkF_one _ _ hc, ih, ih, ih]
        · simp only [if_true, List.nil_append]; exact ih _ _ _
theorem check_send (l : List Nat) (p : Nat) : check (sendF p l) = check l := chk_send _ _ _ _
theorem check_strip (l : List Nat) : check (stripS false l) = check l := by unfold check; rw [strip_noClosed (noClosed_strip _ _)]

theorem clF_low (l : List (Nat × Bool)) : ∀ h lo : Int, lo < 0 → (clF h lo l).2 < 0 := by
  have key : ∀ n (l : List (Nat × Bool)), l.length ≤ n → ∀ h lo : Int, lo < 0 → (clF h lo l).2 < 0 := by
    intro n
    induction n with
    | zero => intro l hl h lo hlo; cases l with | nil => exact hlo | cons => simp at hl
    | succ n ih =>
      intro l hl h lo hlo
      cases l with
      | nil => exact hlo
      | cons x r =>
        obtain ⟨c, st⟩ := x
        rw [clF.eq_def]; dsimp only
        generalize (if (st && c == 41) = true then (if (st && c == 40) = true then h + 1 else h) - 1 else if (st && c == 40) = true then h + 1 else h) = h2
        split
        · cases r with
          | nil => show min lo h2 < 0; omega
          | cons y r => exact ih r (by simp at hl; omega) _ _ (by omega)
        · exact ih r (by simp at hl; omega) _ _ (by omega)
  exact key _ l (Nat.le_refl _)

theorem closed_chk (l : List Nat) : ∀ (q : Bool) (n : Nat), (decide ((clF n 0 (l.zip (ann q l))).1 = 0) && decide ((clF n 0 (l.zip (ann q l))).2 = 0)) = chkF n (stripS q l) := by
  induction l using text_ind with
  | nil => intro q n; simp [clF, stripS, chkF, ann]
  | lone => intro q n; cases q <;> simp [clF, stripS, chkF, ann] <;> omega
  | esc d r ih =>
    intro q n
    rw [ann_esc, stripS_esc]
    have e : clF n 0 ((92 :: d :: r).zip ((!q) :: (!q) :: ann q r)) = clF n 0 (r.zip (ann q r)) := by
      simp only [List.zip_cons_cons, clF]
      simp
      rw [show min (0 : Int) n = 0 by omega]
    rw [e, ih]
    cases q <;> simp [chkF_esc]
  | one c r hc ih =>
    intro q n
    have step : ∀ (st : Bool) (rest : List (Nat × Bool)), clF n 0 ((c, st) :: rest) = if st && c == 40 then clF (n + 1) 0 rest else if st && c == 41 then clF (n - 1) (min 0 ((n : Int) - 1)) rest else clF n 0 rest := by
      intro st rest
      rw [clF.eq_def]; dsimp only; rw [if_neg hc]
      cases st
      · simp; rw [show min (0 : Int) n = 0 by omega]
      · by_cases h40 : c = 40
        · subst h40; simp; rw [show min (0 : Int) (n + 1) = 0 by omega]
        · by_cases h41 : c = 41
          · subst h41; simp
          · simp [h40, h41]; rw [show min (0 : Int) n = 0 by omega]
    by_cases h : c = 34
    · subst h
      have step' : ∀ (st : Bool) (rest : List (Nat × Bool)), clF n 0 ((34, st) :: rest) = clF n 0 rest := by intro st rest; rw [step]; simp
      rw [ann_mark, stripS_mark]
      split
      · rw [List.zip_cons_cons, step', ih]
      · split
        · rw [List.zip_cons_cons, step', ih]
        · rw [List.zip_cons_cons, step', ih, chkF_plain _ _ _ (by decide) (by decide) (by decide)]
    · rw [ann_one q r hc h, stripS_one q r hc h, List.zip_cons_cons, step]
      cases q
      · simp only [Bool.not_false, Bool.true_and, Bool.false_eq_true, if_false, List.cons_append, List.nil_append]
        rw [chkF_one n _ hc]
        by_cases h40 : c = 40
        · subst h40; simp only [beq_self_eq_true, if_true]
          exact ih false (n + 1)
        · by_cases h41 : c = 41
          · subst h41
            simp only [show ((41 : Nat) == 40) = false by decide, Bool.false_eq_true, if_false, beq_self_eq_true, if_true, show ¬ (41 : Nat) = 40 by decide]
            by_cases hn : n = 0
            · subst hn
              have := clF_low (r.zip (ann false r)) (((0 : Nat) : Int) - 1) (min 0 (((0 : Nat) : Int) - 1)) (by omega)
              simp only [if_true]
              have h2 : ¬ (clF (((0 : Nat) : Int) - 1) (min 0 (((0 : Nat) : Int) - 1)) (r.zip (ann false r))).2 = 0 := by omega
              rw [decide_eq_false h2]; simp
            · rw [if_neg hn, ← ih false (n - 1)]
              rw [show ((n : Int) - 1) = ((n - 1 : Nat) : Int) by omega, show min (0 : Int) ((n - 1 : Nat) : Int) = 0 by omega]
          · have b1 : (c == 40) = false := by simpa using h40
            have b2 : (c == 41) = false := by simpa using h41
            simp only [b1, b2, Bool.false_eq_true, if_false, if_neg h40, if_neg h41]
            exact ih false n
      · simp only [Bool.not_true, Bool.false_and, Bool.false_eq_true, if_false, if_true, List.nil_append]
        exact ih true n
theorem closed_check (l : List Nat) : (decide ((clF 0 0 (l.zip (ann false l))).1 = 0) && decide ((clF 0 0 (l.zip (ann false l))).2 = 0)) = check l := closed_chk l false 0
end Mine
end TPure
section TPure2
namespace Mine
set_option autoImplicit false

def lastOr (p : Nat) : List Nat → Nat
  | [] => p
  | c :: r => lastOr c r
theorem sendF_append (p : Nat) (x y : List Nat) : sendF p (x ++ y) = sendF p x ++ sendF (lastOr p x) y := by
  induction x generalizing p with
  | nil => rfl
  | cons c r ih => simp [sendF, lastOr, ih]
theorem lastOr_append (p : Nat) (x y : List Nat) : lastOr p (x ++ y) = lastOr (lastOr p x) y := by
  induction x generalizing p with
  | nil => rfl
  | cons c r ih => simp [lastOr, ih]
theorem lastOr_rep (p n c : Nat) : lastOr p (List.replicate (n + 1) c) = c := by
  induction n generalizing p with
  | zero => rfl
  | succ n ih => rw [List.replicate_succ, lastOr, ih]
theorem sendF_rep (p n : Nat) : sendF p (List.replicate (n + 1) 46) = List.replicate (n + 1 + if LS p then 1 else 0) 46 := by
  have inner : ∀ n, sendF 46 (List.replicate n 46) = List.replicate n 46 := by
    intro n
    induction n with
    | zero => rfl
    | succ n ih => rw [List.replicate_succ, sendF, ih]; simp [snd1, LS]
  rw [List.replicate_succ, sendF, inner]
  cases h : LS p <;> simp [snd1, h, List.replicate_succ]

/-! ## emission and sending -/
def Sync (t : Nat) (far p : Nat) : Prop := if t = 0 then p = far else p = if LS far then 10 else far
theorem Sync.ls {t far p : Nat} (h : Sync t far p) : LS p = LS far := by
  unfold Sync at h
  split at h
  · rw [h]
  · rw [h]; split
    · rename_i h'; rw [h']; rfl
    · rfl
theorem emit_dot (b a near far : Nat) : emit b a near far 46 = List.replicate (1 + (if LS near then b else 0) + (if LS far then a else 0)) 46 := by simp [emit]
theorem emit_plain (b a near far : Nat) {c : Nat} (h : c ≠ 46) (h1 : c ≠ 13) (h2 : c ≠ 10) : emit b a near far c = [c] := by simp [emit, h, h1, h2]
theorem emit_end (b a near far : Nat) {c : Nat} (h : c = 13 ∨ c = 10) : emit b a near far c = if b + a = 0 then [c] else if c = 13 ∨ (if b > 0 then near else far) ≠ 13 then [13, 10] else [] := by
  rcases h with rfl | rfl <;> simp [emit]

theorem send_emit (b a near far p c : Nat) (hs : Sync (b + a) far p) (hadj : near = 13 → far = 13) :
    sendF p (emit b a near far c) = emit b (a + 1) near far c ∧ Sync (b + a) c (lastOr p (emit b a near far c)) := by
  by_cases h46 : c = 46
  · subst h46
    rw [emit_dot, emit_dot]
    obtain ⟨n, hn⟩ : ∃ n, 1 + (if LS near then b else 0) + (if LS far then a else 0) = n + 1 := ⟨(if LS near then b else 0) + (if LS far then a else 0), by omega⟩
    rw [hn, sendF_rep, lastOr_rep, hs.ls]
    refine ⟨?_, ?_⟩
    · congr 1
      split <;> simp_all <;> omega
    · unfold Sync; split <;> simp [LS]
  · by_cases h13 : c = 13
    · subst h13
      rw [emit_end _ _ _ _ (.inl rfl), emit_end _ _ _ _ (.inl rfl)]
      by_cases hz : b + a = 0
      · rw [if_pos hz, if_neg (by omega : ¬ b + (a + 1) = 0)]
        refine ⟨by simp [sendF, snd1], ?_⟩
        unfold Sync; rw [if_pos hz]; rfl
      · rw [if_neg hz, if_neg (by omega : ¬ b + (a + 1) = 0)]
        refine ⟨by simp [sendF, snd1], ?_⟩
        unfold Sync; rw [if_neg hz]; simp [lastOr, LS]
    · by_cases h10 : c = 10
      · subst h10
        rw [emit_end _ _ _ _ (.inr rfl), emit_end _ _ _ _ (.inr rfl)]
        by_cases hz : b + a = 0
        · have hb : ¬ b > 0 := by omega
          unfold Sync at hs; rw [if_pos hz] at hs; subst hs
          rw [if_pos hz, if_neg (by omega : ¬ b + (a + 1) = 0)]
          refine ⟨?_, ?_⟩
          · simp only [if_neg hb, sendF, snd1]; simp
          · unfold Sync; rw [if_pos hz]; rfl
        · rw [if_neg hz, if_neg (by omega : ¬ b + (a + 1) = 0)]
          by_cases hc : (if b > 0 then near else far) = 13
          case neg =>
            rw [if_pos (.inr hc)]
            refine ⟨by simp [sendF, snd1], ?_⟩
            unfold Sync; rw [if_neg hz]; simp [lastOr, LS]
          case pos =>
            rw [if_neg (by rintro (x | x); exact absurd x (by decide); exact x hc)]
            have hf : far = 13 := by split at hc <;> simp_all
            refine ⟨rfl, ?_⟩
            unfold Sync at hs ⊢
            rw [if_neg hz] at hs ⊢
            subst hf; simpa [lastOr, LS] using hs
      · rw [emit_plain _ _ _ _ h46 h13 h10, emit_plain _ _ _ _ h46 h13 h10]
        refine ⟨by simp [sendF, snd1, h46, h13, h10], ?_⟩
        unfold Sync; split
        · rfl
        · simp [lastOr, LS, h13, h10]

def Adj (near far : Nat) : List (Nat × Bool) → Prop
  | [] => True
  | (c, st) :: r => (st = true → near = 13 → far = 13) ∧ Adj c (if st then c else far) r
theorem adj_ann (l : List Nat) : ∀ (q : Bool) (near far : Nat), (q = false → near = 13 → far = 13) → Adj near far (l.zip (ann q l)) := by
  induction l using text_ind with
  | nil => intros; trivial
  | lone => intro q near far h; simp only [ann, if_true, List.zip_cons_cons]; exact ⟨fun hq => h (by simpa using hq), trivial⟩
  | esc d r ih =>
    intro q near far h
    rw [ann_esc]
    simp only [List.zip_cons_cons]
    refine ⟨fun hq => h (by simpa using hq), fun _ h92 => absurd h92 (by decide), ?_⟩
    exact ih _ _ _ (fun hq => by subst hq; simp)
  | one c r hc ih =>
    intro q near far h
    by_cases h34 : c = 34
    · subst h34
      rw [ann_mark]
      split
      · simp only [List.zip_cons_cons]; exact ⟨fun x => (by cases x), ih _ _ _ fun _ h13 => absurd h13 (by decide)⟩
      · split
        · simp only [List.zip_cons_cons]; exact ⟨fun x => (by cases x), ih _ _ _ fun hq => (by cases hq)⟩
        · rename_i hq _
          simp only [List.zip_cons_cons]; exact ⟨fun _ => h (by simpa using hq), ih _ _ _ fun _ h13 => absurd h13 (by decide)⟩
    · rw [ann_one q r hc h34]
      simp only [List.zip_cons_cons]
      exact ⟨fun hq => h (by simpa using hq), ih _ _ _ (fun hq => by subst hq; simp)⟩

theorem send_told (b a : Nat) (z : List (Nat × Bool)) : ∀ (near far p : Nat), Sync (b + a) far p → Adj near far z → sendF p (told b true a near far z) = told b true (a + 1) near far z := by
  induction z with
  | nil => intros; rfl
  | cons x r ih =>
    obtain ⟨c, st⟩ := x
    intro near far p hs ha
    cases st with
    | false => simp only [told, Bool.not_true, Bool.or_false, Bool.false_eq_true, if_false]; exact ih _ _ _ hs ha.2
    | true =>
      simp only [told, Bool.not_true, Bool.or_false, if_true]
      obtain ⟨e1, e2⟩ := send_emit b a near far p c hs (ha.1 rfl)
      rw [sendF_append, e1, ih _ _ _ e2 ha.2]

/-! ## unread -/
def rawT (b near : Nat) : List Nat → List Nat
  | [] => []
  | c :: r => emit b 0 near near c ++ rawT b c r
theorem emit_far (b near far far' c : Nat) : emit b 0 near far c = emit b 0 near far' c := by
  unfold emit
  by_cases hb : b = 0
  · subst hb; simp
  · have : b > 0 := by omega
    simp [this]
theorem told_raw (b : Nat) (z : List (Nat × Bool)) : ∀ near far, told b false 0 near far z = rawT b near (z.map (·.1)) := by
  induction z with
  | nil => intros; rfl
  | cons x r ih =>
    obtain ⟨c, st⟩ := x
    intro near far
    simp only [told, Bool.not_false, Bool.or_true, if_true, List.map_cons, rawT]
    rw [ih, emit_far b near far near]
theorem raw_zero (l : List Nat) : ∀ near, rawT 0 near l = l := by
  induction l with
  | nil => intro; rfl
  | cons c r ih =>
    intro near
    simp only [rawT, ih]
    by_cases h46 : c = 46
    · subst h46; simp [emit]
    · simp [emit, h46]
theorem emit_shift (b near c : Nat) : emit b 1 near near c = emit (b + 1) 0 near near c := by
  unfold emit
  by_cases h : c = 46
  · rw [if_pos h, if_pos h]; congr 1; split <;> omega
  · rw [if_neg h, if_neg h]; simp
theorem send_raw (b : Nat) (l : List Nat) : ∀ near p, Sync b near p → sendF p (rawT b near l) = rawT (b + 1) near l := by
  induction l with
  | nil => intros; rfl
  | cons c r ih =>
    intro near p hs
    simp only [rawT]
    obtain ⟨e1, e2⟩ := send_emit b 0 near near p c hs id
    rw [sendF_append, e1, ih _ _ e2, Nat.zero_add, emit_shift]

theorem emit_esc (b d : Nat) : emit b 0 92 92 d = [13, 10] ∧ (d = 13 ∨ d = 10) ∨ emit b 0 92 92 d = [d] := by
  by_cases h46 : d = 46
  · subst h46; right; simp [emit, LS]
  · by_cases h : d = 13 ∨ d = 10
    · rw [emit_end _ _ _ _ h]
      split
      · right; rfl
      · left; refine ⟨?_, h⟩; rw [if_pos]; right; split <;> decide
    · right; exact emit_plain _ _ _ _ h46 (fun x => h (.inl x)) (fun x => h (.inr x))
theorem emit_marks (b near c : Nat) (h : c ≠ 92) (h' : c ≠ 34) : ∀ x ∈ emit b 0 near near c, x ≠ 92 ∧ x ≠ 34 := by
  intro x hx
  unfold emit at hx
  split at hx
  · rw [List.mem_replicate] at hx; obtain ⟨_, rfl⟩ := hx; decide
  · split at hx
    · simp at hx; subst hx; exact ⟨h, h'⟩
    · by_cases hk : c = 13 ∨ (if b > 0 then near else near) ≠ 13
      · rw [if_pos hk] at hx; simp at hx; rcases hx with rfl | rfl <;> decide
      · rw [if_neg hk] at hx; cases hx
theorem hasMark_plains (x y : List Nat) (h : ∀ c ∈ x, c ≠ 92 ∧ c ≠ 34) : hasMark (x ++ y) = hasMark y := by
  induction x with
  | nil => rfl
  | cons c r ih =>
    rw [List.cons_append, hasMark_plain _ _ (h c (.head _)).1 (h c (.head _)).2]
    exact ih fun c hc => h c (.tail _ hc)
theorem stripS_plains (q : Bool) (x y : List Nat) (h : ∀ c ∈ x, c ≠ 92 ∧ c ≠ 34) : stripS q (x ++ y) = (if q then [] else x) ++ stripS q y := by
  induction x with
  | nil => cases q <;> rfl
  | cons c r ih =>
    rw [List.cons_append, stripS_one _ _ (h c (.head _)).1 (h c (.head _)).2, ih fun c hc => h c (.tail _ hc)]
    cases q <;> rfl
theorem emit_bs (b near : Nat) : emit b 0 near near 92 = [92] := emit_plain _ _ _ _ (by decide) (by decide) (by decide)
theorem emit_mk (b near : Nat) : emit b 0 near near 34 = [34] := emit_plain _ _ _ _ (by decide) (by decide) (by decide)
theorem hasMark_raw (b : Nat) (l : List Nat) : ∀ near, hasMark (rawT b near l) = hasMark l := by
  induction l using text_ind with
  | nil => intro; rfl
  | lone => intro near; simp [rawT, emit_bs]
  | esc d r ih =>
    intro near
    simp only [rawT, emit_bs, hasMark_esc]
    rcases emit_esc b d with ⟨e, _⟩ | e <;> rw [e] <;> simp only [List.cons_append, List.nil_append, hasMark_esc]
    · rw [hasMark_plain _ _ (by decide) (by decide), ih]
    · exact ih _
  | one c r hc ih =>
    intro near
    simp only [rawT]
    by_cases h : c = 34
    · subst h; rw [emit_mk]; simp only [List.cons_append, List.nil_append]; rw [hasMark_one _ (by decide), hasMark_one _ (by decide)]; rfl
    · rw [hasMark_plains _ _ (emit_marks b near c hc h), ih, hasMark_plain c r hc h]
theorem strip_raw (b : Nat) (l : List Nat) : ∀ (q : Bool) (near far : Nat), stripS q (rawT b near l) = told b true 0 near far (l.zip (ann q l)) := by
  induction l using text_ind with
  | nil => intros; rfl
  | lone => intro q near far; simp only [rawT, emit_bs, ann, if_true, List.zip_cons_cons]; cases q <;> simp [stripS, told, emit]
  | esc d r ih =>
    intro q near far
    rw [ann_esc]
    simp only [rawT, emit_bs, List.zip_cons_cons, told]
    cases q with
    | false =>
      simp only [Bool.not_false, Bool.true_or, if_true]
      rw [emit_far b near far near, emit_bs]
      rcases emit_esc b d with ⟨e, _⟩ | e <;> rw [e] <;> simp only [List.cons_append, List.nil_append, stripS_esc, Bool.false_eq_true, if_false]
      · rw [stripS_one _ _ (by decide) (by decide)]; simp only [Bool.false_eq_true, if_false, List.cons_append, List.nil_append]; rw [ih]
      · rw [ih]
    | true =>
      simp only [Bool.not_true, Bool.or_false, Bool.false_eq_true, if_false]
      rcases emit_esc b d with ⟨e, _⟩ | e <;> rw [e] <;> simp only [List.cons_append, List.nil_append, stripS_esc, if_true]
      · rw [stripS_one _ _ (by decide) (by decide)]; simp only [if_true, List.nil_append]; rw [ih]
      · rw [ih]
  | one c r hc ih =>
    intro q near far
    simp only [rawT]
    by_cases h : c = 34
    · subst h
      rw [emit_mk, ann_mark]
      simp only [List.cons_append, List.nil_append]
      rw [stripS_mark, hasMark_raw]
      split
      · simp only [List.zip_cons_cons, told, Bool.not_true, Bool.or_false, Bool.false_eq_true, if_false]; exact ih _ _ _
      · split
        · simp only [List.zip_cons_cons, told, Bool.not_true, Bool.or_false, Bool.false_eq_true, if_false]; exact ih _ _ _
        · simp only [List.zip_cons_cons, told, Bool.not_true, Bool.or_false, if_true]
          rw [emit_far b near far near, emit_mk, List.cons_append, List.nil_append, ih]
    · rw [ann_one q r hc h, stripS_plains q _ _ (emit_marks b near c hc h)]
      simp only [List.zip_cons_cons, told]
      cases q with
      | false =>
        simp only [Bool.not_false, Bool.true_or, if_true, Bool.false_eq_true, if_false]
        rw [emit_far b near far near, ih]
      | true =>
        simp only [Bool.not_true, Bool.or_false, Bool.false_eq_true, if_false, if_true, List.nil_append]
        exact ih _ _ _

/-! ## the run of hands -/
structure Inv (built now : List Nat) (read : Bool) (ahead since : Nat) : Prop where
  eq : now = told ahead read since 10 10 (built.zip (ann false built))
  closed : read = true → noClosed now = true
  fresh : read = false → since = 0
  check : check now = check built

theorem zip_fst (l : List Nat) : (l.zip (ann false l)).map (·.1) = l := by
  rw [List.map_fst_zip]; rw [ann_length]; exact Nat.le_refl _
theorem sync_start (t : Nat) : Sync t 10 10 := by unfold Sync; split <;> simp
theorem Inv.start (built : List Nat) : Inv built built false 0 0 where
  eq := by rw [told_raw, zip_fst, raw_zero]
  closed := by intro h; cases h
  fresh := fun _ => rfl
  check := rfl
theorem Inv.read {built now : List Nat} {rd : Bool} {ahead since : Nat} (I : Inv built now rd ahead since) : Inv built (stripS false now) true ahead since := by
  refine ⟨?_, fun _ => noClosed_strip _ _, by (intro h; cases h), (check_strip _).trans I.check⟩
  cases rd with
  | false =>
    have h0 := I.fresh rfl
    subst h0
    rw [I.eq, told_raw, zip_fst, strip_raw]
  | true => rw [strip_noClosed (I.closed rfl)]; exact I.eq
theorem Inv.send {built now : List Nat} {rd : Bool} {ahead since : Nat} (I : Inv built now rd ahead since) :
    Inv built (sendF 10 now) rd (if rd then ahead else ahead + 1) (if rd then since + 1 else since) := by
  refine ⟨?_, fun h => by rw [noClosed_send]; exact I.closed h, fun h => by subst h; exact I.fresh rfl, (check_send _ _).trans I.check⟩
  cases rd with
  | false =>
    have h0 := I.fresh rfl
    subst h0
    simp only [Bool.false_eq_true, if_false]
    rw [I.eq, told_raw, told_raw, zip_fst]
    exact send_raw _ _ _ _ (sync_start _)
  | true =>
    simp only [if_true]
    rw [I.eq]
    exact send_told _ _ _ _ _ _ (sync_start _) (adj_ann _ _ _ _ (fun _ h => absurd h (by decide)))

theorem send_len (p : Nat) (l : List Nat) : (sendF p l).length ≤ 2 * l.length := by
  induction l generalizing p with
  | nil => simp [sendF]
  | cons c r ih =>
    simp only [sendF, List.length_append, List.length_cons]
    have := ih c
    have h1 : (snd1 p c).length ≤ 2 := by rcases snd1_cases p c with ⟨e, _⟩ | ⟨e, _⟩ | ⟨e, _⟩ | ⟨e, _⟩ | ⟨e, _⟩ <;> rw [e] <;> simp
    omega
theorem send_mem (p : Nat) (l : List Nat) (m : Nat) (hm : 100 < m) (h : ∀ c ∈ l, c < m) : ∀ c ∈ sendF p l, c < m := by
  induction l generalizing p with
  | nil => intro c hc; cases hc
  | cons c r ih =>
    intro x hx
    simp only [sendF, List.mem_append] at hx
    rcases hx with hx | hx
    · rcases snd1_cases p c with ⟨e, _⟩ | ⟨e, _⟩ | ⟨e, _⟩ | ⟨e, _⟩ | ⟨e, _⟩ <;> rw [e] at hx <;> simp at hx
      · omega
      · omega
      · omega
      · subst hx; exact h _ (.head _)
    · exact ih c (fun c hc => h c (.tail _ hc)) x hx
theorem strip_sub (q : Bool) (l : List Nat) : (stripS q l).Sublist l := by
  induction l using text_ind generalizing q with
  | nil => exact .slnil
  | lone => cases q <;> simp [stripS]
  | esc d r ih =>
    rw [stripS_esc]
    cases q
    · exact ((ih _).cons_cons _).cons_cons _
    · exact ((ih _).cons _).cons _
  | one c r hc ih =>
    by_cases h : c = 34
    · subst h; rw [stripS_mark]
      split
      · exact (ih _).cons _
      · split
        · exact (ih _).cons _
        · exact (ih _).cons_cons _
    · rw [stripS_one q r hc h]
      cases q
      · exact (ih _).cons_cons _
      · exact (ih _).cons _
end Mine
end TPure2
section TRe1
namespace Mine
set_option autoImplicit false
open PySem PySem.Sre
abbrev C1 : Array Nat := #[14, 4, 0, 1, 1, 6, 1, 16, 46, 1]
def fr1 (s : Nat) (om : Bool) : Sre.Frame := { wait := .nextStart, pc := 5, pos := s, outermost := om }
def m1 (text : Array Nat) (lim s : Nat) (om : Bool) (sn : Seen) : M :=
  { code := C1, text, lim, start := s, lastStart := lim, pc := 5, pos := s, handed := s, outermost := om, marks := #[], frames := [fr1 s om], weight := 1, seen := sn }

theorem search1 (text : Array Nat) (lim s : Nat) (h : s < lim) : forSearch C1 text 0 s lim false = m1 text lim s true (({} : Seen).add 14) := by
  have h' : (decide (s > lim) || decide (lim - s < 1)) = false := by simp; omega
  show (if (decide (s > lim) || decide (lim - s < 1)) = true then _ else _) = _
  rw [h', if_neg Bool.false_ne_true]
  rfl
theorem search1_end (text : Array Nat) (s : Nat) : ∃ n m, n ≤ 4 ∧ (forSearch C1 text 0 s s false).runFor n = m ∧ m.outcome = some .failed := by
  refine ⟨1, _, by decide, rfl, ?_⟩
  have h' : (decide (s > s) || decide (s - s < 1)) = true := by simp
  have : forSearch C1 text 0 s s false = (if (decide (s > s) || decide (s - s < 1)) = true then _ else _) := rfl
  rw [this, h', if_pos rfl]
  rfl
theorem step1a (text : Array Nat) (lim s : Nat) (om : Bool) (sn : Seen) : (m1 text lim s om sn).step =
    if (s == 0 || text.getD (s - 1) 0 == 10) = true then { m1 text lim s om sn with pc := 7, seen := (sn.add 6).add 44 } else { m1 text lim s om sn with answer := some false, seen := (sn.add 6).add 44 } := rfl
theorem step1b (text : Array Nat) (lim s : Nat) (om : Bool) (sn : Seen) : ({ m1 text lim s om sn with pc := 7 } : M).step =
    if s ≥ lim then { m1 text lim s om sn with pc := 7, answer := some false, seen := sn.add 16 } else
      match (Except.ok (text.getD s 0 == 46, sn.add 16) : Except String (Bool × Seen)) with
    | .error why => ({ m1 text lim s om sn with pc := 7, seen := sn.add 16 } : M).stick why
    | .ok (false, seen) => { m1 text lim s om sn with pc := 7, answer := some false, seen }
    | .ok (true, seen) => { m1 text lim s om sn with pc := 9, pos := s + 1, seen } := rfl
theorem step1c (text : Array Nat) (lim s : Nat) (om : Bool) (sn : Seen) : ({ m1 text lim s om sn with pc := 9, pos := s + 1 } : M).step =
    if (om && ((false && (s + 1 != lim)) || (false && (s + 1 == s)))) = true then { m1 text lim s om sn with pc := 9, pos := s + 1, answer := some false, seen := sn.add 1 }
    else { m1 text lim s om sn with pc := 9, pos := s + 1, handed := s + 1, answer := some true, seen := sn.add 1 } := rfl
theorem step1d (text : Array Nat) (lim s : Nat) (om : Bool) (sn : Seen) : (({ m1 text lim s om sn with pc := 9, pos := s + 1, handed := s + 1, answer := some true } : M).step).step =
    { m1 text lim s om sn with pc := 5, pos := s, handed := s + 1, answer := some true, frames := [], weight := 0, outcome := some .matched } := rfl
theorem step1e (text : Array Nat) (lim s pc : Nat) (om : Bool) (sn : Seen) : ({ m1 text lim s om sn with pc := pc, answer := some false } : M).step =
    if s < lim then m1 text lim (s + 1) false sn else { m1 text lim s om sn with pc := 5, answer := some false, frames := [], weight := 0 } := by
  rfl

theorem runFor_add (a b : Nat) (m : M) : m.runFor (a + b) = (m.runFor a).runFor b := by
  induction a generalizing m with
  | zero => rw [Nat.zero_add]; rfl
  | succ a ih =>
    rw [Nat.succ_add]
    show (if m.outcome.isSome then m else M.runFor (a + b) m.step) = M.runFor b (if m.outcome.isSome then m else M.runFor a m.step)
    split
    · rename_i h
      cases b with
      | zero => rfl
      | succ b => show m = if m.outcome.isSome then m else _; rw [if_pos h]
    · exact ih _
theorem runFor_step (n : Nat) (m : M) (h : m.outcome = none) : m.runFor (n + 1) = m.step.runFor n := by
  show (if m.outcome.isSome then m else M.runFor n m.step) = _
  rw [h]; rfl

structure Hit (m : M) (n a b : Nat) : Prop where
  out : (m.runFor n).outcome = some .matched
  start : (m.runFor n).start = a
  handed : (m.runFor n).handed = b
structure Miss (m : M) (n : Nat) : Prop where
  out : (m.runFor n).outcome = some .failed
theorem Hit.before {m m' : M} {n k a b : Nat} (h : Hit m' n a b) (e : m.runFor k = m') : Hit m (k + n) a b := by
  refine ⟨?_, ?_, ?_⟩ <;> rw [runFor_add, e]
  · exact h.out
  · exact h.start
  · exact h.handed
theorem Miss.before {m m' : M} {n k : Nat} (h : Miss m' n) (e : m.runFor k = m') : Miss m (k + n) := ⟨by rw [runFor_add, e]; exact h.out⟩

/-- a dot stands at a line's beginning -/
def dotAt (text : Array Nat) (s : Nat) : Prop := s < text.size ∧ (s = 0 ∨ text.getD (s - 1) 0 = 10) ∧ text.getD s 0 = 46

theorem find1 (text : Array Nat) : ∀ (k s : Nat) (om : Bool) (sn : Seen), text.size - s = k → s ≤ text.size →
    (∃ n a, n ≤ 8 * (k + 1) ∧ s ≤ a ∧ dotAt text a ∧ (∀ j, s ≤ j → j < a → ¬ dotAt text j) ∧ Hit (m1 text text.size s om sn) n a (a + 1)) ∨
    (∃ n, n ≤ 8 * (k + 1) ∧ (∀ j, s ≤ j → ¬ dotAt text j) ∧ Miss (m1 text text.size s om sn) n) := by
  intro k
  induction k with
  | zero =>
    intro s om sn hk hs
    have hs : s = text.size := by omega
    right
    have no : ∀ j, s ≤ j → ¬ dotAt text j := fun j hj h => by have := h.1; omega
    cases hb : (s == 0 || text.getD (s - 1) 0 == 10) with
    | false =>
      refine ⟨3, by omega, no, ⟨?_⟩⟩
      rw [runFor_step _ _ rfl, step1a, hb, if_neg Bool.false_ne_true, runFor_step _ _ rfl]
      have e3 := step1e text text.size s 5 om ((sn.add 6).add 44)
      rw [if_neg (by omega)] at e3
      have e3' : ({ m1 text text.size s om sn with answer := some false, seen := (sn.add 6).add 44 } : M).step = _ := e3
      rw [e3']
      rfl
    | true =>
      refine ⟨4, by omega, no, ⟨?_⟩⟩
      rw [runFor_step _ _ rfl, step1a, hb, if_pos rfl, runFor_step _ _ rfl]
      have := step1b text text.size s om ((sn.add 6).add 44)
      rw [if_pos (by omega)] at this
      have e2 : ({ m1 text text.size s om sn with pc := 7, seen := (sn.add 6).add 44 } : M).step = _ := this
      rw [e2, runFor_step _ _ rfl]
      have e3 := step1e text text.size s 7 om (((sn.add 6).add 44).add 16)
      rw [if_neg (by omega)] at e3
      have e3' : ({ m1 text text.size s om ((sn.add 6).add 44) with pc := 7, answer := some false, seen := ((sn.add 6).add 44).add 16 } : M).step = _ := e3
      rw [e3']
      rfl
  | succ k ih =>
    intro s om sn hk hs
    have hlt : s < text.size := by omega
    -- what follows a failure at s
    have next : ∀ (n0 : Nat) (sn' : Seen), n0 ≤ 4 → ¬ dotAt text s → (m1 text text.size s om sn).runFor n0 = m1 text text.size (s + 1) false sn' →
        (∃ n a, n ≤ 8 * (k + 1 + 1) ∧ s ≤ a ∧ dotAt text a ∧ (∀ j, s ≤ j → j < a → ¬ dotAt text j) ∧ Hit (m1 text text.size s om sn) n a (a + 1)) ∨
        (∃ n, n ≤ 8 * (k + 1 + 1) ∧ (∀ j, s ≤ j → ¬ dotAt text j) ∧ Miss (m1 text text.size s om sn) n) := by
      intro n0 sn' h0 hno e
      rcases ih (s + 1) false sn' (by omega) (by omega) with ⟨n, a, h1, h2, h3, h4, h5⟩ | ⟨n, h1, h2, h3⟩
      · refine .inl ⟨n0 + n, a, by omega, by omega, h3, fun j hj hja => ?_, h5.before e⟩
        rcases Nat.lt_or_eq_of_le hj with hj | rfl
        · exact h4 j hj hja
        · exact hno
      · refine .inr ⟨n0 + n, by omega, fun j hj => ?_, h3.before e⟩
        rcases Nat.lt_or_eq_of_le hj with hj | rfl
        · exact h2 j hj
        · exact hno
    cases hb : (s == 0 || text.getD (s - 1) 0 == 10) with
    | false =>
      refine next 2 _ (by decide) (fun h => ?_) (by
        rw [runFor_step _ _ rfl, step1a, hb, if_neg Bool.false_ne_true, runFor_step _ _ rfl]
        have := step1e text text.size s 5 om ((sn.add 6).add 44)
        rw [if_pos hlt] at this
        exact this)
      have := h.2.1
      simp only [Bool.or_eq_false_iff, beq_eq_false_iff_ne, ne_eq] at hb
      rcases this with h | h
      · exact hb.1 h
      · exact hb.2 h
    | true =>
      have e1 : (m1 text text.size s om sn).step = { m1 text text.size s om sn with pc := 7, seen := (sn.add 6).add 44 } := by rw [step1a, hb, if_pos rfl]
      have e2 := step1b text text.size s om ((sn.add 6).add 44)
      rw [if_neg (by omega)] at e2
      cases hd : (text.getD s 0 == 46) with
      | false =>
        rw [hd] at e2
        refine next 3 _ (by decide) (fun h => ?_) (by
          rw [runFor_step _ _ rfl, e1, runFor_step _ _ rfl]
          have e2' : ({ m1 text text.size s om sn with pc := 7, seen := (sn.add 6).add 44 } : M).step = _ := e2
          rw [e2', runFor_step _ _ rfl]
          have := step1e text text.size s 7 om (((sn.add 6).add 44).add 16)
          rw [if_pos hlt] at this
          exact this)
        rw [h.2.2] at hd; exact absurd hd (by decide)
      | true =>
        rw [hd] at e2
        refine .inl ⟨5, s, by omega, Nat.le_refl _, ⟨hlt, by simpa using hb, by simpa using hd⟩, fun j h1 h2 => by omega, ?_⟩
        have e : (m1 text text.size s om sn).runFor 5 = { m1 text text.size s om ((((sn.add 6).add 44).add 16).add 1) with pc := 5, pos := s, handed := s + 1, answer := some true, frames := [], weight := 0, outcome := some .matched } := by
          rw [runFor_step _ _ rfl, e1, runFor_step _ _ rfl]
          have e2' : ({ m1 text text.size s om sn with pc := 7, seen := (sn.add 6).add 44 } : M).step = _ := e2
          rw [e2', runFor_step _ _ rfl]
          have e3 := step1c text text.size s om (((sn.add 6).add 44).add 16)
          rw [if_neg (by simp)] at e3
          have e3' : ({ m1 text text.size s om ((sn.add 6).add 44) with pc := 9, pos := s + 1, seen := ((sn.add 6).add 44).add 16 } : M).step = _ := e3
          dsimp only
          rw [e3', runFor_step _ _ rfl]
          rw [runFor_step]
          · exact step1d text text.size s om ((((sn.add 6).add 44).add 16).add 1)
          · rfl
        refine ⟨?_, ?_, ?_⟩ <;> rw [e] <;> rfl
end Mine
end TRe1
section TRe3
namespace Mine
set_option autoImplicit false
open PySem PySem.Sre
abbrev C3 : Array Nat := #[14, 9, 4, 1, 2, 16, 10, 16, 13, 0, 7, 7, 16, 13, 16, 10, 15, 18, 5, 16, 10, 15, 13, 11, 16, 13, 5, 5, 0, 16, 10, 1, 15, 2, 0, 1]
def frS (s : Nat) (om : Bool) : Sre.Frame := { wait := .nextStart, pc := 10, pos := s, outermost := om }
def frB (s pc : Nat) (om : Bool) : Sre.Frame := { wait := .nextBranch, pc := pc, pos := s, outermost := om, kept := { } }
def frN (s : Nat) (om : Bool) : Sre.Frame := { wait := .lookNot, pc := 26, pos := s, outermost := om, kept := { } }
def m3 (text : Array Nat) (lim s : Nat) (om : Bool) (sn : Seen) : M :=
  { code := C3, text, lim, start := s, lastStart := lim, pc := 10, pos := s, handed := s, outermost := om, marks := #[], frames := [frS s om], weight := 1, seen := sn }
def at3 (text : Array Nat) (lim s : Nat) (om : Bool) (sn : Seen) (pc pos alt : Nat) : M := { m3 text lim s om sn with pc, pos, frames := [frB s alt om, frS s om], weight := 2 }

section
variable (text : Array Nat) (lim s : Nat) (om : Bool) (sn : Seen)
theorem st3_branch : (m3 text lim s om sn).step = at3 text lim s om (sn.add 7) 12 s 11 := rfl
theorem st3_lit12 : (at3 text lim s om sn 12 s 11).step = if s ≥ lim then { at3 text lim s om (sn.add 16) 12 s 11 with answer := some false } else
      match (Except.ok (text.getD s 0 == 13, sn.add 16) : Except String (Bool × Seen)) with
    | .error why => (at3 text lim s om (sn.add 16) 12 s 11).stick why
    | .ok (false, seen) => { at3 text lim s om seen 12 s 11 with answer := some false }
    | .ok (true, seen) => at3 text lim s om seen 14 (s + 1) 11 := rfl
theorem st3_lit14 : (at3 text lim s om sn 14 (s + 1) 11).step = if s + 1 ≥ lim then { at3 text lim s om (sn.add 16) 14 (s + 1) 11 with answer := some false } else
      match (Except.ok (text.getD (s + 1) 0 == 10, sn.add 16) : Except String (Bool × Seen)) with
    | .error why => (at3 text lim s om (sn.add 16) 14 (s + 1) 11).stick why
    | .ok (false, seen) => { at3 text lim s om seen 14 (s + 1) 11 with answer := some false }
    | .ok (true, seen) => at3 text lim s om seen 16 (s + 2) 11 := rfl
theorem st3_fail11 (pc pos : Nat) : ({ at3 text lim s om sn pc pos 11 with answer := some false } : M).step = { at3 text lim s om sn 19 s 18 with handed := s } := rfl
theorem st3_lit19 : (at3 text lim s om sn 19 s 18).step = if s ≥ lim then { at3 text lim s om (sn.add 16) 19 s 18 with answer := some false } else
      match (Except.ok (text.getD s 0 == 10, sn.add 16) : Except String (Bool × Seen)) with
    | .error why => (at3 text lim s om (sn.add 16) 19 s 18).stick why
    | .ok (false, seen) => { at3 text lim s om seen 19 s 18 with answer := some false }
    | .ok (true, seen) => at3 text lim s om seen 21 (s + 1) 18 := rfl
theorem st3_fail18 (pc pos : Nat) : ({ at3 text lim s om sn pc pos 18 with answer := some false } : M).step = at3 text lim s om sn 24 s 23 := rfl
theorem st3_lit24 : (at3 text lim s om sn 24 s 23).step = if s ≥ lim then { at3 text lim s om (sn.add 16) 24 s 23 with answer := some false } else
      match (Except.ok (text.getD s 0 == 13, sn.add 16) : Except String (Bool × Seen)) with
    | .error why => (at3 text lim s om (sn.add 16) 24 s 23).stick why
    | .ok (false, seen) => { at3 text lim s om seen 24 s 23 with answer := some false }
    | .ok (true, seen) => at3 text lim s om seen 26 (s + 1) 23 := rfl
def look3 (pc : Nat) : M := { m3 text lim s om sn with pc, pos := s + 1, handed := s + 1, outermost := false, frames := [frN (s + 1) om, frB s 23 om, frS s om], weight := 3 }
theorem st3_look : (at3 text lim s om sn 26 (s + 1) 23).step = look3 text lim s om (sn.add 5) 29 := rfl
theorem st3_lit29 : (look3 text lim s om sn 29).step = if s + 1 ≥ lim then { look3 text lim s om (sn.add 16) 29 with answer := some false } else
      match (Except.ok (text.getD (s + 1) 0 == 10, sn.add 16) : Except String (Bool × Seen)) with
    | .error why => (look3 text lim s om (sn.add 16) 29).stick why
    | .ok (false, seen) => { look3 text lim s om seen 29 with answer := some false }
    | .ok (true, seen) => { look3 text lim s om seen 31 with pos := s + 2 } := rfl
theorem st3_notSeen : ({ look3 text lim s om sn 29 with answer := some false } : M).step = { at3 text lim s om sn 32 (s + 1) 23 with handed := s + 1 } := rfl
theorem st3_end (pc pos alt hd : Nat) (hpc : pc = 16 ∨ pc = 21 ∨ pc = 32) : ∃ sn', ({ at3 text lim s om sn pc pos alt with handed := hd } : M).runFor 5 =
    { m3 text lim s om sn' with handed := pos, answer := some true, frames := [], weight := 0, outcome := some .matched } := by
  rcases hpc with rfl | rfl | rfl
  all_goals
    refine ⟨(sn.add 15).add 1, ?_⟩
    rw [runFor_step _ _ rfl, runFor_step]
    · have h' : (om && ((false && (pos != lim)) || (false && (pos == s)))) = false := by simp
      show M.runFor 3 (if (om && ((false && (pos != lim)) || (false && (pos == s)))) = true then _ else _) = _
      rw [h', if_neg Bool.false_ne_true]
      rfl
    · rfl
end

def eolAt (text : Array Nat) (s : Nat) : Prop := s < text.size ∧ (text.getD s 0 = 13 ∨ text.getD s 0 = 10)
/-- the place behind the line end at s -/
def eolEnd (text : Array Nat) (s : Nat) : Nat := if text.getD s 0 = 13 ∧ s + 1 < text.size ∧ text.getD (s + 1) 0 = 10 then s + 2 else s + 1

theorem hit3 (text : Array Nat) (s : Nat) (om : Bool) (sn : Seen) (h : eolAt text s) : ∃ n, n ≤ 30 ∧ Hit (m3 text text.size s om sn) n s (eolEnd text s) := by
  have hlt := h.1
  have fin : ∀ (k pc pos alt hd : Nat) (sn' : Seen), k ≤ 20 → (pc = 16 ∨ pc = 21 ∨ pc = 32) → pos = eolEnd text s → (m3 text text.size s om sn).runFor k = { at3 text text.size s om sn' pc pos alt with handed := hd } →
      ∃ n, n ≤ 30 ∧ Hit (m3 text text.size s om sn) n s (eolEnd text s) := by
    intro k pc pos alt hd sn' hk hpc hpos e
    obtain ⟨sn2, e2⟩ := st3_end text text.size s om sn' pc pos alt hd hpc
    refine ⟨k + 5, by omega, Hit.before (m' := { at3 text text.size s om sn' pc pos alt with handed := hd }) ⟨?_, ?_, ?_⟩ e⟩ <;> rw [e2]
    · rfl
    · exact hpos
  have s1 := st3_branch text text.size s om sn
  rcases h.2 with h13 | h10
  · have s2 := st3_lit12 text text.size s om (sn.add 7)
    rw [if_neg (by omega), show (text.getD s 0 == 13) = true by rw [h13]; rfl] at s2
    by_cases h2 : s + 1 < text.size ∧ text.getD (s + 1) 0 = 10
    · have s3 := st3_lit14 text text.size s om ((sn.add 7).add 16)
      rw [if_neg (by omega), show (text.getD (s + 1) 0 == 10) = true by rw [h2.2]; rfl] at s3
      refine fin 3 16 (s + 2) 11 s (((sn.add 7).add 16).add 16) (by decide) (.inl rfl) (by unfold eolEnd; rw [if_pos ⟨h13, h2⟩]) ?_
      rw [runFor_step _ _ rfl, s1, runFor_step _ _ rfl, s2, runFor_step]
      · rw [s3]; rfl
      · rfl
    · have he : eolEnd text s = s + 1 := by unfold eolEnd; rw [if_neg (fun x => h2 x.2)]
      have s3 : ∃ sn3, (at3 text text.size s om ((sn.add 7).add 16) 14 (s + 1) 11).step = { at3 text text.size s om sn3 14 (s + 1) 11 with answer := some false } := by
        have s3 := st3_lit14 text text.size s om ((sn.add 7).add 16)
        by_cases hl : s + 1 ≥ text.size
        · rw [if_pos hl] at s3; exact ⟨_, s3⟩
        · rw [if_neg hl, show (text.getD (s + 1) 0 == 10) = false by (have : ¬ text.getD (s + 1) 0 = 10 := fun x => h2 ⟨by omega, x⟩); simpa using this] at s3
          exact ⟨_, s3⟩
      obtain ⟨sn3, s3⟩ := s3
      have s4 := st3_fail11 text text.size s om sn3 14 (s + 1)
      have s5 := st3_lit19 text text.size s om sn3
      rw [if_neg (by omega), show (text.getD s 0 == 10) = false by rw [h13]; rfl] at s5
      have s6 := st3_fail18 text text.size s om (sn3.add 16) 19 s
      have s7 := st3_lit24 text text.size s om (sn3.add 16)
      rw [if_neg (by omega), show (text.getD s 0 == 13) = true by rw [h13]; rfl] at s7
      have s8 := st3_look text text.size s om ((sn3.add 16).add 16)
      have s9 : ∃ sn9, (look3 text text.size s om (((sn3.add 16).add 16).add 5) 29).step = { look3 text text.size s om sn9 29 with answer := some false } := by
        have s3 := st3_lit29 text text.size s om (((sn3.add 16).add 16).add 5)
        by_cases hl : s + 1 ≥ text.size
        · rw [if_pos hl] at s3; exact ⟨_, s3⟩
        · rw [if_neg hl, show (text.getD (s + 1) 0 == 10) = false by (have : ¬ text.getD (s + 1) 0 = 10 := fun x => h2 ⟨by omega, x⟩); simpa using this] at s3
          exact ⟨_, s3⟩
      obtain ⟨sn9, s9⟩ := s9
      have s10 := st3_notSeen text text.size s om sn9
      refine fin 10 32 (s + 1) 23 (s + 1) sn9 (by decide) (.inr (.inr rfl)) he.symm ?_
      have s4' : ({ at3 text text.size s om sn3 14 (s + 1) 11 with answer := some false } : M).step = at3 text text.size s om sn3 19 s 18 := s4
      rw [runFor_step _ _ rfl, s1, runFor_step _ _ rfl, s2, runFor_step]
      · rw [s3, runFor_step]
        · rw [s4', runFor_step]
          · rw [s5]
            rw [runFor_step]
            · rw [s6, runFor_step]
              · rw [s7, runFor_step]
                · rw [s8, runFor_step]
                  · rw [s9, runFor_step]
                    · rw [s10]; rfl
                    · rfl
                  · rfl
                · rfl
              · rfl
            · rfl
          · rfl
        · rfl
      · rfl
  · have he : eolEnd text s = s + 1 := by unfold eolEnd; rw [if_neg (fun x => by rw [h10] at x; exact absurd x.1 (by decide))]
    have s2 := st3_lit12 text text.size s om (sn.add 7)
    rw [if_neg (by omega), show (text.getD s 0 == 13) = false by rw [h10]; rfl] at s2
    have s3 : ({ at3 text text.size s om ((sn.add 7).add 16) 12 s 11 with answer := some false } : M).step = at3 text text.size s om ((sn.add 7).add 16) 19 s 18 := st3_fail11 text text.size s om ((sn.add 7).add 16) 12 s
    have s4 := st3_lit19 text text.size s om ((sn.add 7).add 16)
    rw [if_neg (by omega), show (text.getD s 0 == 10) = true by rw [h10]; rfl] at s4
    refine fin 4 21 (s + 1) 18 s (((sn.add 7).add 16).add 16) (by decide) (.inr (.inl rfl)) he.symm ?_
    rw [runFor_step _ _ rfl, s1, runFor_step _ _ rfl, s2, runFor_step]
    · rw [s3, runFor_step]
      · rw [s4]; rfl
      · rfl
    · rfl

theorem inSet3 (c : Nat) (sn : Seen) : ∃ sn', inSet C3 c C3.size 5 true sn = .ok (c == 10 || c == 13, sn') := by
  show ∃ sn', (if (c == 10) = true then (.ok (true, sn.add 16) : Except String (Bool × Seen)) else if (c == 13) = true then .ok (true, (sn.add 16).add 16) else .ok (!true, ((sn.add 16).add 16).add 0)) = _
  cases h : c == 10
  · cases h' : c == 13
    · exact ⟨_, rfl⟩
    · exact ⟨_, rfl⟩
  · exact ⟨_, rfl⟩
theorem admitted3 (m : M) (hc : m.code = C3) (text : Array Nat) (ht : m.text = text) (hl : m.lim = text.size) : ∀ (fuel s : Nat) (sn : Seen), text.size + 1 - s ≤ fuel → s ≤ text.size →
    (∃ a sn', m.admitted fuel s sn = .ok (some a, sn') ∧ s ≤ a ∧ eolAt text a ∧ ∀ j, s ≤ j → j < a → ¬ eolAt text j) ∨
    (∃ sn', m.admitted fuel s sn = .ok (none, sn') ∧ ∀ j, s ≤ j → ¬ eolAt text j) := by
  intro fuel
  induction fuel with
  | zero => intro s sn h1 h2; omega
  | succ fuel ih =>
    intro s sn h1 h2
    unfold M.admitted
    by_cases hs : s ≥ text.size
    · rw [hl, if_pos hs]
      exact .inr ⟨_, rfl, fun j hj h => by have := h.1; omega⟩
    · rw [hl, if_neg hs, hc, ht]
      obtain ⟨sn', e⟩ := inSet3 (text.getD s 0) sn
      rw [e]
      cases hb : (text.getD s 0 == 10 || text.getD s 0 == 13) with
      | true =>
        refine .inl ⟨s, sn', rfl, Nat.le_refl _, ⟨by omega, ?_⟩, fun j h1 h2 => by omega⟩
        rcases Bool.or_eq_true_iff.mp hb with h | h
        · exact .inr (by simpa using h)
        · exact .inl (by simpa using h)
      | false =>
        have hno : ¬ eolAt text s := by
          intro h
          rw [Bool.or_eq_false_iff] at hb
          rcases h.2 with h | h
          · rw [h] at hb; exact absurd hb.2 (by decide)
          · rw [h] at hb; exact absurd hb.1 (by decide)
        rcases ih (s + 1) sn' (by omega) (by omega) with ⟨a, sn2, g1, g2, g3, g4⟩ | ⟨sn2, g1, g2⟩
        · refine .inl ⟨a, sn2, g1, by omega, g3, fun j hj hja => ?_⟩
          rcases Nat.lt_or_eq_of_le hj with hj | rfl
          · exact g4 j hj hja
          · exact hno
        · refine .inr ⟨sn2, g1, fun j hj => ?_⟩
          rcases Nat.lt_or_eq_of_le hj with hj | rfl
          · exact g2 j hj
          · exact hno

theorem find3 (text : Array Nat) (s : Nat) (hs : s ≤ text.size) :
    (∃ n a, n ≤ 30 ∧ s ≤ a ∧ eolAt text a ∧ (∀ j, s ≤ j → j < a → ¬ eolAt text j) ∧ Hit (forSearch C3 text 0 s text.size false) n a (eolEnd text a)) ∨
    (∃ n, n ≤ 30 ∧ (∀ j, s ≤ j → ¬ eolAt text j) ∧ Miss (forSearch C3 text 0 s text.size false) n) := by
  by_cases he : s = text.size
  · right
    refine ⟨1, by decide, fun j hj h => by have := h.1; omega, ⟨?_⟩⟩
    have h' : (decide (s > text.size) || decide (text.size - s < 1)) = true := by simp; omega
    have : forSearch C3 text 0 s text.size false = (if (decide (s > text.size) || decide (text.size - s < 1)) = true then _ else _) := rfl
    rw [this, h', if_pos rfl]
    rfl
  · have h' : (decide (s > text.size) || decide (text.size - s < 1)) = false := by simp; omega
    have e0 : forSearch C3 text 0 s text.size false = (if (decide (s > text.size) || decide (text.size - s < 1)) = true then _ else
      ({ code := C3, text, lim := text.size, start := s, pc := 10, pos := s, handed := s, marks := #[], seen := ({} : Seen).add 14, lastStart := text.size } : M).attemptFrom s true) := rfl
    rw [h', if_neg Bool.false_ne_true] at e0
    rw [e0]
    have e1 : ({ code := C3, text, lim := text.size, start := s, pc := 10, pos := s, handed := s, marks := #[], seen := ({} : Seen).add 14, lastStart := text.size } : M).attemptFrom s true =
      match M.admitted ({ code := C3, text, lim := text.size, start := s, pc := 10, pos := s, handed := s, marks := #[], seen := ({} : Seen).add 14, lastStart := text.size } : M) (text.size + 1 - s) s (({} : Seen).add 14) with
      | .ok (some a, seen) => m3 text text.size a true seen
      | .ok (none, seen) => ({ code := C3, text, lim := text.size, start := s, pc := 10, pos := s, handed := s, marks := #[], seen, lastStart := text.size } : M).say false
      | .error why => ({ code := C3, text, lim := text.size, start := s, pc := 10, pos := s, handed := s, marks := #[], seen := ({} : Seen).add 14, lastStart := text.size } : M).stick why := rfl
    rw [e1]
    rcases admitted3 ({ code := C3, text, lim := text.size, start := s, pc := 10, pos := s, handed := s, marks := #[], seen := ({} : Seen).add 14, lastStart := text.size } : M) rfl text rfl rfl (text.size + 1 - s) s (({} : Seen).add 14) (Nat.le_refl _) hs with ⟨a, sn2, g1, g2, g3, g4⟩ | ⟨sn2, g1, g2⟩
    · rw [g1]
      obtain ⟨n, hn, hh⟩ := hit3 text a true sn2 g3
      exact .inl ⟨n, a, hn, g2, g3, g4, hh⟩
    · rw [g1]
      exact .inr ⟨1, by decide, g2, ⟨rfl⟩⟩
end Mine
end TRe3
section TSub1
namespace Mine
set_option autoImplicit false
open PySem PySem.W PyProof.Rows PySem.Spec PySem.Builtin PySem.Builtin.Re

theorem runFor_stable (m : Sre.M) (n k : Nat) (h : (m.runFor n).outcome.isSome = true) (hk : n ≤ k) : m.runFor k = m.runFor n := by
  obtain ⟨d, rfl⟩ := Nat.le.dest hk
  rw [runFor_add]
  cases d with
  | zero => rfl
  | succ d => show (if (m.runFor n).outcome.isSome then m.runFor n else _) = _; rw [if_pos h]

section
variable {M : Model} {A : Around} {E : Value → Shared → Prop} {s : Shared}
theorem wp_drive {Q : Sre.M → Shared → Prop} : ∀ (turns n : Nat) (m : Sre.M), n ≤ 4 * turns → 0 < turns → (m.runFor n).outcome.isSome = true → Q (m.runFor n) s → wpAny M A (reDrive turns m) Q E s := by
  intro turns
  induction turns with
  | zero => intro n m _ h; exact absurd h (Nat.lt_irrefl _)
  | succ turns ih =>
    intro n m hn _ ho hQ
    show wpAny M A (if (m.runFor 4).outcome.isSome = true then pure (m.runFor 4) else (do rule "sre.turn"; reDrive turns (m.runFor 4))) Q E s
    by_cases h4 : (m.runFor 4).outcome.isSome = true
    · rw [if_pos h4]
      have e : m.runFor 4 = m.runFor n := by
        rcases Nat.le_total n 4 with h | h
        · exact runFor_stable m n 4 ho h
        · exact (runFor_stable m 4 n h4 h).symm
      rw [e]; exact wpAny_pure hQ
    · rw [if_neg h4]
      have hn4 : 4 < n := by
        rcases Nat.lt_or_ge 4 n with h | h
        · exact h
        · rw [← runFor_stable m n 4 ho h] at ho; exact absurd ho h4
      have e : (m.runFor 4).runFor (n - 4) = m.runFor n := by rw [← runFor_add]; congr 1; omega
      refine wpAny_bind (wpAny_rule (ih (n - 4) (m.runFor 4) (by omega) (by omega) (by rw [e]; exact ho) (by rw [e]; exact hQ)))

theorem wp_says (f : Nat → Bool) (g : Nat → String) {Q : PUnit → Shared → Prop} (h : Q ⟨⟩ s) : ∀ l : List Nat, wpAny M A (forIn l PUnit.unit fun i (_ : PUnit) => if f i = true then (do rule (g i); pure (ForInStep.yield PUnit.unit)) else pure (ForInStep.yield PUnit.unit)) Q E s := by
  intro l
  induction l with
  | nil => exact wpAny_pure h
  | cons i r ih =>
    rw [List.forIn_cons]
    refine wpAny_bind ?_
    split
    · exact wpAny_bind (wpAny_rule (wpAny_pure ih))
    · exact wpAny_pure ih

theorem wp_hit {m : Sre.M} {n a b : Nat} {Q : Option Sre.M → Shared → Prop} (hh : Hit m n a b) (hn : n ≤ 2 ^ 60) (h : ∀ m', m'.start = a → m'.handed = b → Q (some m') s) : wpAny M A (reRunToEnd m) Q E s := by
  unfold reRunToEnd
  refine wpAny_bind (wp_drive (2 ^ 64) n m (by omega) (by omega) (by rw [hh.out]; rfl) ?_)
  refine wpAny_bind ?_
  refine wp_says _ _ ?_ _
  rw [hh.out]
  exact wpAny_pure (h _ hh.start hh.handed)
theorem wp_miss {m : Sre.M} {n : Nat} {Q : Option Sre.M → Shared → Prop} (hh : Miss m n) (hn : n ≤ 2 ^ 60) (h : Q none s) : wpAny M A (reRunToEnd m) Q E s := by
  unfold reRunToEnd
  refine wpAny_bind (wp_drive (2 ^ 64) n m (by omega) (by omega) (by rw [hh.out]; rfl) ?_)
  refine wpAny_bind ?_
  refine wp_says _ _ ?_ _
  rw [hh.out]
  exact wpAny_pure h
end
end Mine
end TSub1
section TSub2
namespace Mine
set_option autoImplicit false
open PySem PySem.W PyProof.Rows PySem.Spec PySem.Builtin PySem.Builtin.Re

theorem slot_re_sub : Slot "re.Pattern" "sub" "re.Pattern.sub" :=
  .of (owner := "re.Pattern") (n := "sub") (by rw [typeLookup_type, builtinLookup_eq_fast]; kernel_rfl) (by decide +kernel) (by decide +kernel) (by decide +kernel)
    (by first | exact .inl (by decide +kernel) | exact .inr (by decide +kernel)) (by rw [isSubtype_type]; kernel_rfl)
theorem type_re_sub : typeOf (.builtin "re.Pattern.sub") = pure (.type "method_descriptor") := by show builtinType _ = _; rw [builtinType_eq_fast]; kernel_rfl
theorem entry_re_sub : entryFor table "re.Pattern.sub" = some Builtin.«re.Pattern.sub» := entryFor_of_tree (by kernel_rfl)
theorem entry_re_loop : entryFor table "re.Pattern.sub.loop" = some Builtin.«re.Pattern.sub.loop» := entryFor_of_tree (by kernel_rfl)
theorem plain_re_loop : plainId "re.Pattern.sub.loop" = true := by decide +kernel
theorem attrs_re : PlainAttrs "re.Pattern" where
  ga := ⟨"object.__getattribute__", by rw [typeLookup_type, builtinLookup_eq_fast]; kernel_rfl, by decide +kernel⟩
  noGetattr := by rw [typeLookup_type, builtinLookup_eq_fast]; kernel_rfl
theorem args_re_sub (a b c : Value) : argsOk "re.Pattern.sub" ⟨[a, b, c], []⟩ := by
  unfold argsOk; kernel_rfl

section
variable {M : Model} {A : Around} {E : Value → Shared → Prop} {s : Shared}
/-- a compiled pattern in the heap -/
def IsPat (h : Heap) (pat : Addr) (C : Array Nat) (kind : Nat) : Prop :=
  ∃ p f tup items n, h.get? pat = some { cls := .type "re.Pattern", data := .fields #[p, f, .int 0 0, .none, .none, .ref tup, .int kind 0] } ∧
    h.get? tup = some { cls := .type "tuple", data := .seq items n } ∧ (items.map reRawOf).map (·.toNat) = C
theorem IsPat.keeps {h h' : Heap} {pat : Addr} {C : Array Nat} {kind : Nat} (x : IsPat h pat C kind) (k : ∀ b o, h.get? b = some o → h'.get? b = some o) : IsPat h' pat C kind :=
  let ⟨p, f, tup, items, n, h1, h2, h3⟩ := x; ⟨p, f, tup, items, n, k _ _ h1, k _ _ h2, h3⟩
theorem IsPat.typeIs {pat : Addr} {C : Array Nat} {kind : Nat} (x : IsPat s.heap pat C kind) : s.TypeIs (.ref pat) "re.Pattern" := let ⟨_, _, _, _, _, h1, _⟩ := x; ⟨_, h1, rfl⟩

theorem target0 {pat : Addr} {C : Array Nat} {x : Str} {t : Tok} {Q : ReTarget → Shared → Prop} (P : IsPat s.heap pat C 0)
    (h : Q { pattern := .ref pat, string := .str x t, code := C, text := x.cps, kind := 0, groups := 0, pos := 0, lim := x.cps.size } s) : wpAny M A (reWholeTarget (.ref pat) (.str x t)) Q E s := by
  obtain ⟨p, f, tup, items, n, h1, h2, h3⟩ := P
  unfold reWholeTarget
  refine wpAny_bind (wpAny_fieldsOf h1 rfl ?_)
  refine wpAny_bind (wpAny_of_eq (a := (x.cps, 0)) rfl ?_)
  dsimp only
  refine wpAny_bind (wpAny_of_eq (a := ()) rfl ?_)
  unfold reRawItems
  refine wpAny_bind (wpAny_bind (wpAny_seqItems h2 rfl (wpAny_pure ?_)))
  refine wpAny_pure ?_
  show Q { pattern := .ref pat, string := .str x t, code := (items.map reRawOf).map (·.toNat), text := x.cps, kind := 0, groups := 0, pos := 0, lim := x.cps.size } s
  rw [h3]; exact h
end
end Mine
end TSub2
section TSub3
namespace Mine
set_option autoImplicit false
open PySem PySem.W PyProof.Rows PySem.Spec PySem.Builtin PySem.Builtin.Re
section
variable {M : Model} {A : Around} {E : Value → Shared → Prop} {s : Shared}
theorem target1 {pat : Addr} {C : Array Nat} {x : Array UInt8} {t : Tok} {Q : ReTarget → Shared → Prop} (P : IsPat s.heap pat C 1)
    (h : Q { pattern := .ref pat, string := .bytes x t, code := C, text := x.map (·.toNat), kind := 1, groups := 0, pos := 0, lim := (x.map (·.toNat)).size } s) : wpAny M A (reWholeTarget (.ref pat) (.bytes x t)) Q E s := by
  obtain ⟨p, f, tup, items, n, h1, h2, h3⟩ := P
  unfold reWholeTarget
  refine wpAny_bind (wpAny_fieldsOf h1 rfl ?_)
  refine wpAny_bind (wpAny_of_eq (a := (x.map (·.toNat), 1)) ?_ ?_)
  · unfold reTextOf
    show (Bytes.bufferQuiet? "_sre" (.bytes x t) >>= _) = _
    rw [KBy.quiet_eq]; rfl
  dsimp only
  refine wpAny_bind (wpAny_of_eq (a := ()) ?_ ?_)
  · unfold reNoCollectionInside
    show (isInstance (.bytes x t) (.type "bytes") >>= _) = _
    rw [KBy.isInstance_eq]; rfl
  unfold reRawItems
  refine wpAny_bind (wpAny_bind (wpAny_seqItems h2 rfl (wpAny_pure ?_)))
  refine wpAny_pure ?_
  show Q { pattern := .ref pat, string := .bytes x t, code := (items.map reRawOf).map (·.toNat), text := x.map (·.toNat), kind := 1, groups := 0, pos := 0, lim := (x.map (·.toNat)).size } s
  rw [h3]; exact h
end

/-- what the loop finds, and what it makes of the rest -/
structure SubSpec (C text : Array Nat) (repl : List Nat) (rest : Nat → List Nat) : Prop where
  next : ∀ i, i ≤ text.size →
    (∃ n a b, n ≤ 2 ^ 60 ∧ i ≤ a ∧ a < b ∧ b ≤ text.size ∧ Hit (Sre.forSearch C text 0 i text.size false) n a b ∧ rest i = (text.toList.drop i).take (a - i) ++ repl ++ rest b) ∨
    (∃ n, n ≤ 2 ^ 60 ∧ Miss (Sre.forSearch C text 0 i text.size false) n ∧ rest i = text.toList.drop i)

/-- a made text of either kind -/
def mkV (kind : Nat) (l : List Nat) (t : Tok) : Value := if kind = 0 then .str ⟨l.toArray⟩ t else .bytes (l.map (·.toUInt8)).toArray t
def partsV (kind : Nat) (ps : List (List Nat × Tok)) : List Value := ps.map fun p => mkV kind p.1 p.2
def partsL (ps : List (List Nat × Tok)) : List Nat := (ps.map (·.1)).flatten

abbrev loopArgs (pat : Addr) (str repl : Value) (cnt i : Nat) (l : Addr) : Args :=
  ⟨[.ref pat, str, repl, rawInt 0, rawInt 0, rawInt cnt, rawInt i, rawInt i, .bool false, .ref l, .bool false], []⟩

theorem slice_drop (text : Array Nat) (i a : Nat) : (text.extract i a).toList = (text.toList.drop i).take (a - i) := by
  rw [Array.toList_extract]

section
variable {prog : Program} {w : World} {A : Around}
theorem slice_wp {E : Value → Shared → Prop} {s : Shared} {text : Array Nat} {kind i a : Nat} {Q : Value → Shared → Prop} (hk : kind = 0 ∨ kind = 1) (hsz : text.size ≤ 2 ^ 22)
    (h : Q (mkV kind ((text.toList.drop i).take (a - i)) s.toks) { s with toks := s.toks + 1 }) : wpAny (model prog w) A (reSlice text kind i a) Q E s := by
  rcases hk with rfl | rfl
  · show wpAny _ _ (mkStr ⟨text.extract i a⟩) _ _ _
    refine wpAny_mkStr ?_ ?_
    · have e : (⟨text.extract i a⟩ : Str) = ⟨((text.toList.drop i).take (a - i)).toArray⟩ := by rw [← slice_drop]
      rw [e]; exact h
    · show (text.extract i a).size ≤ sizeLine
      rw [Array.size_extract, sizeLine_eq]; omega
  · show wpAny _ _ (mkBytes ((text.extract i a).map (·.toUInt8))) _ _ _
    refine wpAny_mkBytes ?_ ?_
    · have e : (text.extract i a).map (·.toUInt8) = (((text.toList.drop i).take (a - i)).map (·.toUInt8)).toArray := by
        rw [← slice_drop, ← Array.toList_map, Array.toArray_toList]
      rw [e]; exact h
    · rw [Array.size_map, Array.size_extract, sizeLine_eq]; omega

/-- the join of what was laid -/
def Joins (prog : Program) (w : World) (A : Around) (kind : Nat) : Prop :=
  ∀ (s : Shared) (l : Addr) (ps : List (List Nat × Tok)) (t : Tok) (n : Nat) (Q : Value → Shared → Prop) (E : Value → Shared → Prop),
    s.heap.get? l = some { cls := .type "list", data := .seq (partsV kind ps).toArray n } → (partsL ps).length ≤ 2 ^ 22 →
    (∀ t' tk, Q (mkV kind (partsL ps) t') { s with toks := tk }) →
    wpAny (model prog w) A (call (.builtin (if kind == 0 then "str.join" else "bytes.join")) [mkV kind [] t, .ref l]) Q E s

theorem lit_ok {kind : Nat} {rp : List Nat} {tr : Tok} (hk : kind = 0 ∨ kind = 1) : reLiteralCannotBeTurned (mkV kind rp tr) = pure () := by
  rcases hk with rfl | rfl
  · rfl
  · have e : mkV 1 rp tr = .bytes (rp.map (·.toUInt8)).toArray tr := rfl
    rw [e]
    unfold reLiteralCannotBeTurned
    have h0 : asStr? (Value.bytes (rp.map (·.toUInt8)).toArray tr) = pure none := rfl
    rw [h0, KBy.isInstance_eq]; rfl
theorem mkV_ne {kind : Nat} {rp : List Nat} {tr : Tok} (hk : kind = 0 ∨ kind = 1) : (mkV kind rp tr != Value.none) = true := by
  rcases hk with rfl | rfl <;> rfl

theorem push_wp {M : Model} {E : Value → Shared → Prop} {s : Shared} {l : Addr} {items : List Value} {n : Nat} {v : Value} {Q : Unit → Shared → Prop}
    (hl : s.heap.get? l = some { cls := .type "list", data := .seq items.toArray n }) (hz : items.length ≤ 2 ^ 23)
    (h : ∀ h' n', h'.get? l = some { cls := .type "list", data := .seq (items ++ [v]).toArray n' } → (∀ b o, b ≠ l → s.heap.get? b = some o → h'.get? b = some o) → Q () { s with heap := h' }) :
    wpAny M A (updateSeq l (·.push v)) Q E s := by
  refine wpAny_updateSeq hl rfl (h _ (n + 1) ?_ fun b o hb e => (Heap.get?_update_other _ _ (Ne.symm hb)).trans e) ?_ ?_
  · have e := Heap.get?_update_self (h := s.heap) (Obj.mapSeq (·.push v)) hl (by rfl)
    rw [e]
    simp only [Obj.mapSeq]
    simp
  · rw [List.size_toArray, sizeLine_eq]; omega
  · rw [Array.size_push, List.size_toArray, sizeLine_eq]; omega

theorem sub_loop {R : Result → Shared → Prop} {pat l : Addr} {str repl : Value} {C text : Array Nat} {kind : Nat} {rp : List Nat} {tr : Tok} {rest : Nat → List Nat} (hk : kind = 0 ∨ kind = 1)
    (J : Joins prog w A.in1 kind) (hr : repl = mkV kind rp tr) (S : SubSpec C text rp rest) (hsz : text.size ≤ 2 ^ 22)
    (hT : ∀ (s : Shared) (Q : ReTarget → Shared → Prop) (E : Value → Shared → Prop), IsPat s.heap pat C kind →
      Q { pattern := .ref pat, string := str, code := C, text := text, kind := kind, groups := 0, pos := 0, lim := text.size } s → wpAny (model prog w) A.in1 (reWholeTarget (.ref pat) str) Q E s)
    (keepP : ∀ h h' : Heap, IsPat h pat C kind → (∀ b o, b ≠ l → h.get? b = some o → h'.get? b = some o) → (∃ items n, h.get? l = some { cls := .type "list", data := .seq items n }) → IsPat h' pat C kind) :
    ∀ (k i : Nat), text.size - i = k → i ≤ text.size → ∀ (s : Shared) (ps : List (List Nat × Tok)) (n cnt : Nat),
      IsPat s.heap pat C kind → s.heap.get? l = some { cls := .type "list", data := .seq (partsV kind ps).toArray n } →
      (partsL ps ++ rest i).length ≤ 2 ^ 22 → ps.length ≤ 2 * i →
      (∀ t h' tk, (∀ b o, b ≠ l → s.heap.get? b = some o → h'.get? b = some o) → R (.ok (.ret (mkV kind (partsL ps ++ rest i) t))) { s with heap := h', toks := tk }) →
      codeAny (model prog w) A (.builtin "re.Pattern.sub.loop" (loopArgs pat str repl cnt i l)) R s := by
  intro k
  induction k using Nat.strongRecOn with
  | ind k ih =>
    intro i hki hi s ps n cnt P hl hlen hps hR
    refine codeAny_builtin entry_re_loop ?_
    rw [Around.under_plainId plain_re_loop _]
    show wpAny _ A.in1 (reWholeTarget (.ref pat) str >>= fun t => _) _ _ s
    refine wpAny_bind (hT s _ _ P ?_)
    dsimp only
    rw [if_pos (by decide)]
    refine wpAny_bind (wpAny_of_eq (a := ()) (by rw [hr]; exact lit_ok hk) ?_)
    rw [if_neg (by simp)]
    have hlp : (partsV kind ps).length = ps.length := by simp [partsV]
    have e1 : ∀ (v : List Nat) (t : Tok), partsV kind ps ++ [mkV kind v t] = partsV kind (ps ++ [(v, t)]) := fun v t => by simp [partsV]
    have e2 : ∀ (ps : List (List Nat × Tok)) (v : List Nat) (t : Tok), partsL (ps ++ [(v, t)]) = partsL ps ++ v := fun ps v t => by simp [partsL]
    rcases S.next i hi with ⟨m, a, b, hm, hia, hab, hb, hh, hrest⟩ | ⟨m, hm, hh, hrest⟩
    · refine wpAny_bind (wp_hit (m := Sre.forSearch C text 0 i text.size false) hh hm fun mm hst hhd => ?_)
      dsimp only
      rw [hst, hhd]
      have hba : (b == a) = false := by simp; omega
      have hii : ((i : Int)).toNat = i := rfl
      rw [hba, hii]
      -- behind the slice
      have tail : ∀ (s' : Shared) (ps' : List (List Nat × Tok)) (n' : Nat), s'.gens = s.gens → s'.drawn = s.drawn → s'.os = s.os → (∀ b o, b ≠ l → s.heap.get? b = some o → s'.heap.get? b = some o) →
          s'.heap.get? l = some { cls := .type "list", data := .seq (partsV kind ps').toArray n' } → ps'.length ≤ 2 * i + 1 → partsL ps' = partsL ps ++ (text.toList.drop i).take (a - i) →
          wpAny (model prog w) A.in1 (do
            updateSeq l fun x => x.push repl
            again (Code.builtin "re.Pattern.sub.loop" (loopArgs pat str repl (cnt + 1) b l)))
            (fun fin s' => match fin with | .done f => R (.ok f) s' | .again c' => c'.quiet = true ∧ codeAny (model prog w) A c' R s') (fun e s' => R (.error e) s') s' := by
        intro s' ps' n' hg hdr hos hkeep hl' hps' hpl'
        refine wpAny_bind (push_wp hl' (by rw [show (partsV kind ps').length = ps'.length by simp [partsV]]; omega) fun h2 n2 hl2 hk2 => ?_)
        refine wpAny_pure ⟨plainId_quiet plain_re_loop _, ?_⟩
        refine ih (text.size - b) (by omega) b rfl hb _ (ps' ++ [(rp, tr)]) n2 (cnt + 1) ?_ ?_ ?_ ?_ ?_
        · exact keepP s.heap _ P (fun b o hb e => hk2 b o hb (hkeep b o hb e)) ⟨_, _, hl⟩
        · show h2.get? l = _
          rw [hl2, hr]; simp [partsV]
        · rw [e2, hpl', List.append_assoc, List.append_assoc]
          rw [hrest] at hlen
          simpa [List.append_assoc] using hlen
        · simp; omega
        · intro t h' tk hk3
          have := hR t h' tk (fun b o hb e => hk3 b o hb (hk2 b o hb (hkeep b o hb e)))
          rw [e2, hpl']
          rw [hrest] at this
          simp only [List.append_assoc] at this ⊢
          obtain ⟨sh, sg, sd, stk, sos⟩ := s
          obtain ⟨sh', sg', sd', stk', sos'⟩ := s'
          simp only at hg hdr hos
          subst hg hdr hos
          exact this
      split
      · rename_i hlt
        refine wpAny_bind (slice_wp hk hsz ?_)
        refine wpAny_bind (push_wp hl (by omega) fun h2 n2 hl2 hk2 => ?_)
        rw [if_pos (by decide)]
        refine wpAny_bind (wpAny_pure ?_)
        rw [if_pos (by rw [hr]; exact mkV_ne hk)]
        refine tail { s with toks := s.toks + 1, heap := h2 } (ps ++ [((text.toList.drop i).take (a - i), s.toks)]) n2 rfl rfl rfl hk2 (by rw [← e1]; exact hl2) (by simp; omega) (e2 _ _ _)
      · rename_i hge
        have hai : a = i := by omega
        rw [if_pos (by decide)]
        refine wpAny_bind (wpAny_pure ?_)
        rw [if_pos (by rw [hr]; exact mkV_ne hk)]
        refine tail s ps n rfl rfl rfl (fun _ _ _ e => e) hl (by omega) (by rw [hai, Nat.sub_self]; simp)
    · refine wpAny_bind (wp_miss (m := Sre.forSearch C text 0 i text.size false) hh hm ?_)
      dsimp only
      have hii : ((i : Int)).toNat = i := rfl
      rw [hii]
      have tail : ∀ (s' : Shared) (ps' : List (List Nat × Tok)) (n' : Nat), s'.gens = s.gens → s'.drawn = s.drawn → s'.os = s.os → (∀ b o, b ≠ l → s.heap.get? b = some o → s'.heap.get? b = some o) →
          s'.heap.get? l = some { cls := .type "list", data := .seq (partsV kind ps').toArray n' } → partsL ps' = partsL ps ++ rest i →
          wpAny (model prog w) A.in1 (do
            let joiner ← reSlice text kind 0 0
            let text ← if ((← seqItems? (.ref l)).getD #[]).isEmpty then pure joiner else call (.builtin (if kind == 0 then "str.join" else "bytes.join")) [joiner, .ref l]
            ret text)
            (fun fin s' => match fin with | .done f => R (.ok f) s' | .again c' => c'.quiet = true ∧ codeAny (model prog w) A c' R s') (fun e s' => R (.error e) s') s' := by
        intro s' ps' n' hg hdr hos hkeep hl' hpl'
        have fin : ∀ t tk, R (.ok (.ret (mkV kind (partsL ps') t))) { s' with toks := tk } := by
          intro t tk
          have := hR t s'.heap tk hkeep
          rw [hpl']
          obtain ⟨sh, sg, sd, stk, sos⟩ := s
          obtain ⟨sh', sg', sd', stk', sos'⟩ := s'
          simp only at hg hdr hos
          subst hg hdr hos
          exact this
        refine wpAny_bind (slice_wp hk hsz ?_)
        refine wpAny_bind (wpAny_seqItems hl' rfl ?_)
        show wpAny _ _ (if (partsV kind ps').toArray.isEmpty = true then _ else _) _ _ _
        have e0 : List.take (0 - 0) (List.drop 0 text.toList) = [] := by simp
        rw [e0]
        cases ps' with
        | nil =>
          rw [if_pos (by simp [partsV])]
          exact wpAny_bind (wpAny_pure (wpAny_pure (fin _ _)))
        | cons p q =>
          rw [if_neg (by simp [partsV])]
          refine wpAny_bind (J _ l (p :: q) s'.toks n' _ _ hl' (by rw [hpl']; exact hlen) fun t' tk => ?_)
          exact wpAny_pure (fin _ _)
      split
      · refine wpAny_bind (slice_wp hk hsz ?_)
        refine wpAny_bind (push_wp hl (by omega) fun h2 n2 hl2 hk2 => ?_)
        refine tail { s with toks := s.toks + 1, heap := h2 } (ps ++ [((text.toList.drop i).take (text.size - i), s.toks)]) n2 rfl rfl rfl hk2 (by rw [← e1]; exact hl2) ?_
        rw [e2, hrest]
        congr 1
        rw [List.take_of_length_le]
        rw [List.length_drop, Array.length_toList]; omega
      · rename_i hge
        refine tail s ps n rfl rfl rfl (fun _ _ _ e => e) hl ?_
        rw [hrest, List.drop_of_length_le (by rw [Array.length_toList]; omega)]; simp
end
end Mine
end TSub3
section TSub4
namespace Mine
set_option autoImplicit false
open PySem PySem.W PyProof.Rows PySem.Spec PySem.Builtin PySem.Builtin.Re PySem.Builtin.Str

theorem str_join_nil (l : List Str) : (Str.join ⟨#[]⟩ l).cps.toList = (l.map (·.cps.toList)).flatten := by
  induction l with
  | nil => rfl
  | cons x r ih =>
    cases r with
    | nil => simp [Str.join]
    | cons y r =>
      have e : Str.join ⟨#[]⟩ (x :: y :: r) = x ++ ⟨#[]⟩ ++ Str.join ⟨#[]⟩ (y :: r) := rfl
      rw [e, Str.cps_append, Str.cps_append, Array.toList_append, Array.toList_append, ih]; simp
theorem join_len_fold (l : List Str) (k : Nat) : (l.toArray.foldl (fun (n : Nat) (s : Str) => n + s.length + (⟨#[]⟩ : Str).length) k) = k + ((l.map (·.cps.toList)).flatten).length := by
  rw [List.foldl_toArray]
  induction l generalizing k with
  | nil => rfl
  | cons x r ih =>
    rw [List.foldl_cons, ih]
    simp only [List.map_cons, List.flatten_cons, List.length_append, Str.length, Array.length_toList]
    simp; omega

section
variable {prog : Program} {w : World} {A : Around}
theorem joins_str : Joins prog w A 0 := by
  intro s l ps t n Q E hl hlen hQ
  have hmap : partsV 0 ps = strValues (ps.map fun p => ((⟨p.1.toArray⟩ : Str), p.2)) := by simp [partsV, strValues, mkV]
  have hL : s.heap.IsList l (strValues (ps.map fun p => ((⟨p.1.toArray⟩ : Str), p.2))).toArray := ⟨_, hl, rfl, n, by rw [hmap]⟩
  have hstr : ((ps.map fun p => ((⟨p.1.toArray⟩ : Str), p.2)).map (·.1)).map (·.cps.toList) = ps.map (·.1) := by simp
  have hl2 : tooLong (((ps.map fun p => ((⟨p.1.toArray⟩ : Str), p.2)).map (·.1)).toArray.foldl (fun (n : Nat) (s : Str) => n + s.length + (⟨#[]⟩ : Str).length) 0) = false := by
    rw [join_len_fold, hstr]
    unfold tooLong
    rw [sizeLine_eq]
    refine decide_eq_false ?_
    show ¬ (0 + (partsL ps).length > _)
    omega
  show wpAny _ _ (call (.builtin "str.join") [.str ⟨#[]⟩ t, .ref l]) _ _ _
  refine call_meets F.slot_str_join (T := "str") (by first | rfl | exact typeIs_str _ _ _) F.entry_str_join (F.args_str_join_2 _ _) (meets_str_join_list ⟨#[]⟩ t l _ hl2) ⟨hL, ?_⟩
  have hglue : ∀ ps : List (List Nat × Tok), glued ⟨#[]⟩ ((ps.map fun p => ((⟨p.1.toArray⟩ : Str), p.2)).map (·.1)) = ⟨(partsL ps).toArray⟩ := by
    intro ps
    apply Str.ext'
    apply Array.toList_inj.mp
    rw [StrLaws.glued_eq_join, str_join_nil]; simp [partsL]
    rfl
  have big : (Made.str (glued ⟨#[]⟩ ((ps.map fun p => ((⟨p.1.toArray⟩ : Str), p.2)).map (·.1)))).post (fun v s' => wants Q E (.ok (.ret v)) s') s := by
    rw [hglue]
    refine ⟨?_, hQ _ _⟩
    show (partsL ps).toArray.size ≤ sizeLine
    rw [List.size_toArray, sizeLine_eq]; omega
  cases ps with
  | nil => exact big
  | cons p r =>
    cases r with
    | nil =>
      have e : partsL [p] = p.1 := by simp [partsL]
      have := hQ p.2 s.toks
      rw [e] at this
      exact this
    | cons q r => exact big
end
end Mine
end TSub4
section TSub5
namespace Mine
set_option autoImplicit false
open PySem PySem.W PyProof.Rows PySem.Spec PySem.Builtin PySem.Builtin.Re

theorem slot_bytes_join : Slot "bytes" "join" "bytes.join" :=
  .of (owner := "bytes") (n := "join") (by rw [typeLookup_type, builtinLookup_eq_fast]; kernel_rfl) (by decide +kernel) (by decide +kernel) (by decide +kernel)
    (by first | exact .inl (by decide +kernel) | exact .inr (by decide +kernel)) (by rw [isSubtype_type]; kernel_rfl)
theorem entry_bytes_join : entryFor table "bytes.join" = some Builtin.«bytes.join» := entryFor_of_tree (by kernel_rfl)
theorem args_bytes_join (a b : Value) : argsOk "bytes.join" ⟨[a, b], []⟩ := by unfold argsOk; kernel_rfl

theorem range_forIn {β : Type} (n : Nat) (b : β) (f : Nat → β → Sem (ForInStep β)) : forIn [:n] b f = forIn (List.range' 0 n) b f := by
  rw [Std.Legacy.Range.forIn_eq_forIn_range']; simp [Std.Legacy.Range.size]
theorem wp_forIn {M : Model} {A : Around} {E : Value → Shared → Prop} {s : Shared} {β : Type} (n : Nat) (I : Nat → β → Prop) (f : Nat → β → Sem (ForInStep β)) {Q : β → Shared → Prop}
    (hf : ∀ i b, i < n → I i b → wpAny M A (f i b) (fun r s' => ∃ b', r = .yield b' ∧ I (i + 1) b' ∧ s' = s) E s) (hQ : ∀ b, I n b → Q b s) :
    ∀ (k i : Nat) (b : β), i + k = n → I i b → wpAny M A (forIn (List.range' i k) b f) Q E s := by
  intro k
  induction k with
  | zero => intro i b h hI; have : i = n := by omega
            subst this; exact wpAny_pure (hQ b hI)
  | succ k ih =>
    intro i b h hI
    rw [List.range'_succ, List.forIn_cons]
    refine wpAny_bind (wpAny_mono (hf i b (by omega) hI) (fun r s' hr => ?_) fun _ _ x => x)
    obtain ⟨b', rfl, hI', rfl⟩ := hr
    exact ih (i + 1) b' (by omega) hI'

theorem take_eq {b : Array UInt8} {t : Tok} {id : String} : Bytes.takeBufferQuiet? id (.bytes b t) 0 = pure (some (b, none)) := by
  unfold Bytes.takeBufferQuiet? Bytes.takeBuffer?
  rw [KBy.special_eq KBy.look_buffer, KBy.own_buffer, show (((0 : Int) == Bytes.fullReadOnly)) = false by decide, KBy.buffer_eq]
  kernel_rfl

theorem joined_nil (l : List (Array UInt8)) : (Bytes.joined #[] l).toList = (l.map (·.toList)).flatten := by
  have key : ∀ (l : List (Array UInt8)) (k : Nat) (acc : Array UInt8), ((l.zipIdx k).foldl (fun out (x : Array UInt8 × Nat) => (if x.2 > 0 then out ++ #[] else out) ++ x.1) acc).toList = acc.toList ++ (l.map (·.toList)).flatten := by
    intro l
    induction l with
    | nil => intro k acc; simp
    | cons x r ih =>
      intro k acc
      rw [List.zipIdx_cons, List.foldl_cons, ih]
      simp
  have := key l 0 #[]
  simpa [Bytes.joined] using this
theorem foldl_size (l : List (Array UInt8)) (k : Nat) : l.toArray.foldl (fun (n : Nat) (x : Array UInt8) => n + x.size) k = k + ((l.map (·.toList)).flatten).length := by
  rw [List.foldl_toArray]
  induction l generalizing k with
  | nil => rfl
  | cons x r ih => rw [List.foldl_cons, ih]; simp; omega

section
variable {prog : Program} {w : World} {A : Around}
theorem letGo_all {E : Value → Shared → Prop} {s : Shared} {Q : Unit → Shared → Prop} (h : Q () s) (keep : List Value) : ∀ l : List (Value × Option Value), (∀ p ∈ l, p.2 = none) → wpAny (model prog w) A (Bytes.joinLetGo l keep) Q E s := by
  intro l
  induction l with
  | nil => intro _; exact wpAny_pure h
  | cons p r ih =>
    intro hn
    obtain ⟨x, o⟩ := p
    have : o = none := hn _ (.head _)
    subst this
    exact wpAny_bind (wpAny_letGo (ih fun p hp => hn p (.tail _ hp)))

theorem joins_bytes : Joins prog w A 1 := by
  intro s l ps t n Q E hl hlen hQ
  show wpAny _ _ (call (.builtin "bytes.join") [.bytes #[] t, .ref l]) _ _ _
  refine wpAny_call_entry slot_bytes_join (T := "bytes") (typeIs_bytes _ _ _) entry_bytes_join ?_ (args_bytes_join _ _)
  unfold Builtin.«bytes.join» Bytes.joinM
  refine wpAny_bind (wpAny_of_eq (a := (Value.bytes #[] t, Value.ref l)) rfl ?_)
  dsimp only
  rw [if_pos (by decide)]
  refine wpAny_bind ?_
  unfold Bytes.joinItems
  refine wpAny_bind (wpAny_typeOf (T := "list") ⟨_, hl, rfl⟩ ?_)
  rw [if_pos (by decide)]
  refine wpAny_pure ?_
  refine wpAny_bind (wpAny_seqItems hl rfl ?_)
  dsimp only
  rw [if_pos (by decide)]
  let bs : List (Array UInt8) := ps.map fun p => (p.1.map (·.toUInt8)).toArray
  have hbs : (bs.map (·.toList)).flatten = (partsL ps).map (·.toUInt8) := by simp [bs, partsL, List.map_flatten]; rfl
  generalize hT : (partsV 1 ps).toArray = arr at hl ⊢
  have hi0 : ∀ i, i < arr.size → i < ps.length := fun i hi => by rw [← hT] at hi; simpa [partsV] using hi
  have hget0 : ∀ i (hi : i < ps.length), arr.getD i Value.none = .bytes ((ps[i].1.map (·.toUInt8)).toArray) ps[i].2 := fun i hi => by rw [← hT]; simp [partsV, mkV, hi, Array.getD]
  have hfull0 : bs.take arr.size = bs := by rw [List.take_of_length_le]; rw [← hT]; simp [bs, partsV]
  obtain ⟨L⟩ := arr
  rcases L with _ | ⟨x, _ | ⟨y, L⟩⟩
  case cons.nil =>
    rcases ps with _ | ⟨p, _ | ⟨q, r⟩⟩
    · simp [partsV] at hT
    · have hx : x = mkV 1 p.1 p.2 := by simp [partsV] at hT; exact hT.symm
      subst hx
      refine wpAny_bind (wpAny_typeOf (T := "bytes") (typeIs_bytes _ _ _) ?_)
      rw [if_pos (by decide)]
      refine wpAny_bind (wpAny_rule (wpAny_pure ⟨_, rfl, ?_⟩))
      have e : partsL [p] = p.1 := by simp [partsL]
      have := hQ p.2 s.toks
      rw [e] at this
      exact this
    · simp [partsV] at hT
  all_goals
    refine wpAny_bind ?_
    rw [range_forIn]
    refine wp_forIn _ (fun i b => b.1 = (bs.take i).toArray ∧ (∀ p ∈ b.2, p.2 = none ∧ p.1.onHeap = false)) _ ?_ ?_ _ 0 _ (Nat.zero_add _) ⟨rfl, fun _ h => nomatch h⟩
    · intro i b hi hI
      obtain ⟨b1, b2⟩ := b
      obtain ⟨rfl, h2⟩ := hI
      refine wpAny_bind (wpAny_seqItems hl rfl ?_)
      dsimp only
      have hany : (Bytes.Kind.bytes == Bytes.Kind.bytearray || b2.any fun x => x.fst.onHeap) = false := by
        rw [Bool.or_eq_false_iff]
        refine ⟨by decide, ?_⟩
        rw [List.any_eq_false]
        intro x hx
        rw [(h2 x hx).2]; exact Bool.false_ne_true
      rw [hany, if_neg Bool.false_ne_true]
      have hi' : i < ps.length := hi0 i hi
      have hget := hget0 i hi'
      rw [hget]
      refine wpAny_bind (wpAny_holding (wpAny_of_eq take_eq ?_))
      dsimp only
      refine wpAny_bind (wpAny_seqItems hl rfl ?_)
      dsimp only
      rw [if_neg (by simp)]
      refine wpAny_pure ⟨_, rfl, ⟨?_, ?_⟩, rfl⟩
      · dsimp only
        simp only [bs, List.push_toArray, List.toArray_inj]
        rw [List.take_succ_eq_append_getElem (by simpa [bs] using hi')]
        simp
      · intro p hp
        rw [List.mem_append] at hp
        rcases hp with hp | hp
        · exact h2 p hp
        · rw [List.mem_singleton] at hp; subst hp; exact ⟨rfl, rfl⟩
    · intro b hb
      obtain ⟨b1, b2⟩ := b
      obtain ⟨rfl, h2⟩ := hb
      dsimp only
      have hfull := hfull0
      rw [hfull]
      refine wpAny_bind (wpAny_of_eq (a := #[]) rfl ?_)
      rw [if_neg]
      · refine wpAny_bind ?_
        refine wpAny_mkBytes ?_ ?_
        · refine wpAny_bind (wpAny_holding (wpAny_point ?_))
          refine wpAny_bind (letGo_all ?_ _ _ fun p hp => (h2 p hp).1)
          refine wpAny_pure ⟨_, rfl, ?_⟩
          have := hQ s.toks (s.toks + 1)
          have e : Bytes.joined #[] bs.toArray.toList = ((partsL ps).map (·.toUInt8)).toArray := by
            apply Array.toList_inj.mp
            rw [joined_nil, List.toList_toArray, hbs]
          rw [e]
          exact this
        · have e : (Bytes.joined #[] bs.toArray.toList).size = (partsL ps).length := by
            rw [← Array.length_toList, joined_nil, List.toList_toArray, hbs, List.length_map]
          rw [e, sizeLine_eq]; omega
      · unfold Bytes.tooLong
        rw [foldl_size, hbs, sizeLine_eq]
        simp; omega
end
end Mine
end TSub5
section TSub6
namespace Mine
set_option autoImplicit false
open PySem PySem.W PyProof.Rows PySem.Spec PySem.Builtin PySem.Builtin.Re

theorem noCall_str : typeLookup (.type "str") "__call__" = pure none := by rw [typeLookup_type, builtinLookup_eq_fast]; kernel_rfl
theorem noCall_bytes : typeLookup (.type "bytes") "__call__" = pure none := by rw [typeLookup_type, builtinLookup_eq_fast]; kernel_rfl

section
variable {prog : Program} {w : World} {A : Around}
theorem IsPat.apart {h h' : Heap} {pat l : Addr} {C : Array Nat} {kind : Nat} (P : IsPat h pat C kind) (hk : ∀ b o, b ≠ l → h.get? b = some o → h'.get? b = some o)
    (hl : ∃ items n, h.get? l = some { cls := .type "list", data := .seq items n }) : IsPat h' pat C kind := by
  obtain ⟨p, f, tup, items, n, h1, h2, h3⟩ := P
  obtain ⟨li, ln, hl⟩ := hl
  refine ⟨p, f, tup, items, n, hk _ _ ?_ h1, hk _ _ ?_ h2, h3⟩
  · rintro rfl; rw [hl] at h1; injection h1 with h1; injection h1 with h1; injection h1 with h1; exact absurd h1 (by decide)
  · rintro rfl; rw [hl] at h2; injection h2 with h2; injection h2 with h2; injection h2 with h2; exact absurd h2 (by decide)
theorem rp_no_bs {rp : List Nat} (hrp : rp.all (fun c => c < 128 && c != 92) = true) : (rp.toArray.contains 92) = false := by
  rw [List.contains_toArray]
  cases h : rp.contains 92 with
  | false => rfl
  | true =>
    rw [List.contains_iff_mem] at h
    have := List.all_eq_true.mp hrp 92 h
    simp at this
theorem rp_no_bs' {rp : List Nat} (hrp : rp.all (fun c => c < 128 && c != 92) = true) : ((rp.map (·.toUInt8)).toArray.contains 92) = false := by
  rw [List.contains_toArray]
  cases h : (rp.map (·.toUInt8)).contains 92 with
  | false => rfl
  | true =>
    rw [List.contains_iff_mem, List.mem_map] at h
    obtain ⟨c, hc, he⟩ := h
    have := List.all_eq_true.mp hrp c hc
    simp at this
    have h2 : c.toUInt8.toNat = 92 := by rw [he]; rfl
    simp at h2
    omega

theorem call_sub {E : Value → Shared → Prop} {s : Shared} {Q : Value → Shared → Prop} {pat : Addr} {str : Value} {C text : Array Nat} {kind : Nat} {rp : List Nat} {tr : Tok} {rest : Nat → List Nat} (hk : kind = 0 ∨ kind = 1)
    (hrp : rp.all (fun c => c < 128 && c != 92) = true)
    (P : IsPat s.heap pat C kind) (S : SubSpec C text rp rest) (hsz : text.size ≤ 2 ^ 22) (hlen : (rest 0).length ≤ 2 ^ 22)
    (hT : ∀ (A : Around) (s : Shared) (Q : ReTarget → Shared → Prop) (E : Value → Shared → Prop), IsPat s.heap pat C kind →
      Q { pattern := .ref pat, string := str, code := C, text := text, kind := kind, groups := 0, pos := 0, lim := text.size } s → wpAny (model prog w) A (reWholeTarget (.ref pat) str) Q E s)
    (h : ∀ t h' tk, (∀ b o, s.heap.get? b = some o → h'.get? b = some o) → Q (mkV kind (rest 0) t) { s with heap := h', toks := tk }) :
    wpAny (model prog w) A (call (.builtin "re.Pattern.sub") [.ref pat, mkV kind rp tr, str]) Q E s := by
  refine wpAny_call (codeAny_call_builtin slot_re_sub.plain entry_re_sub (slot_re_sub.check _ _ _ _ _ _ _ _ P.typeIs (args_re_sub _ _ _) ?_))
  unfold Builtin.«re.Pattern.sub» reSubstitute
  dsimp only
  refine wpAny_bind (wpAny_of_eq (a := [some (mkV kind rp tr), some str, none]) (by rfl) ?_)
  dsimp only
  refine wpAny_bind (wpAny_pure ?_)
  have fin : wpAny (model prog w) A.in1 (do
      let v ← newList []
      again (Code.builtin "re.Pattern.sub.loop" ⟨[Value.ref pat, str, mkV kind rp tr, rawInt 0, rawInt 0, rawInt 0, rawInt 0, rawInt 0, Value.bool false, v, Value.bool false], []⟩))
      (fun fin s' => match fin with | .done f => wants Q E (.ok f) s' | .again c' => c'.quiet = true ∧ codeAny (model prog w) A c' (wants Q E) s') (fun e s' => wants Q E (.error e) s') s := by
    refine wpAny_bind (wpAny_newObj_type ?_ (by size_fits))
    refine wpAny_pure ⟨plainId_quiet plain_re_loop _, ?_⟩
    have hfresh : s.heap.get? s.heap.objs.size = none := by
      cases hq : s.heap.get? s.heap.objs.size with
      | none => rfl
      | some o => exact absurd (Heap.lt_size hq) (Nat.lt_irrefl _)
    refine sub_loop (rest := rest) hk (by rcases hk with rfl | rfl; exact joins_str; exact joins_bytes) rfl S hsz (hT _) (fun h h' P hk hl => P.apart hk hl) text.size 0 (Nat.sub_zero _) (Nat.zero_le _) _ [] 0 0 ?_ ?_ ?_ (by simp) ?_
    · exact P.keeps fun b o e => Heap.get?_push_of_some _ e
    · exact Heap.get?_push_size _ rfl
    · simpa [partsL] using hlen
    · intro t h' tk hk'
      have := h t h' tk fun b o e => hk' b o (fun hb => by rw [hb, hfresh] at e; cases e) (Heap.get?_push_of_some _ e)
      simpa [partsL] using this
  rcases hk with rfl | rfl
  · refine wpAny_bind (wpAny_specialOf (T := "str") (typeIs_str _ _ _) noCall_str ?_)
    rw [if_neg (by decide)]
    refine wpAny_bind (wpAny_of_eq (a := some ⟨rp.toArray⟩) rfl ?_)
    dsimp only
    refine wpAny_bind (wpAny_pure ?_)
    rw [if_neg (by decide), rp_no_bs hrp, if_pos (by decide)]
    refine wpAny_bind (wpAny_pure ?_)
    dsimp only
    refine wpAny_bind (wpAny_holding (hT _ _ _ _ P ?_))
    rw [if_neg (by decide)]
    exact fin
  · refine wpAny_bind (wpAny_specialOf (T := "bytes") (typeIs_bytes _ _ _) noCall_bytes ?_)
    rw [if_neg (by decide)]
    refine wpAny_bind (wpAny_of_eq (a := none) rfl ?_)
    dsimp only
    refine wpAny_bind (wpAny_of_eq (a := some (rp.map (·.toUInt8)).toArray) KBy.quiet_eq ?_)
    dsimp only
    refine wpAny_bind (wpAny_pure ?_)
    rw [if_neg (by decide), rp_no_bs' hrp, if_pos (by decide)]
    refine wpAny_bind (wpAny_pure ?_)
    dsimp only
    refine wpAny_bind (wpAny_holding (hT _ _ _ _ P ?_))
    rw [if_neg (by decide)]
    exact fin
end
end Mine
end TSub6
section TSpec
namespace Mine
set_option autoImplicit false
open PySem

def quoteF (p : Nat) : List Nat → List Nat
  | [] => []
  | c :: r => (if p = 10 ∧ c = 46 then [46, 46] else [c]) ++ quoteF c r
def fixH (cr : Bool) : List Nat → List Nat
  | [] => []
  | c :: r => if c = 13 then 13 :: 10 :: fixH true r else if c = 10 then (if cr then fixH false r else 13 :: 10 :: fixH false r) else c :: fixH false r
def fixG (l : List Nat) : List Nat := fixH false l
theorem fixG_nil : fixG [] = [] := rfl
theorem fixG_pair (r : List Nat) : fixG (13 :: 10 :: r) = 13 :: 10 :: fixG r := by simp [fixG, fixH]
theorem fixG_cr (r : List Nat) (h : r.head? ≠ some 10) : fixG (13 :: r) = 13 :: 10 :: fixG r := by
  cases r with
  | nil => simp [fixG, fixH]
  | cons d r =>
    have : d ≠ 10 := fun x => h (by simp [x])
    simp [fixG, fixH, this]
theorem fixG_lf (r : List Nat) : fixG (10 :: r) = 13 :: 10 :: fixG r := by simp [fixG, fixH]
theorem fixG_one {c : Nat} (r : List Nat) (h : c ≠ 13) (h' : c ≠ 10) : fixG (c :: r) = c :: fixG r := by simp [fixG, fixH, h, h']

theorem quote_fix : ∀ (n : Nat) (l : List Nat), l.length ≤ n → ∀ (p p' : Nat), (p = 13 → l.head? ≠ some 10) → (p' = 10 ↔ LS p = true) → quoteF p' (fixG l) = sendF p l := by
  intro n
  induction n with
  | zero => intro l h p p' _ _; cases l with | nil => rfl | cons => simp at h
  | succ n ih =>
    intro l hl p p' hp hp'
    cases l with
    | nil => rfl
    | cons c r =>
      simp only [List.length_cons] at hl
      by_cases h13 : c = 13
      · subst h13
        by_cases hr : r.head? = some 10
        · cases r with
          | nil => simp at hr
          | cons d r =>
            simp at hr; subst hr
            rw [fixG_pair]
            simp only [quoteF, sendF]
            rw [ih r (by simp at hl; omega) 10 10 (fun x => absurd x (by decide)) (by simp [LS])]
            simp [snd1]
        · rw [fixG_cr r hr]
          simp only [quoteF, sendF]
          rw [ih r (by omega) 13 10 (fun _ => hr) (by simp [LS])]
          simp [snd1]
      · by_cases h10 : c = 10
        · subst h10
          have hpn : p ≠ 13 := fun x => hp x rfl
          rw [fixG_lf]
          simp only [quoteF, sendF]
          rw [ih r (by omega) 10 10 (fun x => absurd x (by decide)) (by simp [LS])]
          simp [snd1, hpn]
        · rw [fixG_one r h13 h10]
          simp only [quoteF, sendF]
          rw [ih r (by omega) c c (fun x => absurd x h13) (by simp [LS, h13, h10])]
          congr 1
          by_cases h46 : c = 46
          · subst h46
            simp only [snd1, and_true, if_true]
            by_cases h1 : LS p = true
            · rw [if_pos (hp'.mpr h1), if_pos h1]
            · rw [if_neg (fun x => h1 (hp'.mp x)), if_neg h1]
          · simp [snd1, h46, h13, h10]
theorem quote_fix_send (l : List Nat) : quoteF 10 (fixG l) = sendF 10 l := quote_fix _ l (Nat.le_refl _) 10 10 (fun x => absurd x (by decide)) (by simp [LS])

theorem drop_cons (text : Array Nat) {i : Nat} (h : i < text.size) : text.toList.drop i = text.getD i 0 :: text.toList.drop (i + 1) := by
  rw [List.drop_eq_getElem_cons (by rwa [Array.length_toList])]
  simp [Array.getD, h]

def prevAt (text : Array Nat) (i : Nat) : Nat := if i = 0 then 10 else text.getD (i - 1) 0
theorem quote_skip (text : Array Nat) (a : Nat) (ha : a ≤ text.size) : ∀ (k i : Nat), a - i = k → i ≤ a → (∀ j, i ≤ j → j < a → ¬ dotAt text j) →
    quoteF (prevAt text i) (text.toList.drop i) = (text.toList.drop i).take (a - i) ++ quoteF (prevAt text a) (text.toList.drop a) := by
  intro k
  induction k with
  | zero => intro i hk hi _; have : i = a := by omega
            subst this; simp
  | succ k ih =>
    intro i hk hi hno
    have hlt : i < text.size := by omega
    have := ih (i + 1) (by omega) (by omega) fun j hj hja => hno j (by omega) hja
    have hp : prevAt text (i + 1) = text.getD i 0 := by simp [prevAt]
    rw [hp] at this
    rw [drop_cons text hlt, quoteF, this]
    have hd : ¬ (prevAt text i = 10 ∧ text.getD i 0 = 46) := by
      rintro ⟨h1, h2⟩
      refine hno i (Nat.le_refl _) (by omega) ⟨hlt, ?_, h2⟩
      unfold prevAt at h1
      split at h1
      · left; assumption
      · right; exact h1
    rw [if_neg hd, show a - i = (a - (i + 1)) + 1 by omega, List.take_succ_cons]
    simp
theorem spec1 (text : Array Nat) (hsz : text.size ≤ 2 ^ 22) : SubSpec C1 text [46, 46] (fun i => quoteF (prevAt text i) (text.toList.drop i)) where
  next := by
    intro i hi
    by_cases he : i = text.size
    · right
      obtain ⟨n, m, hn, hm, ho⟩ := search1_end text i
      refine ⟨n, by omega, ⟨?_⟩, ?_⟩
      · rw [← he, hm]; exact ho
      · show quoteF _ _ = _
        rw [List.drop_of_length_le (by rw [Array.length_toList]; omega)]; rfl
    · rw [search1 text text.size i (by omega)]
      rcases find1 text (text.size - i) i true (({} : Sre.Seen).add 14) rfl hi with ⟨n, a, h1, h2, h3, h4, h5⟩ | ⟨n, h1, h2, h3⟩
      · left
        have hlt := h3.1
        refine ⟨n, a, a + 1, by omega, h2, by omega, by omega, h5, ?_⟩
        show quoteF _ _ = _
        rw [quote_skip text a (by omega) (a - i) i rfl h2 h4, List.append_assoc]
        congr 1
        rw [drop_cons text hlt, quoteF]
        have hp : prevAt text (a + 1) = text.getD a 0 := by simp [prevAt]
        have h10 : prevAt text a = 10 := by
          unfold prevAt
          rcases h3.2.1 with h | h
          · rw [if_pos h]
          · split
            · rfl
            · exact h
        rw [if_pos ⟨h10, h3.2.2⟩, hp]
      · right
        refine ⟨n, by omega, h3, ?_⟩
        show quoteF _ _ = _
        rw [quote_skip text text.size (Nat.le_refl _) (text.size - i) i rfl hi fun j hj _ => h2 j hj]
        have e1 : text.toList.drop text.size = [] := List.drop_of_length_le (by rw [Array.length_toList]; omega)
        rw [e1]
        simp only [quoteF, List.append_nil]
        rw [List.take_of_length_le]
        rw [List.length_drop, Array.length_toList]; omega

theorem fix_skip (text : Array Nat) (a : Nat) (ha : a ≤ text.size) : ∀ (k i : Nat), a - i = k → i ≤ a → (∀ j, i ≤ j → j < a → ¬ eolAt text j) →
    fixG (text.toList.drop i) = (text.toList.drop i).take (a - i) ++ fixG (text.toList.drop a) := by
  intro k
  induction k with
  | zero => intro i hk hi _; have : i = a := by omega
            subst this; simp
  | succ k ih =>
    intro i hk hi hno
    have hlt : i < text.size := by omega
    have := ih (i + 1) (by omega) (by omega) fun j hj hja => hno j (by omega) hja
    have h := hno i (Nat.le_refl _) (by omega)
    rw [drop_cons text hlt, fixG_one, this, show a - i = (a - (i + 1)) + 1 by omega, List.take_succ_cons]
    · simp
    · exact fun x => h ⟨hlt, .inl x⟩
    · exact fun x => h ⟨hlt, .inr x⟩
theorem eolEnd_bounds (text : Array Nat) (a : Nat) (h : a < text.size) : a < eolEnd text a ∧ eolEnd text a ≤ text.size := by
  unfold eolEnd
  by_cases hc : text.getD a 0 = 13 ∧ a + 1 < text.size ∧ text.getD (a + 1) 0 = 10
  · rw [if_pos hc]; omega
  · rw [if_neg hc]; omega
theorem head_drop (text : Array Nat) (i : Nat) : (text.toList.drop i).head? = text.toList[i]? := by rw [List.head?_drop]
theorem spec3 (text : Array Nat) (hsz : text.size ≤ 2 ^ 22) : SubSpec C3 text [13, 10] (fun i => fixG (text.toList.drop i)) where
  next := by
    intro i hi
    rcases find3 text i hi with ⟨n, a, h1, h2, h3, h4, h5⟩ | ⟨n, h1, h2, h3⟩
    · left
      have hlt := h3.1
      have hb := eolEnd_bounds text a hlt
      refine ⟨n, a, eolEnd text a, by omega, h2, hb.1, hb.2, h5, ?_⟩
      show fixG _ = _
      rw [fix_skip text a (by omega) (a - i) i rfl h2 h4, List.append_assoc]
      congr 1
      rw [drop_cons text hlt]
      unfold eolEnd
      by_cases hc : text.getD a 0 = 13 ∧ a + 1 < text.size ∧ text.getD (a + 1) 0 = 10
      · rw [if_pos hc]
        rw [hc.1, drop_cons text hc.2.1, hc.2.2, fixG_pair]; rfl
      · rw [if_neg hc]
        rcases h3.2 with h13 | h10
        · rw [h13, fixG_cr]
          · rfl
          · intro x
            apply hc
            refine ⟨h13, ?_⟩
            rw [head_drop] at x
            obtain ⟨hx, hv⟩ := List.getElem?_eq_some_iff.mp x
            rw [Array.length_toList] at hx
            refine ⟨hx, ?_⟩
            simp [Array.getD, hx]
            simpa using hv
        · rw [h10, fixG_lf]; rfl
    · right
      refine ⟨n, by omega, h3, ?_⟩
      show fixG _ = _
      rw [fix_skip text text.size (Nat.le_refl _) (text.size - i) i rfl hi fun j hj _ => h2 j hj]
      have e1 : text.toList.drop text.size = [] := List.drop_of_length_le (by rw [Array.length_toList]; omega)
      rw [e1]
      simp only [fixG_nil, List.append_nil]
      rw [List.take_of_length_le]
      rw [List.length_drop, Array.length_toList]; omega
theorem quoteF_len (p : Nat) (l : List Nat) : (quoteF p l).length ≤ 2 * l.length := by
  induction l generalizing p with
  | nil => simp [quoteF]
  | cons c r ih => simp only [quoteF, List.length_append, List.length_cons]; have := ih c; split <;> simp <;> omega
theorem fixG_len : ∀ (n : Nat) (l : List Nat), l.length ≤ n → (fixG l).length ≤ 2 * l.length := by
  intro n
  induction n with
  | zero => intro l h; cases l with | nil => simp [fixG_nil] | cons => simp at h
  | succ n ih =>
    intro l hl
    cases l with
    | nil => simp [fixG_nil]
    | cons c r =>
      simp only [List.length_cons] at hl
      by_cases h13 : c = 13
      · subst h13
        by_cases hr : r.head? = some 10
        · cases r with
          | nil => simp at hr
          | cons d r =>
            simp at hr; subst hr
            rw [fixG_pair]; have := ih r (by simp at hl; omega); simp; omega
        · rw [fixG_cr r hr]; have := ih r (by omega); simp; omega
      · by_cases h10 : c = 10
        · subst h10; rw [fixG_lf]; have := ih r (by omega); simp; omega
        · rw [fixG_one r h13 h10]; have := ih r (by omega); simp; omega
end Mine
end TSpec
section TUtf
namespace Mine
set_option autoImplicit false
open PySem PySem.W PyProof.Rows PySem.Spec PySem.Builtin

def utf8L (l : List Nat) : List UInt8 := l.flatMap Str.utf8Of
theorem u8 (n : Nat) (h : n < 256) : (n.toUInt8).toNat = n := by
  show (UInt8.ofNat n).toNat = n
  simp [UInt8.toNat_ofNat', Nat.mod_eq_of_lt h]
theorem of1 {c : Nat} (h : c < 0x80) : Str.utf8Of c = [c.toUInt8] := by simp [Str.utf8Of, h]
theorem of2 {c : Nat} (h : ¬ c < 0x80) (h2 : c < 0x800) : Str.utf8Of c = [(0xC0 + c / 64).toUInt8, (0x80 + c % 64).toUInt8] := by simp [Str.utf8Of, h, h2]
theorem of3 {c : Nat} (h : ¬ c < 0x800) (h2 : c < 0xD800) : Str.utf8Of c = [(0xE0 + c / 4096).toUInt8, (0x80 + c / 64 % 64).toUInt8, (0x80 + c % 64).toUInt8] := by
  simp [Str.utf8Of, show ¬ c < 0x80 by omega, h, show c < 0x10000 by omega]
theorem of_len {c : Nat} (h : c < 0xD800) : 1 ≤ (Str.utf8Of c).length ∧ (Str.utf8Of c).length ≤ 3 := by
  by_cases h1 : c < 0x80
  · rw [of1 h1]; simp
  · by_cases h2 : c < 0x800
    · rw [of2 h1 h2]; simp
    · rw [of3 h2 h]; simp
theorem utf8L_len (l : List Nat) (h : ∀ c ∈ l, c < 0xD800) : l.length ≤ (utf8L l).length ∧ (utf8L l).length ≤ 3 * l.length := by
  induction l with
  | nil => simp [utf8L]
  | cons c r ih =>
    have := ih fun c hc => h c (.tail _ hc)
    have h2 := of_len (h c (.head _))
    simp only [utf8L, List.flatMap_cons, List.length_append, List.length_cons] at this ⊢
    omega

/-! ## reading -/
theorem uat1 {b : Array UInt8} {p c : Nat} (h : (b.getD p 0).toNat = c) (hc : c < 0x80) : Bytes.utf8At b p = (.char c, p + 1) := by
  unfold Bytes.utf8At
  simp only [h, hc, if_true]
theorem uat2 {b : Array UInt8} {p a : Nat} {x1 : UInt8} (h : (b.getD p 0).toNat = a) (h1 : b[p + 1]? = some x1) (ha : 0xC2 ≤ a) (ha' : a ≤ 0xDF) (hx : 0x80 ≤ x1.toNat) (hx' : x1.toNat ≤ 0xBF) :
    Bytes.utf8At b p = (.char (a % 32 * 64 + x1.toNat % 64), p + 2) := by
  unfold Bytes.utf8At
  simp only [h]
  rw [if_neg (by omega)]
  have e1 : (decide (0xC2 ≤ a) && decide (a ≤ 0xDF)) = true := by simp [ha, ha']
  rw [if_pos e1]
  have er : List.map (fun x => x + 1) (List.range 1) = [1] := rfl
  simp only [er, List.foldl_cons, List.foldl_nil, Except.bind, h1]
  have e2 : (decide ((if (1 == 1) = true then 128 else 128) ≤ x1.toNat) && decide (x1.toNat ≤ if (1 == 1) = true then 191 else 191)) = true := by simp [hx, hx']
  rw [if_pos e2]
  rfl
theorem uat3 {b : Array UInt8} {p a : Nat} {x1 x2 : UInt8} (h : (b.getD p 0).toNat = a) (h1 : b[p + 1]? = some x1) (h2 : b[p + 2]? = some x2) (ha : 0xE0 ≤ a) (ha' : a ≤ 0xEF)
    (hx : 0x80 ≤ x1.toNat) (hx' : x1.toNat ≤ 0xBF) (hlo : a = 0xE0 → 0xA0 ≤ x1.toNat) (hhi : a = 0xED → x1.toNat ≤ 0x9F) (hy : 0x80 ≤ x2.toNat) (hy' : x2.toNat ≤ 0xBF) :
    Bytes.utf8At b p = (.char ((a % 16 * 64 + x1.toNat % 64) * 64 + x2.toNat % 64), p + 3) := by
  unfold Bytes.utf8At
  simp only [h]
  rw [if_neg (by omega)]
  have e1 : ¬ (decide (0xC2 ≤ a) && decide (a ≤ 0xDF)) = true := by simp; omega
  rw [if_neg e1]
  have er : List.map (fun x => x + 1) (List.range 2) = [1, 2] := rfl
  by_cases c0 : a = 0xE0
  · have h3 := hlo c0
    have h4 := hx'
    rw [if_pos (by simp [c0])]
    simp only [er, List.foldl_cons, List.foldl_nil, Except.bind, h1, h2]
    rw [if_pos (by simp [h3, h4])]
    simp only
    rw [if_pos (by simp [hy, hy'])]
    rfl
  · rw [if_neg (by simp [c0])]
    have h3 := hx
    by_cases c1 : a = 0xED
    · have h4 := hhi c1
      rw [if_pos (by simp [c1])]
      simp only [er, List.foldl_cons, List.foldl_nil, Except.bind, h1, h2]
      rw [if_pos (by simp [h3, h4])]
      simp only
      rw [if_pos (by simp [hy, hy'])]
      rfl
    · have h4 := hx'
      rw [if_neg (by simp [c1]), if_pos (by simp; omega)]
      simp only [er, List.foldl_cons, List.foldl_nil, Except.bind, h1, h2]
      rw [if_pos (by simp [h3, h4])]
      simp only
      rw [if_pos (by simp [hy, hy'])]
      rfl

theorem get_mid {α : Type} (pre post : List α) (x : α) : (pre ++ x :: post)[pre.length]? = some x := by simp
theorem read_one (pre post : List UInt8) (c : Nat) (hc : c < 0xD800) : Bytes.utf8At (pre ++ (Str.utf8Of c ++ post)).toArray pre.length = (.char c, pre.length + (Str.utf8Of c).length) := by
  have g : ∀ (y : UInt8) (rest : List UInt8), ((pre ++ (y :: rest)).toArray.getD pre.length 0) = y := by
    intro y rest
    simp [Array.getD]
  by_cases h1 : c < 0x80
  · rw [of1 h1, List.cons_append, List.nil_append]
    exact uat1 (by rw [g]; exact u8 c (by omega)) h1
  · by_cases h2 : c < 0x800
    · rw [of2 h1 h2]
      simp only [List.cons_append, List.nil_append]
      have k1 : (pre ++ (0xC0 + c / 64).toUInt8 :: (0x80 + c % 64).toUInt8 :: post).toArray[pre.length + 1]? = some (0x80 + c % 64).toUInt8 := by
        rw [List.getElem?_toArray, show pre ++ (0xC0 + c / 64).toUInt8 :: (0x80 + c % 64).toUInt8 :: post = (pre ++ [(0xC0 + c / 64).toUInt8]) ++ (0x80 + c % 64).toUInt8 :: post by simp]
        rw [show pre.length + 1 = (pre ++ [(0xC0 + c / 64).toUInt8]).length by simp]; exact get_mid _ _ _
      have r := uat2 (b := (pre ++ (0xC0 + c / 64).toUInt8 :: (0x80 + c % 64).toUInt8 :: post).toArray) (p := pre.length) (a := 0xC0 + c / 64) (by rw [g]; exact u8 _ (by omega)) k1 (by omega) (by omega) (by rw [u8 _ (by omega)]; omega) (by rw [u8 _ (by omega)]; omega)
      rw [r, u8 _ (by omega)]
      congr 2
      omega
    · rw [of3 h2 hc]
      simp only [List.cons_append, List.nil_append]
      have k1 : (pre ++ (0xE0 + c / 4096).toUInt8 :: (0x80 + c / 64 % 64).toUInt8 :: (0x80 + c % 64).toUInt8 :: post).toArray[pre.length + 1]? = some (0x80 + c / 64 % 64).toUInt8 := by
        rw [List.getElem?_toArray, show pre ++ (0xE0 + c / 4096).toUInt8 :: (0x80 + c / 64 % 64).toUInt8 :: (0x80 + c % 64).toUInt8 :: post = (pre ++ [(0xE0 + c / 4096).toUInt8]) ++ (0x80 + c / 64 % 64).toUInt8 :: (0x80 + c % 64).toUInt8 :: post by simp]
        rw [show pre.length + 1 = (pre ++ [(0xE0 + c / 4096).toUInt8]).length by simp]; exact get_mid _ _ _
      have k2 : (pre ++ (0xE0 + c / 4096).toUInt8 :: (0x80 + c / 64 % 64).toUInt8 :: (0x80 + c % 64).toUInt8 :: post).toArray[pre.length + 2]? = some (0x80 + c % 64).toUInt8 := by
        rw [List.getElem?_toArray, show pre ++ (0xE0 + c / 4096).toUInt8 :: (0x80 + c / 64 % 64).toUInt8 :: (0x80 + c % 64).toUInt8 :: post = (pre ++ [(0xE0 + c / 4096).toUInt8, (0x80 + c / 64 % 64).toUInt8]) ++ (0x80 + c % 64).toUInt8 :: post by simp]
        rw [show pre.length + 2 = (pre ++ [(0xE0 + c / 4096).toUInt8, (0x80 + c / 64 % 64).toUInt8]).length by simp]; exact get_mid _ _ _
      have r := uat3 (b := (pre ++ (0xE0 + c / 4096).toUInt8 :: (0x80 + c / 64 % 64).toUInt8 :: (0x80 + c % 64).toUInt8 :: post).toArray) (p := pre.length) (a := 0xE0 + c / 4096) (by rw [g]; exact u8 _ (by omega)) k1 k2 (by omega) (by omega)
        (by rw [u8 _ (by omega)]; omega) (by rw [u8 _ (by omega)]; omega) (by rw [u8 _ (by omega)]; omega) (by rw [u8 _ (by omega)]; omega) (by rw [u8 _ (by omega)]; omega) (by rw [u8 _ (by omega)]; omega)
      rw [r, u8 _ (by omega), u8 _ (by omega)]
      congr 2
      omega

/-! ## the dots among the octets -/
theorem quote_big (p : Nat) (x : Nat) (r : List Nat) (h : 128 ≤ x) : quoteF p (x :: r) = x :: quoteF x r := by
  rw [quoteF, if_neg (by omega)]; rfl
theorem quote_utf8 (l : List Nat) (h : ∀ c ∈ l, c < 0xD800) : ∀ (p p' : Nat), (p' = 10 ↔ p = 10) → quoteF p' ((utf8L l).map (·.toNat)) = (utf8L (quoteF p l)).map (·.toNat) := by
  induction l with
  | nil => intros; rfl
  | cons c r ih =>
    intro p p' hp
    have hc := h c (.head _)
    have ih := ih fun c hc => h c (.tail _ hc)
    have e : utf8L (c :: r) = Str.utf8Of c ++ utf8L r := rfl
    rw [e]
    by_cases h1 : c < 0x80
    · rw [of1 h1]
      simp only [List.cons_append, List.nil_append, List.map_cons, u8 c (show c < 256 by omega), quoteF]
      rw [ih c c Iff.rfl]
      by_cases hd : p = 10 ∧ c = 46
      · rw [if_pos ⟨hp.mpr hd.1, hd.2⟩, if_pos hd]
        have e2 : utf8L ([46, 46] ++ quoteF c r) = [46, 46] ++ utf8L (quoteF c r) := rfl
        rw [e2]; rfl
      · rw [if_neg (fun x => hd ⟨hp.mp x.1, x.2⟩), if_neg hd]
        have e2 : utf8L ([c] ++ quoteF c r) = Str.utf8Of c ++ utf8L (quoteF c r) := rfl
        rw [e2, of1 h1]
        simp [Nat.mod_eq_of_lt (show c < 256 by omega)]
    · have hd : ¬ (p = 10 ∧ c = 46) := by omega
      have e2 : utf8L (quoteF p (c :: r)) = Str.utf8Of c ++ utf8L (quoteF c r) := by rw [quoteF, if_neg hd]; rfl
      rw [e2]
      by_cases h2 : c < 0x800
      · rw [of2 h1 h2]
        simp only [List.cons_append, List.nil_append, List.map_cons]
        rw [u8 _ (by omega), u8 _ (by omega), quote_big _ _ _ (by omega), quote_big _ _ _ (by omega), ih c _ (by omega)]
      · rw [of3 h2 hc]
        simp only [List.cons_append, List.nil_append, List.map_cons]
        rw [u8 _ (by omega), u8 _ (by omega), u8 _ (by omega), quote_big _ _ _ (by omega), quote_big _ _ _ (by omega), quote_big _ _ _ (by omega), ih c _ (by omega)]
theorem quote_bytes (l : List Nat) (h : ∀ c ∈ l, c < 0xD800) : (quoteF 10 ((utf8L l).map (·.toNat))).map (·.toUInt8) = utf8L (quoteF 10 l) := by
  rw [quote_utf8 l h 10 10 Iff.rfl, List.map_map]
  conv => rhs; rw [← List.map_id (utf8L (quoteF 10 l))]
  congr 1
  funext x
  show x.toNat.toUInt8 = x
  simp
end Mine
end TUtf
section TUtf2
namespace Mine
set_option autoImplicit false
open PySem PySem.W PyProof.Rows PySem.Spec PySem.Builtin PySem.Builtin._codecs
theorem utf8_fold (l : List Nat) (acc : Array UInt8) : l.foldl (fun acc y => acc ++ (Str.utf8Of y).toArray) acc = acc ++ (utf8L l).toArray := by
  induction l generalizing acc with
  | nil => simp [utf8L]
  | cons c r ih => rw [List.foldl_cons, ih]; simp [utf8L]
theorem encode_tree2 (x : Str) (t u : Tok) : «str.encode» ⟨[.str x t, .str (Str.ofString "utf-8") u], []⟩ = (do ret (← encodeRoad "str.encode" (.str x t) x (Str.ofString "utf-8") none)) := by kernel_rfl

section
variable {M : Model} {A : Around} {E : Value → Shared → Prop} {s : Shared}
theorem narrow_wp {id : String} {self : Value} (x : Str) (h : ∀ c ∈ x.cps.toList, c < 0xD800) (hsz : x.cps.size ≤ 2 ^ 20) {Q : Array UInt8 → Shared → Prop} (hQ : Q (utf8L x.cps.toList).toArray s) : wpAny M A (encodeNarrow id utf8Codec none self x) Q E s := by
  unfold encodeNarrow
  have hnb : ∀ c ∈ x.cps.toList, utf8Codec.bad c = false := by
    intro c hc
    have := h c hc
    show Str.isSurrogate c = false
    simp [Str.isSurrogate]; omega
  have hl := utf8L_len _ h
  refine wpAny_bind ?_
  rw [range_forIn]
  obtain ⟨cps⟩ := x
  show wpAny M A (forIn (List.range' 0 cps.size) _ _) _ _ _
  dsimp only at h hsz hQ hnb hl
  rw [Array.length_toList] at hl
  have hself : cps.extract 0 cps.size = cps := Array.extract_eq_self_of_le (Nat.le_refl _)
  have hfold : cps.foldl (fun acc y => acc ++ (utf8Codec.bytesOf y).toArray) #[] = (utf8L cps.toList).toArray := by
    rw [← Array.foldl_toList]
    have := utf8_fold cps.toList #[]
    rw [Array.empty_append] at this
    exact this
  have hfind : cps.findIdx? utf8Codec.bad = none := by
    rw [Array.findIdx?_eq_none_iff]
    intro c hc
    rw [hnb c (by simpa using hc)]
  cases hn : cps.size with
  | zero =>
    refine wpAny_pure (wpAny_pure ?_)
    have : cps = #[] := Array.eq_empty_of_size_eq_zero hn
    subst this
    exact hQ
  | succ k =>
    rw [List.range'_succ]
    refine KPc.turn ?_
    dsimp only
    rw [if_neg (by rw [sizeLine_eq]; simp)]
    have h0 : 0 < cps.size := by omega
    have hg : cps[0]? = some cps[0] := Array.getElem?_eq_getElem h0
    rw [hg]
    dsimp only
    rw [if_pos (by rw [hnb _ (by simp)]; rfl)]
    refine wpAny_pure ?_
    dsimp only
    have hx : cps.extract 0 (k + 1) = cps := by rw [← hn]; exact hself
    rw [hx, hfind, Option.getD_none, hself, hfold]
    cases k with
    | zero => exact wpAny_pure (wpAny_pure hQ)
    | succ k =>
      rw [List.range'_succ]
      refine KPc.turn ?_
      dsimp only
      rw [if_neg (by rw [sizeLine_eq, List.size_toArray]; omega)]
      have hg2 : cps[0 + cps.size]? = none := Array.getElem?_eq_none (by omega)
      rw [hg2]
      exact wpAny_pure (wpAny_pure hQ)
end
section
variable {prog : Program} {w : World} {A : Around} {E : Value → Shared → Prop} {s : Shared} {x : Str} {t u : Tok} {Q : Value → Shared → Prop}
theorem call_encode (h : ∀ c ∈ x.cps.toList, c < 0xD800) (hsz : x.cps.size ≤ 2 ^ 20) (hQ : ∀ t' tk, Q (.bytes (utf8L x.cps.toList).toArray t') { s with toks := tk }) :
    wpAny (model prog w) A (call (.builtin "str.encode") [.str x t, .str (Str.ofString "utf-8") u]) Q E s := by
  refine wpAny_call_entry F.slot_str_encode (T := "str") (typeIs_str _ _ _) F.entry_str_encode ?_ (F.args_str_encode_2 _ _)
  rw [encode_tree2, encodeRoad_utf8]
  refine wpAny_bind (wpAny_bind (narrow_wp x h hsz ?_))
  refine wpAny_mkBytes (wpAny_pure ⟨_, rfl, hQ _ _⟩) ?_
  have hl := utf8L_len _ h
  rw [Array.length_toList] at hl
  rw [List.size_toArray, sizeLine_eq]; omega
end
end Mine
end TUtf2
section TUtf3
namespace Mine
set_option autoImplicit false
open PySem PySem.W PyProof.Rows PySem.Spec PySem.Builtin PySem.Builtin._codecs
theorem utf8L_append (a b : List Nat) : utf8L (a ++ b) = utf8L a ++ utf8L b := by simp [utf8L]
theorem loop_gen {σ : Type} (l : List Nat) (f : Nat → Nat × Array Nat × σ → Sem (ForInStep (Nat × Array Nat × σ))) (st : σ)
    (h1 : ∀ x pre post c, l = pre ++ c :: post → f x ((utf8L pre).length, pre.toArray, st) = pure (.yield ((utf8L (pre ++ [c])).length, (pre ++ [c]).toArray, st)))
    (h2 : ∀ x, f x ((utf8L l).length, l.toArray, st) = pure (.done ((utf8L l).length, l.toArray, st))) :
    ∀ (k : Nat) (post pre : List Nat) (j : Nat), l = pre ++ post → post.length ≤ k → forIn (List.range' j k) ((utf8L pre).length, pre.toArray, st) f = (pure ((utf8L l).length, l.toArray, st) : Sem _) := by
  intro k
  induction k with
  | zero =>
    intro post pre j e hk
    have : post = [] := List.eq_nil_of_length_eq_zero (by omega)
    subst this
    rw [List.append_nil] at e; subst e; rfl
  | succ k ih =>
    intro post pre j e hk
    rw [List.range'_succ, List.forIn_cons]
    cases post with
    | nil => rw [List.append_nil] at e; subst e; rw [h2]; rfl
    | cons c post =>
      rw [h1 j pre post c e]
      show forIn (List.range' (j + 1) k) _ f = _
      exact ih post (pre ++ [c]) (j + 1) (by rw [e]; simp) (by simp at hk; omega)
/-- the loop with what stands behind it -/
theorem loop_bind {σ β : Type} {l : List Nat} {f : Nat → Nat × Array Nat × σ → Sem (ForInStep (Nat × Array Nat × σ))} {st : σ} {init : Nat × Array Nat × σ} {n : Nat} {k : Nat × Array Nat × σ → Sem β} {r : Sem β}
    (hi : init = (0, #[], st)) (hn : l.length ≤ n) (hr : k ((utf8L l).length, l.toArray, st) = r)
    (h1 : ∀ x pre post c, l = pre ++ c :: post → f x ((utf8L pre).length, pre.toArray, st) = pure (.yield ((utf8L (pre ++ [c])).length, (pre ++ [c]).toArray, st)))
    (h2 : ∀ x, f x ((utf8L l).length, l.toArray, st) = pure (.done ((utf8L l).length, l.toArray, st))) : (forIn (List.range' 0 n) init f >>= k) = r := by
  have e := loop_gen l f st h1 h2 n l [] 0 rfl hn
  rw [hi]
  exact (congrArg (· >>= k) e).trans hr
theorem run_eq (id : String) (l : List Nat) (h : ∀ c ∈ l, c < 0xD800) (hsz : l.length ≤ 2 ^ 22) : runDecoder id utf8Decoder none true (utf8L l).toArray 0 [] = pure (l.toArray, (utf8L l).length) := by
  unfold runDecoder
  dsimp only
  rw [range_forIn]
  have hl := utf8L_len l h
  refine loop_bind (l := l) rfl (by rw [List.size_toArray]; exact hl.1) rfl ?_ ?_
  · intro x pre post c hpre
    dsimp only
    have hlen : pre.length < l.length := by rw [hpre]; simp
    rw [if_neg (by rw [List.size_toArray, sizeLine_eq]; omega)]
    have hc : c < 0xD800 := h c (by rw [hpre]; simp)
    have hb : utf8L l = utf8L pre ++ (Str.utf8Of c ++ utf8L post) := by rw [hpre, utf8L_append]; rfl
    have hoc := of_len hc
    rw [if_neg (by rw [List.size_toArray, hb]; simp only [List.length_append]; omega)]
    have hf : utf8Decoder.find true (utf8L l).toArray (utf8L pre).length = Found.char c ((utf8L pre).length + (Str.utf8Of c).length) := by
      show (match Bytes.utf8At (utf8L l).toArray (utf8L pre).length with | (.char c, nxt) => Found.char c nxt | (.bad _ stop reason, _) => _) = _
      rw [hb, read_one _ _ _ hc]
    rw [hf]
    show pure _ = pure _
    have e1 : (utf8L (pre ++ [c])).length = (utf8L pre).length + (Str.utf8Of c).length := by rw [utf8L_append, List.length_append]; simp [utf8L]
    rw [e1]
    simp
  · intro x
    dsimp only
    rw [if_neg (by rw [List.size_toArray, sizeLine_eq]; omega), if_pos (by rw [List.size_toArray]; exact Nat.le_refl _)]

theorem args_bytes_decode_2 (a b : Value) : argsOk "bytes.decode" ⟨[a, b], []⟩ := by unfold argsOk; kernel_rfl
theorem decode_entry (c : UInt8) (cs : List UInt8) (t u : Tok) : «bytes.decode» ⟨[.bytes (c :: cs).toArray t, .str (Str.ofString "utf-8") u], []⟩ = (mkStr (Str.ofString "utf-8") >>= fun _ => mkStr (Str.ofString "utf-8") >>= fun e => mkStr (Str.ofString "bytes.decode") >>= fun d =>
    call (.builtin "_codecs.decode.text") [.bytes (c :: cs).toArray t, e, .none, d] >>= fun v => ret v) := by kernel_rfl
theorem decode_entry0 (t u : Tok) : «bytes.decode» ⟨[.bytes #[] t, .str (Str.ofString "utf-8") u], []⟩ = (rule "bytes.decode.empty" >>= fun _ => retStr Str.empty) := by kernel_rfl
section
variable {prog : Program} {w : World} {A : Around} {E : Value → Shared → Prop} {s : Shared} {l : List Nat} {t u : Tok} {Q : Value → Shared → Prop}
theorem call_decode (h : ∀ c ∈ l, c < 0xD800) (hsz : l.length ≤ 2 ^ 20) (hQ : ∀ t' tk, Q (.str ⟨l.toArray⟩ t') { s with toks := tk }) :
    wpAny (model prog w) A (call (.builtin "bytes.decode") [.bytes (utf8L l).toArray t, .str (Str.ofString "utf-8") u]) Q E s := by
  refine wpAny_call_entry FB.slot_bytes_decode (T := "bytes") (typeIs_bytes _ _ _) FB.entry_bytes_decode ?_ (args_bytes_decode_2 _ _)
  have hrun := fun id => run_eq id l h (by omega)
  have hl := utf8L_len l h
  cases hb : utf8L l with
  | nil =>
    have : l = [] := by rw [hb] at hl; exact List.eq_nil_of_length_eq_zero (by simpa using hl.1)
    subst this
    rw [show ([] : List UInt8).toArray = #[] from rfl, decode_entry0]
    exact wpAny_bind (wpAny_rule (wpAny_bind (wpAny_mkStr (wpAny_pure ⟨_, rfl, hQ _ _⟩) (by decide))))
  | cons c cs =>
    rw [decode_entry]
    rw [hb] at hrun
    refine wpAny_bind (wpAny_mkStr ?_ (by decide))
    refine wpAny_bind (wpAny_mkStr ?_ (by decide))
    refine wpAny_bind (wpAny_mkStr ?_ (by decide))
    refine wpAny_bind (call_function_meets KBd.kind_text KBd.plain_text KBd.entry_text (KBd.args_text _ _ _ _) (KBd.meets_text (x := ⟨l.toArray⟩) (n := (c :: cs).length) fun id => hrun id) ⟨?_, wpAny_pure ⟨_, rfl, hQ _ _⟩⟩)
    show l.toArray.size ≤ _
    rw [List.size_toArray, sizeLine_eq]; omega
end
end Mine
end TUtf3
section TBase
open PySem PySem.W PyProof.Rows PySem.Spec
set_option maxRecDepth 100000
set_option maxHeartbeats 1000000
namespace Mine
abbrev P : Program := PySem.Challenge.rw_pe0071_01.row.prog
structure Gd (w : World) (mg mb : Str → Option Value) (h : Heap) : Prop where
  X : (hd.heap_39 w.params).In h
  T : TopRead hd.view_39 [Str.ofString "_twin_re_1", Str.ofString "_twin_re_2", Str.ofString "_twin_re_3", Str.ofString "_sre"] mg mb h
theorem Gd.keeps {w : World} {mg mb : Str → Option Value} {h h' : Heap} (G : Gd w mg mb h) (k : ∀ b o, h.get? b = some o → h'.get? b = some o) : Gd w mg mb h' := ⟨G.X.keeps k, G.T.keeps k⟩

theorem fill (w : World) : hd.heap_39 w.params = hd.heap_39 w.params ∧ PySem.Challenge.rw_pe0071_01.row.prog = PySem.Challenge.rw_pe0071_01.row.prog := by
  k_fill
  exact ⟨rfl, rfl⟩

/-- what a call leaves of the state -/
structure Ext (s s' : Shared) : Prop where
  keep : ∀ b o, s.heap.get? b = some o → s'.heap.get? b = some o
  os : s'.os = s.os
  gens : AllBare s.gens → AllBare s'.gens
theorem Ext.trans {s s' s'' : Shared} (x : Ext s s') (y : Ext s' s'') : Ext s s'' := ⟨fun b o e => y.keep b o (x.keep b o e), y.os.trans x.os, fun g => y.gens (x.gens g)⟩
theorem Ext.of_heap {s : Shared} {h' : Heap} {tk : Nat} (k : ∀ b o, s.heap.get? b = some o → h'.get? b = some o) : Ext s { s with heap := h', toks := tk } := ⟨k, rfl, id⟩
theorem Ext.fr {s s' : Shared} {h₀ : Heap} {L : Addr} {m : Str → Option Value} (x : Ext s s') (F : Fr h₀ L s.heap m) : Fr h₀ L s'.heap m := ⟨F.ns.keeps x.keep, fun b o e => x.keep b o (F.keep b o e), F.above⟩
theorem Ext.news {s s' : Shared} {h₀ : Heap} {L : Addr} {news : List (Addr × Obj)} (x : Ext s s') (N : News h₀ L s.heap news) : News h₀ L s'.heap news := fun p hp => ⟨x.keep _ _ (N p hp).1, (N p hp).2⟩

theorem enter {w : World} {A : Around} {s : Shared} {mg mb : Str → Option Value} {f : Addr} {name : Str} {params : Arguments} {body : List Stmt} {scope : Scope} {pm cd doc : Value} {args : List Value} (binds : List (Str × Value)) {Q : Value → Shared → Prop} {E : Value → Shared → Prop}
    (G : Gd w mg mb s.heap) (hr : A.depth < recursionLimit)
    (ho : (hd.heap_39 w.params).lookup f = some { cls := .type "function", data := .func (Calls.docDef name params body scope pm cd doc) }) (hcd : codeIn (hd.heap_39 w.params) cd name = true)
    (hbind : bindArgs (Calls.docDef name params body scope pm cd doc) ⟨args, []⟩ = pure binds)
    (hloc : (binds.all fun x => decide (scope.names.lookup x.1 = some .local)) = true)
    (h : ∀ h₁, Fr s.heap s.heap.objs.size h₁ (fun x => binds.reverse.lookup x) →
      wpAny (model P w) (A.deeper (envOf name scope s.heap.objs.size f cd)) (execs body (envOf name scope s.heap.objs.size f cd))
        (fun fl s' => Q (match fl with | .ret v => v | _ => .none) s') (fun _ _ => False)
        { s with heap := h₁, toks := s.toks + binds.length })
    (hco : scope.isCoroutine = false := by rfl) (hgen : scope.isGenerator = false := by rfl) (hk : scope.kind = .function := by rfl)
    (hcell : ∀ x ∈ scope.names, x.2 ≠ .cell := by decide) :
    wpAny (model P w) A (call (.ref f) args) Q E s := by
  refine wpAny_call (call_plain_ret hr (G.X f _ ho) rfl G.T.nolimit (codeRec_of G.X hcd) hbind (locs hloc) (fun h₁ F => ?_) hco hgen hk hcell)
  exact h h₁ F

theorem pat1 {w : World} {h : Heap} (X : (hd.heap_39 w.params).In h) : IsPat h 64 C1 0 := ⟨_, _, 63, _, _, X 64 _ rfl, X 63 _ rfl, by decide +kernel⟩
theorem pat2 {w : World} {h : Heap} (X : (hd.heap_39 w.params).In h) : IsPat h 69 C1 1 := ⟨_, _, 68, _, _, X 69 _ rfl, X 68 _ rfl, by decide +kernel⟩
theorem pat3 {w : World} {h : Heap} (X : (hd.heap_39 w.params).In h) : IsPat h 74 C3 0 := ⟨_, _, 73, _, _, X 74 _ rfl, X 73 _ rfl, by decide +kernel⟩

theorem method_sub {M : Model} {A : Around} {E : Value → Shared → Prop} {s : Shared} {pat : Addr} {C : Array Nat} {kind : Nat} {pl : Sem Bool} {Q : Value × List Value → Shared → Prop} (p : IsPat s.heap pat C kind) (h : Q (.builtin "re.Pattern.sub", [.ref pat]) s) :
    wpAny M A (getMethod (.ref pat) "sub" pl) Q E s :=
  getMethod_builtin p.typeIs attrs_re slot_re_sub type_re_sub (fun a e => by cases e; obtain ⟨_, _, _, _, _, h1, _⟩ := p; exact ⟨_, h1, rfl⟩) h

theorem crlf_is : Str.ofString "\x0d\n" = ⟨[13, 10].toArray⟩ := by decide +kernel
theorem dots_is : Str.ofString ".." = ⟨[46, 46].toArray⟩ := by decide +kernel

/-- the substitution of line ends in a text -/
theorem sub3_wp {w : World} {A : Around} {s : Shared} {x : Str} {t tr : Tok} {Q E : Value → Shared → Prop} (p : IsPat s.heap 74 C3 0) (hx : x.cps.size ≤ 2 ^ 20)
    (h : ∀ t' h' tk, (∀ b o, s.heap.get? b = some o → h'.get? b = some o) → Q (.str ⟨(fixG x.cps.toList).toArray⟩ t') { s with heap := h', toks := tk }) :
    wpAny (model P w) A (call (.builtin "re.Pattern.sub") [.ref 74, .str (Str.ofString "\x0d\n") tr, .str x t]) Q E s := by
  rw [crlf_is]
  have hl := fixG_len _ x.cps.toList (Nat.le_refl _)
  have hl2 : x.cps.toList.length = x.cps.size := Array.length_toList
  refine call_sub (kind := 0) (rp := [13, 10]) (.inl rfl) (by decide) p (spec3 x.cps (by omega)) (by omega) ?_ (fun A s Q E hp hq => target0 hp hq) ?_
  · show (fixG (x.cps.toList.drop 0)).length ≤ _
    rw [List.drop_zero]; omega
  · intro t' h' tk hk
    exact h t' h' tk hk
/-- the doubling of a dot at a line's beginning -/
theorem sub1_wp {w : World} {A : Around} {s : Shared} {x : Str} {t tr : Tok} {Q E : Value → Shared → Prop} (p : IsPat s.heap 64 C1 0) (hx : x.cps.size ≤ 2 ^ 20)
    (h : ∀ t' h' tk, (∀ b o, s.heap.get? b = some o → h'.get? b = some o) → Q (.str ⟨(quoteF 10 x.cps.toList).toArray⟩ t') { s with heap := h', toks := tk }) :
    wpAny (model P w) A (call (.builtin "re.Pattern.sub") [.ref 64, .str (Str.ofString "..") tr, .str x t]) Q E s := by
  rw [dots_is]
  have hl := quoteF_len 10 x.cps.toList
  have hl2 : x.cps.toList.length = x.cps.size := Array.length_toList
  refine call_sub (kind := 0) (rp := [46, 46]) (.inl rfl) (by decide) p (spec1 x.cps (by omega)) (by omega) ?_ (fun A s Q E hp hq => target0 hp hq) ?_
  · show (quoteF 10 (x.cps.toList.drop 0)).length ≤ _
    rw [List.drop_zero]; omega
  · intro t' h' tk hk
    exact h t' h' tk hk
/-- the same over octets -/
theorem sub2_wp {w : World} {A : Around} {s : Shared} {x : Array UInt8} {t tr : Tok} {Q E : Value → Shared → Prop} (p : IsPat s.heap 69 C1 1) (hx : x.size ≤ 2 ^ 21)
    (h : ∀ t' h' tk, (∀ b o, s.heap.get? b = some o → h'.get? b = some o) → Q (.bytes ((quoteF 10 (x.toList.map (·.toNat))).map (·.toUInt8)).toArray t') { s with heap := h', toks := tk }) :
    wpAny (model P w) A (call (.builtin "re.Pattern.sub") [.ref 69, .bytes #[46, 46] tr, .bytes x t]) Q E s := by
  have hl := quoteF_len 10 (x.toList.map (·.toNat))
  have hl2 : (x.toList.map (·.toNat)).length = x.size := by rw [List.length_map, Array.length_toList]
  have hm : (x.map (·.toNat)).toList = x.toList.map (·.toNat) := Array.toList_map ..
  have hs : (x.map (·.toNat)).size = x.size := Array.size_map ..
  refine call_sub (kind := 1) (rp := [46, 46]) (rest := fun i => quoteF (prevAt (x.map (·.toNat)) i) ((x.map (·.toNat)).toList.drop i)) (.inr rfl) (by decide) p (spec1 (x.map (·.toNat)) (by omega)) (by omega) ?_ (fun A s Q E hp hq => target1 hp hq) ?_
  · show (quoteF 10 ((x.map (·.toNat)).toList.drop 0)).length ≤ _
    rw [List.drop_zero, hm]; omega
  · intro t' h' tk hk
    have := h t' h' tk hk
    rw [← hm] at this
    exact this

theorem fix_ok {w : World} {A : Around} {s : Shared} {mg mb : Str → Option Value} (G : Gd w mg mb s.heap) (hdp : A.depth < 900) {x : Str} {t : Tok} (hx : x.cps.size ≤ 2 ^ 20) {Q E}
    (h : ∀ t' s', Ext s s' → Q (.str ⟨(fixG x.cps.toList).toArray⟩ t') s') :
    wpAny (model P w) A (call (.ref 95) [.str x t]) Q E s := by
  refine enter [(Str.ofString "data", .str x t)] G (by simp only [recursionLimit]; omega) rfl (by k_is) rfl rfl ?_
  intro h₁ F
  have N : News s.heap s.heap.objs.size h₁ [] := News.nil
  have G' := G.keeps F.keep
  obtain ⟨X, T⟩ := G
  iterate 4 walk1
  refine method_sub (pat3 G'.X) ?_
  iterate 6 walk1
  exact sub3_wp (pat3 G'.X) hx fun t' h' tk hk => h t' _ ⟨fun b o e => hk b o (F.keep b o e), rfl, id⟩

theorem quote_ok {w : World} {A : Around} {s : Shared} {mg mb : Str → Option Value} (G : Gd w mg mb s.heap) (hdp : A.depth < 900) {x : Str} {t : Tok} (hx : x.cps.size ≤ 2 ^ 19) {Q E}
    (h : ∀ t' s', Ext s s' → Q (.str ⟨(sendF 10 x.cps.toList).toArray⟩ t') s') :
    wpAny (model P w) A (call (.ref 81) [.str x t]) Q E s := by
  refine enter [(Str.ofString "data", .str x t)] G (by simp only [recursionLimit]; omega) rfl (by k_is) rfl rfl ?_
  intro h₁ F
  have N : News s.heap s.heap.objs.size h₁ [] := News.nil
  have G' := G.keeps F.keep
  obtain ⟨X, T⟩ := G
  iterate 4 walk1
  refine method_sub (pat1 G'.X) ?_
  iterate 6 walk1
  refine method_sub (pat3 G'.X) ?_
  iterate 6 walk1
  refine sub3_wp (pat3 G'.X) (by omega) fun t' h' tk hk => ?_
  have G2 := G'.keeps hk
  iterate 1 walk1
  refine sub1_wp (pat1 G2.X) ?_ fun t2 h2 tk2 hk2 => ?_
  · have := fixG_len _ x.cps.toList (Nat.le_refl _)
    have hl2 : x.cps.toList.length = x.cps.size := Array.length_toList
    show (fixG x.cps.toList).toArray.size ≤ _
    rw [List.size_toArray]; omega
  · show Q (.str ⟨(quoteF 10 (fixG x.cps.toList).toArray.toList).toArray⟩ t2) _
    rw [List.toList_toArray, quote_fix_send]
    exact h t2 _ ⟨fun b o e => hk2 b o (hk b o (F.keep b o e)), rfl, id⟩
end Mine
end TBase
section TBase2
open PySem PySem.W PyProof.Rows PySem.Spec
set_option maxRecDepth 100000
set_option maxHeartbeats 1000000
namespace Mine
theorem refill (w : World) : hd.heap_39 w.params = hd.heap_39 w.params ∧ PySem.Challenge.rw_pe0071_01.row.prog = PySem.Challenge.rw_pe0071_01.row.prog := by
  k_fill
  exact ⟨rfl, rfl⟩
theorem periods_ok {w : World} {A : Around} {s : Shared} {mg mb : Str → Option Value} (G : Gd w mg mb s.heap) (hdp : A.depth < 900) {l : List Nat} {t : Tok} (hl : ∀ c ∈ l, c < 0xD800) (hx : l.length ≤ 2 ^ 19) {Q E}
    (h : ∀ t' s', Ext s s' → Q (.bytes (utf8L (quoteF 10 l)).toArray t') s') :
    wpAny (model P w) A (call (.ref 88) [.bytes (utf8L l).toArray t]) Q E s := by
  refine enter [(Str.ofString "bindata", .bytes (utf8L l).toArray t)] G (by simp only [recursionLimit]; omega) rfl (by k_is) rfl rfl ?_
  intro h₁ F
  have N : News s.heap s.heap.objs.size h₁ [] := News.nil
  have G' := G.keeps F.keep
  obtain ⟨X, T⟩ := G
  iterate 4 walk1
  refine method_sub (pat2 G'.X) ?_
  iterate 6 walk1
  have hb := utf8L_len l hl
  refine sub2_wp (pat2 G'.X) (by rw [List.size_toArray]; omega) fun t' h' tk hk => ?_
  show Q (.bytes ((quoteF 10 ((utf8L l).toArray.toList.map (·.toNat))).map (·.toUInt8)).toArray t') _
  rw [List.toList_toArray, quote_bytes l hl]
  exact h t' _ ⟨fun b o e => hk b o (F.keep b o e), rfl, id⟩
end Mine
end TBase2
section TGen1
namespace Mine
set_option autoImplicit false
open PySem PySem.W PyProof.Rows PySem.Spec

section
variable {M : Model} {A : Around} {R : GenEnd} {Y : Protocol} {n : Nat} {s₀ : Shared} {c : Code} {fs : List Frame} {s : Shared} {env : Env}
  {K : Flow → Sem PySem.Fin} {H : Value → Sem PySem.Fin} {gd : Bool → Bool} {lv : List Value → List Value}

theorem seg_exec {st : Stmt} {rest : List Stmt}
    (h : wpAny M (A.over c fs) (exec st env) (fun f s' => match f with | .next => Seg M A R Y n s₀ c ((execs rest env).wrap K H gd lv) fs s' | f => Seg M A R Y n s₀ c (K f) fs s') (fun _ _ => False) s) :
    Seg M A R Y n s₀ c ((execs (st :: rest) env).wrap K H gd lv) fs s := by
  refine seg_execs_cons (seg_wrap (wpAny_mono h (fun f s' hf => ?_) fun _ _ x => x.elim))
  cases f <;> exact hf

theorem seg_If {test : Expr} {body orelse : List Stmt} {pos : Pos}
    (h : wpAny M (A.over c fs) (isTrue test env (eval test env)) (fun b s' => if b = true then Seg M A R Y n s₀ c ((execs body env).wrap K H gd lv) fs s' else Seg M A R Y n s₀ c ((execs orelse env).wrap K H gd lv) fs s') (fun _ _ => False) s) :
    Seg M A R Y n s₀ c ((exec (.If test body orelse pos) env).wrap K H gd lv) fs s := by
  show Seg M A R Y n s₀ c (.at pos fun _ => (isTrue test env (eval test env) >>= fun b => if b = true then execs body env else execs orelse env).wrap K H gd lv) fs s
  refine seg_at (seg_bind_wrap (wpAny_mono h (fun b s' hb => ?_) fun _ _ x => x.elim))
  cases b
  · exact hb
  · exact hb

theorem seg_For {target iter : Expr} {body orelse : List Stmt} {pos : Pos} (hs : ∀ x, foldedSetIterable iter env x = pure x)
    (h : wpAny M (A.over c fs) (eval iter env) (fun x s₁ => wpAny M (A.over c fs) (pyIter x) (fun it s₂ => ∀ p k, (∀ f, k (.ok f) = K f) → Seg M A R Y n s₀ (.forLoop target it body orelse env) (M.den (.forLoop target it body orelse env))
      (.ret k none (gd false) (lv []) c p [] :: fs) s₂) (fun _ _ => False) s₁) (fun _ _ => False) s) :
    Seg M A R Y n s₀ c ((exec (.For target iter body orelse pos) env).wrap K H gd lv) fs s := by
  rw [exec_For]
  refine seg_bind_wrap (wpAny_standAt ?_)
  refine seg_bind_wrap (wpAny_mono h (fun x s₁ h₁ => ?_) fun _ _ x => x.elim)
  refine seg_bind_wrap (wpAny_of_eq (hs x) ?_)
  refine seg_bind_wrap (wpAny_standAt ?_)
  refine seg_bind_wrap (wpAny_holding (wpAny_mono h₁ (fun it s₂ h₂ => ?_) fun _ _ x => x.elim))
  exact seg_call fun p => h₂ p _ fun _ => rfl
end

section
variable {prog : Program} {w : World} {A : Around} {R : GenEnd} {Y : Protocol} {n : Nat} {s₀ : Shared} {fs : List Frame} {s : Shared} {env : Env}
/-- a turn's end -/
theorem seg_turn {c c' : Code} {k : Flow → Sem PySem.Fin} {f : Flow} (hk : k f = .pure (.again c')) (hq : c'.quiet = true) (h : Seg (model prog w) A R Y n s₀ c' ((model prog w).den c') fs s) : Seg (model prog w) A R Y n s₀ c (k f) fs s := by
  rw [hk]
  exact seg_again hq h
/-- one turn of a for: whatever stands behind the body goes on to the next turn -/
theorem seg_forLoop {target : Expr} {it : Value} {body orelse : List Stmt}
    (h : wpAny (model prog w) (A.over (.forLoop target it body orelse env) fs) (pyNext it) (fun r s₁ => match r with
      | none => Seg (model prog w) A R Y n s₀ (.block orelse env) ((model prog w).den (.block orelse env)) fs s₁
      | some v => wpAny (model prog w) (A.over (.forLoop target it body orelse env) fs) (letOwnedTupleGo target it v) (fun _ s₂ =>
          wpAny (model prog w) (A.over (.forLoop target it body orelse env) fs) (assign target env v) (fun _ s₃ =>
            ∀ k h, k .next = .pure (.again (.forLoop target it body orelse env)) → Seg (model prog w) A R Y n s₀ (.forLoop target it body orelse env) ((execs body env).wrap k h id id) fs s₃) (fun _ _ => False) s₂) (fun _ _ => False) s₁) (fun _ _ => False) s) :
    Seg (model prog w) A R Y n s₀ (.forLoop target it body orelse env) ((model prog w).den (.forLoop target it body orelse env)) fs s := by
  show Seg _ A R Y n s₀ _ ((forTurn target it body orelse env).onRaise _) fs s
  unfold forTurn
  rw [Sem.onRaise_eq_wrap]
  refine seg_bind_wrap (wpAny_standAt ?_)
  refine seg_bind_wrap (wpAny_onRaise (wpAny_mono h (fun r s₁ h₁ => ?_) fun _ _ x => x.elim))
  cases r with
  | none => exact seg_again rfl h₁
  | some v =>
    refine seg_bind_wrap (wpAny_mono h₁ (fun _ s₂ h₂ => ?_) fun _ _ x => x.elim)
    refine seg_bind_wrap (wpAny_mono h₂ (fun _ s₃ h₃ => ?_) fun _ _ x => x.elim)
    rw [Sem.bind_eq_wrap', Sem.wrap_wrap]
    exact h₃ _ _ rfl
theorem seg_block_nil {c' : Code} {k : Result → Sem PySem.Fin} {hd : Option Value} {g : Bool} {l : List Value} {p : Pos} {kp : List Value} (h : Seg (model prog w) A R Y n s₀ c' (k (.ok .next)) fs s) :
    Seg (model prog w) A R Y n s₀ (.block [] env) ((model prog w).den (.block [] env)) (.ret k hd g l c' p kp :: fs) s :=
  seg_leaf (.ok .next) h
end
end Mine
end TGen1
section TGen2
open PySem PySem.W PyProof.Rows PySem.Spec
set_option maxRecDepth 100000
set_option maxHeartbeats 1000000
namespace Mine
set_option autoImplicit false

theorem refillG (w : World) : hd.heap_39 w.params = hd.heap_39 w.params ∧ PySem.Challenge.rw_pe0071_01.row.prog = PySem.Challenge.rw_pe0071_01.row.prog := by
  k_fill
  exact ⟨rfl, rfl⟩
/-- what the generator hands out: the place and the signs -/
def esc (k : Nat) : List Nat → List (Nat × List Nat)
  | [] => []
  | c :: r => if c = 92 then (match r with | [] => [(k, [92])] | d :: r' => (k + 1, [92, d]) :: esc (k + 2) r') else (k, [c]) :: esc (k + 1) r
/-- what is left of it at a turn -/
def escR (e : Bool) (i : Nat) (l : List Nat) : List (Nat × List Nat) := if e then (match l with | [] => [(i - 1, [92])] | d :: r => (i, [92, d]) :: esc (i + 1) r) else esc i l
theorem escR_bs (i : Nat) (r : List Nat) : escR false i (92 :: r) = escR true (i + 1) r := by
  cases r <;> simp [escR, esc]
theorem escR_one (i : Nat) {c : Nat} (r : List Nat) (h : c ≠ 92) : escR false i (c :: r) = (i, [c]) :: escR false (i + 1) r := by
  simp only [escR, Bool.false_eq_true, if_false]; rw [esc.eq_def]; simp [h]
theorem escR_esc (i d : Nat) (r : List Nat) : escR true i (d :: r) = (i, [92, d]) :: escR false (i + 1) r := by simp [escR]
theorem escR_end (i : Nat) : escR true i [] = [(i - 1, [92])] := by simp [escR]
theorem escR_nil (i : Nat) : escR false i [] = [] := by simp [escR, esc]

def genFd : List Stmt × Scope := match (PySem.Challenge.pw_pe0071_01.main.body : List Stmt)[2]? with
  | some (Stmt.FunctionDef _ _ b _ _ _ sc _ _ _) => (b, sc)
  | _ => ([], default)
abbrev genEnv (L : Addr) : Env := envOf "_iter_escaped_chars" genFd.2 L 38 (.ref 37)

def Since (N L : Addr) (s₀ s : Shared) : Prop := ∃ h' tk, s = { s₀ with heap := h', toks := tk } ∧ ∀ b o, b < N → b ≠ L → s₀.heap.get? b = some o → h'.get? b = some o
theorem Since.refl (N L : Addr) (s : Shared) : Since N L s s := ⟨s.heap, s.toks, rfl, fun _ _ _ _ e => e⟩
theorem Since.step {N L : Addr} {s₀ s : Shared} (x : Since N L s₀ s) {h' : Heap} {tk : Nat} (hk : ∀ b o, b < N → b ≠ L → s.heap.get? b = some o → h'.get? b = some o) : Since N L s₀ { s with heap := h', toks := tk } := by
  obtain ⟨h₁, tk₁, rfl, hk₁⟩ := x
  exact ⟨h', tk, rfl, fun b o hb hl e => hk b o hb hl (hk₁ b o hb hl e)⟩

/-- the protocol: the pairs in their order; the consumer turns nothing but W -/
def proto (items : List (Nat × List Nat)) (N L : Addr) (W : List Addr) : Protocol := fun m s₀ v s kap =>
  (∃ T p cs tp tc, items[items.length - 1 - m]? = some (p, cs) ∧ v = .ref T ∧ s.heap.IsTuple T #[.int (p : Nat) tp, .str ⟨cs.toArray⟩ tc]) ∧ Since N L s₀ s ∧
    ∀ s'' : Shared, (∀ b o, b ∉ W → s.heap.get? b = some o → s''.heap.get? b = some o) → kap (.send .none) s''
def genEnd (N L : Addr) : GenEnd := fun n s₀ r s₁ => r = .ok (.ret .none) ∧ (n = 0 ∧ Since N L s₀ s₁)

theorem strD {prog : Program} {w : World} {A : Around} (hh : A.handled = none) (it : Addr) (x : Str) (t : Tok) :
    Draws prog w A it [it] x.cps.size (fun i v => ∃ c u, x.cps[i]? = some c ∧ v = .str ⟨#[c]⟩ u) (fun i h => h.IsStrIter it (strIterType x) x t i) := by
  cases ha : x.cps.all (· < 128)
  · have e : strIterType x = "str_iterator" := by simp [strIterType, ha]
    rw [e]; exact .strWide hh it x t
  · have e : strIterType x = "str_ascii_iterator" := by simp [strIterType, ha]
    rw [e]; exact .strAscii hh it x t

structure GS (hb : Heap) (L e it : Addr) (x : Str) (t : Tok) (i : Nat) (m : Str → Option Value) (h : Heap) : Prop where
  F : Fr hb L h m
  en : ∃ old, IsEnum h e it i old
  st : h.IsStrIter it (strIterType x) x t i
theorem GS.keeps {hb : Heap} {L e it : Addr} {x : Str} {t : Tok} {i : Nat} {m : Str → Option Value} {h h' : Heap} (g : GS hb L e it x t i m h)
    (hk : ∀ b o, (b = L ∨ b = e ∨ b = it ∨ b < hb.objs.size) → h.get? b = some o → h'.get? b = some o) : GS hb L e it x t i m h' where
  F := ⟨g.F.ns.at' fun o q => hk _ o (.inl rfl) q, fun b o q => hk b o (.inr (.inr (.inr (Heap.lt_size q)))) (g.F.keep b o q), g.F.above⟩
  en := let ⟨old, q⟩ := g.en; ⟨old, hk _ _ (.inr (.inl rfl)) q⟩
  st := let ⟨o, ho, r⟩ := g.st; ⟨o, hk _ o (.inr (.inr (.inl rfl))) ho, r⟩

theorem seg_loopI {M : Model} {A : Around} {R : GenEnd} {Y : Protocol} {c : Code} {fs : List Frame} (Inv : Nat → Nat → Shared → Shared → Prop)
    (turn : ∀ k n s₀ s, Inv k n s₀ s → (∀ k' n' s₀' s', k' < k → Inv k' n' s₀' s' → Seg M A R Y n' s₀' c (M.den c) fs s') → Seg M A R Y n s₀ c (M.den c) fs s) :
    ∀ k n s₀ s, Inv k n s₀ s → Seg M A R Y n s₀ c (M.den c) fs s := by
  intro k
  induction k using Nat.strongRecOn with
  | ind k ih => exact fun n s₀ s h => turn k n s₀ s h fun k' n' s₀' s' hk h' => ih k' hk n' s₀' s' h'

/-- everything that stands beside the frame, as a ledger -/
def led (hb : Heap) (L N : Addr) (h : Heap) : List (Addr × Obj) := (List.range N).filterMap fun b => if b = L ∨ (hb.get? b).isSome = true then none else (h.get? b).map fun o => (b, o)
theorem led_mem {hb h : Heap} {L N b : Addr} {o : Obj} : (b, o) ∈ led hb L N h ↔ b < N ∧ b ≠ L ∧ hb.get? b = none ∧ h.get? b = some o := by
  unfold led
  rw [List.mem_filterMap]
  constructor
  · rintro ⟨a, ha, e⟩
    split at e
    · cases e
    · rename_i hn
      rw [Option.map_eq_some_iff] at e
      obtain ⟨o', ho, e⟩ := e
      cases e
      refine ⟨List.mem_range.mp ha, fun q => hn (.inl q), ?_, ho⟩
      cases hq : hb.get? b with
      | none => rfl
      | some _ => exact absurd (.inr (by rw [hq]; rfl)) hn
  · rintro ⟨h1, h2, h3, h4⟩
    refine ⟨b, List.mem_range.mpr h1, ?_⟩
    rw [if_neg (by rintro (q | q); exact h2 q; rw [h3] at q; cases q), h4]; rfl
theorem led_news (hb : Heap) (L N : Addr) (h : Heap) : News hb L h (led hb L N h) := by
  rintro ⟨b, o⟩ hp
  obtain ⟨_, h2, h3, h4⟩ := led_mem.mp hp
  exact ⟨h4, h2, h3⟩
theorem led_keep {hb h h' : Heap} {L N : Addr} {m m' : Str → Option Value} (F : Fr hb L h m) (F' : Fr hb L h' m') (N' : News hb L h' (led hb L N h)) : ∀ b o, b < N → b ≠ L → h.get? b = some o → h'.get? b = some o := by
  intro b o hb' hl e
  cases hq : hb.get? b with
  | none => exact (N' (b, o) (led_mem.mpr ⟨hb', hl, hq, e⟩)).1
  | some o' =>
    have hq' := F.keep b o' hq
    rw [e] at hq'
    injection hq' with hq'
    rw [hq']
    exact F'.keep b o' hq

theorem sign_beq (c d : Nat) : ((⟨#[c]⟩ : Str) == ⟨[d].toArray⟩) = decide (c = d) := by
  by_cases h : c = d
  · subst h; simp
  · rw [decide_eq_false h, beq_eq_false_iff_ne]
    intro q; injection q with q; simp at q; exact h q
theorem get_item {α : Type} (pre rest : List α) (a : α) : (pre ++ a :: rest)[(pre ++ a :: rest).length - 1 - rest.length]? = some a := by
  have : (pre ++ a :: rest).length - 1 - rest.length = pre.length := by simp
  rw [this]; simp
theorem bs_append (c : Nat) : Str.ofString "\\" ++ (⟨#[c]⟩ : Str) = ⟨[92, c].toArray⟩ := by
  have : Str.ofString "\\" = ⟨#[92]⟩ := by decide +kernel
  rw [this]; rfl
theorem bs_is : Str.ofString "\\" = ⟨[92].toArray⟩ := by decide +kernel

theorem gen_seg {w : World} {A : Around} {hb : Heap} {mg mb : Str → Option Value} (G : Gd w mg mb hb) (hh : A.handled = none) {L N : Nat} {W : List Nat} {x : Str} {t : Tok}
    (hW : ∀ b ∈ W, hb.objs.size ≤ b) (hLW : L ∉ W) (hWN : ∀ b ∈ W, b < N) {s : Shared} (F : Fr hb L s.heap (fun y => [((Str.ofString "addr"), Value.str x t)].reverse.lookup y)) (hlast : ∃ o, s.heap.get? (N - 1) = some o) (hLN : L < N - 1) :
    Seg (model P w) A (genEnd N L) (proto (esc 0 x.cps.toList) N L W) (esc 0 x.cps.toList).length s (.func genFd.1 (genEnv L)) ((model P w).den (.func genFd.1 (genEnv L))) [] s := by
  refine seg_func ?_
  refine seg_exec ?_
  obtain ⟨X, T⟩ := G
  have N0 := led_news hb L N s.heap
  have hkeep : ∀ h' m', Fr hb L h' m' → News hb L h' (led hb L N s.heap) → ∀ b o, b < N → b ≠ L → s.heap.get? b = some o → h'.get? b = some o := fun h' m' F' N' => led_keep F F' N'
  iterate 3 walk1
  refine seg_exec ?_
  iterate 3 walk1
  refine seg_execs_cons (seg_For (by intro _; rfl) ?_)
  iterate 6 walk1
  rename_i h1 F1 N1
  have hk1 := hkeep _ _ F1 N1
  refine call_enumerate_str fun h2 he hit hsz hk => ?_
  dsimp only at he hit hsz hk ⊢
  have hsz1 : N ≤ h1.objs.size := by
    obtain ⟨o, ho⟩ := hlast
    have hlt : (N - 1 : Nat) < h1.objs.size := Heap.lt_size (hk1 (N - 1) o (by omega) (by omega) ho)
    omega
  refine wpAny_pyIter_enum he ?_
  intro p kb hkb
  have F2 : Fr hb L h2 _ := ⟨F1.ns.keeps hk, fun b o e => hk b o (F1.keep b o e), F1.above⟩
  generalize h1.objs.size = it at he hit hsz hsz1 ⊢
  have hNit : N ≤ it := by omega
  refine seg_loopI (fun k n s₀ s => ∃ i m e pv tp pre, k = x.cps.size + 1 - i ∧ i ≤ x.cps.size ∧ GS hb L (it + 1) it x t i m s.heap ∧ m (Str.ofString "escape") = some (.bool e) ∧ m (Str.ofString "pos") = some (.int (pv : Nat) tp) ∧
    (e = true → pv = i - 1) ∧ esc 0 x.cps.toList = pre ++ escR e i (x.cps.toList.drop i) ∧ n = (escR e i (x.cps.toList.drop i)).length ∧ Since N L s₀ s) ?_ (x.cps.size + 1) _ _ _ ?_
  · rintro k n s₀ s ⟨i, m, e, pv, tp, pre, rfl, hi, gs, hE, hP, hpe, hpre, rfl, hsince⟩ ih
    clear N1 F1 F2 hk1 hkeep he hit hsz hk hsz1
    have hhF : (A.over (Code.forLoop (Expr.Tuple [Expr.Name "pos" default] 0 default) (.ref (it + 1)) [] [] (genEnv L)) []).handled = none := hh
    refine seg_forLoop ?_
    obtain ⟨old, en⟩ := gs.en
    rcases Nat.lt_or_eq_of_le hi with hlt | rfl
    · refine wpAny_pyNext_enum_itemD (strD (by exact hh) it x t) en gs.st hlt (Nat.succ_ne_self it) (by simp) ?_
      intro v h1 tk1 hv heo hst1 hT1 hz1 hk1
      dsimp only
      obtain ⟨c, u, hc, rfl⟩ := hv
      have hLs : L < s.heap.objs.size := gs.F.ns.lt
      have hes : it + 1 < s.heap.objs.size := Heap.lt_size en
      have nLi : (L : Nat) ≠ it := by omega
      have nLe : (L : Nat) ≠ it + 1 := by omega
      have nie : (it : Nat) ≠ it + 1 := by omega
      have his : (it : Nat) < s.heap.objs.size := by omega
      have below : ∀ b : Nat, b < N → b ≠ it + 1 ∧ b ≠ it := fun b hb => ⟨by omega, by omega⟩
      have belowB : ∀ b : Nat, b < hb.objs.size → b ≠ L ∧ b ≠ it + 1 ∧ b ≠ it := fun b hb' => by
        have hab : hb.objs.size ≤ (L : Nat) := gs.F.above
        exact ⟨by omega, by omega, by omega⟩
      refine wpAny_letOwnedTupleGo_enum heo fun h2 he2 hs2 => ?_
      replace hs2 : Heap.SameBut (it + 1) h1 h2 := hs2
      have ht2 : h2.IsTuple s.heap.objs.size #[.int i tk1, .str ⟨#[c]⟩ u] := ⟨_, (hs2.2 _ (Nat.ne_of_gt hes)).trans hT1, rfl, _, rfl⟩
      have hz2 : h2.objs.size = s.heap.objs.size + 1 := hs2.1.trans hz1
      refine wpAny_assign_Tuple (by exact hh) ht2 rfl rfl fun h3 hx3 => ?_
      replace hx3 : Heap.ExtBut h2.objs.size h2 h3 := hx3
      have hn3 : h3.Ns L m := (gs.F.ns.at' fun o q => hx3 _ _ (by rw [hz2]; exact Nat.ne_of_lt (Nat.lt_succ_of_lt hLs)) (hs2.extBut _ _ nLe (hk1 _ _ nLe nLi q)))
      show wpAny _ _ (do holding [Value.str ⟨#[c]⟩ u] (assign (.Name _ _) (genEnv L) (.int i tk1)); do holding [] (assign (.Name _ _) (genEnv L) (.str ⟨#[c]⟩ u)); pure ()) _ _ _
      refine wpAny_bind (wpAny_holding (wpAny_assign_Name (wpAny_storeName_local rfl hn3 (fun h4 hn4 hs4 => ?_) rfl)))
      replace hs4 : Heap.SameBut L h3 h4 := hs4
      refine wpAny_bind (wpAny_holding (wpAny_assign_Name (wpAny_storeName_local rfl hn4 (fun h5 hn5 hs5 => wpAny_pure ?_) rfl)))
      replace hs5 : Heap.SameBut L h4 h5 := hs5
      intro kt ht hkt
      have up : ∀ b o, b ≠ L → b < s.heap.objs.size → h2.get? b = some o → h5.get? b = some o := fun b o hbL hb q =>
        hs5.extBut b o hbL (hs4.extBut b o hbL (hx3 b o (by rw [hz2]; exact Nat.ne_of_lt (Nat.lt_succ_of_lt hb)) q))
      have up0 : ∀ b o, b ≠ L → b ≠ it + 1 → b ≠ it → s.heap.get? b = some o → h5.get? b = some o := fun b o hbL h1' h2' q =>
        up b o hbL (Heap.lt_size q) (hs2.extBut b o h1' (hk1 b o h1' h2' q))
      have gs5 : GS hb L (it + 1) it x t (i + 1) (fun y => if y = Str.ofString "ch" then some (Value.str ⟨#[c]⟩ u) else if y = Str.ofString "pos" then some (Value.int i tk1) else m y) h5 := by
        refine ⟨⟨hn5, fun b o q => ?_, gs.F.above⟩, ⟨Value.str ⟨#[c]⟩ u, ?_⟩, ?_⟩
        · have hb1 := belowB b (Heap.lt_size q)
          exact up0 b o hb1.1 hb1.2.1 hb1.2.2 (gs.F.keep b o q)
        · exact up _ _ (Ne.symm nLe) hes he2
        · obtain ⟨o, ho, r⟩ := hst1
          exact ⟨o, up _ _ (Ne.symm nLi) his (hs2.extBut _ _ nie ho), r⟩
      have since5 : ∀ tk, Since N L s₀ { s with heap := h5, toks := tk } := fun tk => hsince.step fun b o hbN hbL q => up0 b o hbL (below b hbN).1 (below b hbN).2 q
      have notW : ∀ b, (b = L ∨ b = it + 1 ∨ b = it ∨ b < hb.objs.size) → b ∉ W := by
        rintro b (rfl | rfl | rfl | hb') hw
        · exact hLW hw
        · have := hWN _ hw; omega
        · have := hWN _ hw; omega
        · have := hW _ hw; omega
      have hdrop : x.cps.toList.drop i = c :: x.cps.toList.drop (i + 1) := by
        rw [List.drop_eq_getElem_cons (by rw [Array.length_toList]; exact hlt)]
        congr 1
        have := Array.getElem?_eq_some_iff.mp hc
        obtain ⟨_, hc⟩ := this
        simpa using hc
      clear hn3 hn4 hn5 hs2 hs4 hs5 hx3 ht2 hz2 up up0 hz1 hT1 heo hst1 hk1 he2 en
      rw [hdrop] at hpre ⊢
      have F5 := gs5.F
      have N5 := led_news hb L h5.objs.size h5
      have hkeep : ∀ h' m', Fr hb L h' m' → News hb L h' (led hb L h5.objs.size h5) → ∀ b o, b ≠ L → h5.get? b = some o → h'.get? b = some o := fun h' m' F' N' b o hbL q => led_keep gs5.F F' N' b o (Heap.lt_size q) hbL q
      refine seg_execs_cons (seg_If ?_)
      walk1
      refine ld F5 hE ?_
      walk1
      cases e with
      | true =>
        rw [if_pos rfl, escR_esc, List.length_cons]
        refine seg_execs_cons (seg_Expr_Yield rfl rfl rfl ?_)
        iterate 9 walk1
        rw [bs_append]
        refine wpAny_newTuple ?_
        intro kap hkap
        rw [hpre, escR_esc]
        refine ⟨⟨_, _, _, _, _, get_item _ _ _, rfl, ⟨_, Heap.get?_push_size _ rfl, rfl, _, rfl⟩⟩, ?_, ?_⟩
        · exact (since5 0).step (h' := h5.push _) fun b o _ _ q => Heap.get?_push_of_some _ q
        · intro s2 hs2
          refine hkap .none s2 ?_
          have gs2 : GS hb L (it + 1) it x t (i + 1) _ s2.heap := (gs5.keeps (fun b o _ q => Heap.get?_push_of_some _ q)).keeps fun b o hb' q => hs2 b o (notW b hb') q
          clear F5 N5 hkeep
          have F5 := gs2.F
          have N5 := led_news hb L s2.heap.objs.size s2.heap
          have hkeep : ∀ h' m', Fr hb L h' m' → News hb L h' (led hb L s2.heap.objs.size s2.heap) → ∀ b o, b ≠ L → s2.heap.get? b = some o → h'.get? b = some o := fun h' m' F' N' b o hbL q => led_keep gs2.F F' N' b o (Heap.lt_size q) hbL q
          refine seg_exec ?_
          iterate 3 walk1
          rename_i h6 F6 N6
          refine seg_turn hkt rfl (ih _ _ s2 _ (by omega) ⟨i + 1, _, false, i, tk1, pre ++ [(i, [92, c])], rfl, hlt, ⟨F6, ?_, ?_⟩, rfl, rfl, (fun h => by cases h), ?_, rfl, ?_⟩)
          · obtain ⟨old, q⟩ := gs2.en; exact ⟨old, hkeep _ _ F6 N6 _ _ (Ne.symm nLe) q⟩
          · obtain ⟨o, ho, r⟩ := gs2.st; exact ⟨o, hkeep _ _ F6 N6 _ _ (Ne.symm nLi) ho, r⟩
          · rw [hpre, escR_esc]; simp
          · exact (Since.refl N L s2).step (h' := h6) fun b o _ hbL q => hkeep _ _ F6 N6 b o hbL q
      | false =>
        rw [if_neg Bool.false_ne_true]
        refine seg_execs_cons (seg_If ?_)
        iterate 5 walk1
        rw [bs_is, sign_beq]
        by_cases h92 : c = 92
        · rw [if_pos (decide_eq_true h92)]
          subst h92
          rw [escR_bs] at hpre ⊢
          refine seg_exec ?_
          iterate 3 walk1
          rename_i h6 F6 N6
          refine seg_turn hkt rfl (ih _ _ s₀ _ (by omega) ⟨i + 1, _, true, i, tk1, pre, rfl, hlt, ⟨F6, ?_, ?_⟩, rfl, rfl, (fun _ => rfl), hpre, rfl, ?_⟩)
          · obtain ⟨old, q⟩ := gs5.en; exact ⟨old, hkeep _ _ F6 N6 _ _ (Ne.symm nLe) q⟩
          · obtain ⟨o, ho, r⟩ := gs5.st; exact ⟨o, hkeep _ _ F6 N6 _ _ (Ne.symm nLi) ho, r⟩
          · exact (since5 0).step (h' := h6) fun b o _ hbL q => hkeep _ _ F6 N6 b o hbL q
        · rw [if_neg (by simpa using h92)]
          rw [escR_one _ _ h92] at hpre ⊢
          rw [List.length_cons]
          refine seg_execs_cons (seg_Expr_Yield rfl rfl rfl ?_)
          iterate 6 walk1
          refine wpAny_newTuple ?_
          intro kap hkap
          rw [hpre]
          refine ⟨⟨_, _, _, _, _, get_item _ _ _, rfl, ⟨_, Heap.get?_push_size _ rfl, rfl, _, rfl⟩⟩, ?_, ?_⟩
          · exact (since5 0).step (h' := h5.push _) fun b o _ _ q => Heap.get?_push_of_some _ q
          · intro s2 hs2
            refine hkap .none s2 ?_
            have gs2 : GS hb L (it + 1) it x t (i + 1) _ s2.heap := (gs5.keeps (fun b o _ q => Heap.get?_push_of_some _ q)).keeps fun b o hb' q => hs2 b o (notW b hb') q
            refine seg_turn hkt rfl (ih _ _ s2 _ (by omega) ⟨i + 1, _, false, i, tk1, pre ++ [(i, [c])], rfl, hlt, gs2, hE, rfl, (fun h => by cases h), ?_, rfl, Since.refl N L s2⟩)
            rw [hpre]; simp
    · refine wpAny_pyNext_enum_endD (strD (by exact hh) it x t) en gs.st ?_
      intro h1 hx1
      dsimp only
      refine seg_block_nil ?_
      rw [hkb]
      have nLi : (L : Nat) ≠ it := by omega
      have F1 : Fr hb L h1 m := by
        refine ⟨gs.F.ns.at' fun o q => hx1 _ o nLi q, fun b o q => hx1 b o ?_ (gs.F.keep b o q), gs.F.above⟩
        have hab : hb.objs.size ≤ (L : Nat) := gs.F.above
        have belowB : ∀ b : Nat, b < hb.objs.size → b ≠ it := fun b hb' => by omega
        exact belowB b (Heap.lt_size q)
      have below : ∀ b : Nat, b < N → b ≠ it := fun b hb => by omega
      have since1 : ∀ tk, Since N L s₀ { s with heap := h1, toks := tk } := fun tk => hsince.step fun b o hbN hbL q => hx1 b o (below b hbN) q
      have hdrop : x.cps.toList.drop x.cps.size = [] := List.drop_of_length_le (by rw [Array.length_toList]; exact Nat.le_refl _)
      rw [hdrop] at hpre ⊢
      have N1 := led_news hb L h1.objs.size h1
      refine seg_execs_cons (seg_If ?_)
      walk1
      refine ld F1 hE ?_
      walk1
      cases e with
      | true =>
        rw [if_pos rfl]
        rw [escR_end] at hpre ⊢
        rw [List.length_singleton]
        refine seg_execs_cons (seg_Expr_Yield rfl rfl rfl ?_)
        walk1
        walk1
        refine ld F1 hP ?_
        iterate 3 walk1
        rw [bs_is, hpe rfl]
        refine wpAny_newTuple ?_
        intro kap hkap
        rw [hpre]
        refine ⟨⟨_, _, _, _, _, get_item pre [] _, rfl, ⟨_, Heap.get?_push_size _ rfl, rfl, _, rfl⟩⟩, ?_, ?_⟩
        · exact (since1 0).step (h' := h1.push _) fun b o _ _ q => Heap.get?_push_of_some _ q
        · intro s2 hs2
          exact hkap .none s2 (seg_end (.ok (.ret .none)) ⟨rfl, rfl, Since.refl N L s2⟩)
      | false =>
        rw [if_neg Bool.false_ne_true, escR_nil]
        exact seg_end (.ok (.ret .none)) ⟨rfl, rfl, since1 _⟩
  · refine ⟨0, _, false, 0, _, [], rfl, Nat.zero_le _, ⟨F2, ⟨_, he⟩, hit⟩, rfl, rfl, (fun h => by cases h), rfl, rfl, ?_⟩
    exact (Since.refl N L s).step (h' := h2) (tk := s.toks + 1 + 1 + 1) fun b o hbN hbL e => hk b o (hk1 b o hbN hbL e)
end Mine
end TGen2
section TGen3
open PySem PySem.W PyProof.Rows PySem.Spec
set_option maxRecDepth 100000
set_option maxHeartbeats 1000000
namespace Mine
set_option autoImplicit false

theorem refillG3 (w : World) : hd.heap_39 w.params = hd.heap_39 w.params ∧ PySem.Challenge.rw_pe0071_01.row.prog = PySem.Challenge.rw_pe0071_01.row.prog := by
  k_fill
  exact ⟨rfl, rfl⟩
/-- how the consumer's state moves while the generator runs -/
structure Moves (N L : Addr) (s s' : Shared) : Prop where
  keep : ∀ b o, b < N → b ≠ L → s.heap.get? b = some o → s'.heap.get? b = some o
  os : s'.os = s.os
  bare : AllBare s.gens → AllBare s'.gens
theorem Moves.trans {N L : Addr} {s s' s'' : Shared} (x : Moves N L s s') (y : Moves N L s' s'') : Moves N L s s'' := ⟨fun b o h1 h2 e => y.keep b o h1 h2 (x.keep b o h1 h2 e), y.os.trans x.os, fun h => y.bare (x.bare h)⟩

theorem bare_set {gens : Array GenState} {g : Nat} {gs : GenState} (h : AllBare gens) (hb : gs.bare = true) : AllBare (gens.setIfInBounds g gs) := by
  intro y hy
  rw [Array.mem_iff_getElem] at hy
  obtain ⟨i, hi, rfl⟩ := hy
  have hi' : i < gens.size := by simpa using hi
  rw [Array.getElem_setIfInBounds hi']
  split
  · exact hb
  · exact h _ (Array.getElem_mem _)

structure GenOK (w : World) (A : Around) (a g N L : Nat) (W : List Nat) (items : List (Nat × List Nat)) (j : Nat) (s : Shared) : Prop where
  isGen : s.heap.IsGen a g
  lim : s.heap.NoLimit
  goes : ∃ gs, s.gens[g]? = some gs ∧ ∀ s'' : Shared, (∀ b o, b ∉ W → s.heap.get? b = some o → s''.heap.get? b = some o) →
    gs.Goes (model P w) A.in1 (genEnd N L) (proto items N L W) (items.length - j) (.send .none) s''

/-- the consumer's own doings leave the generator as it is -/
theorem GenOK.frame {w : World} {A : Around} {a g N L : Nat} {W : List Nat} {items : List (Nat × List Nat)} {j : Nat} {s s' : Shared} (x : GenOK w A a g N L W items j s) (ha : a ∉ W) (hc : cStatics ∉ W)
    (hk : ∀ b o, b ∉ W → s.heap.get? b = some o → s'.heap.get? b = some o) (hg : s'.gens = s.gens) : GenOK w A a g N L W items j s' where
  isGen := let ⟨o, nm, qn, ho, r⟩ := x.isGen; ⟨o, nm, qn, hk _ _ ha ho, r⟩
  lim := let ⟨mc, hns, hnn⟩ := x.lim; ⟨mc, hns.at' fun o e => hk _ o hc e, hnn⟩
  goes := let ⟨gs, h1, h2⟩ := x.goes; ⟨gs, by rw [hg]; exact h1, fun s'' h => h2 s'' fun b o hb e => h b o hb (hk b o hb e)⟩

section
variable {w : World} {A : Around} {E : Value → Shared → Prop} {s : Shared}

theorem stop_wp {prog : Program} {Q : PySem.Fin → Shared → Prop} (k : Unit → Sem PySem.Fin) (hh : A.handled = none) (h : ∀ e h', (∀ b o, s.heap.get? b = some o → h'.get? b = some o) → (∃ o, h'.get? e = some o ∧ o.cls = .type "StopIteration") → E (.ref e) { s with heap := h' }) :
    wpAny (model prog w) A.in1 (newExc (.type "StopIteration") [] >>= fun x => raiseNew x >>= k) Q E s := by
  have raise : ∀ s' : Shared, ∀ e, E (.ref e) s' → wpAny (model prog w) A.in1 (raiseNew (.ref e) >>= k) Q E s' := by
    intro s' e he
    unfold raiseNew
    refine wpAny_bind (wpAny_bind (wpAny_handled ?_))
    rw [show A.in1.handled = none from hh]
    exact wpAny_throw he
  refine wpAny_bind ?_
  unfold newExc newTuple
  refine wpAny_bind (wpAny_newObj_type ?_ (by size_fits))
  refine wpAny_bind (wpAny_of_eq (a := Value.none) (by first | rfl | (simp only [firstArgMember]; rfl)) ?_)
  exact wpAny_newObj_type (raise _ _ (h _ _ (fun b o q => Heap.get?_push_of_some _ (Heap.get?_push_of_some _ q)) ⟨_, Heap.get?_push_size _ rfl, rfl⟩)) (by size_fits)

/-- a generator of a def is woken: it hands out a value and stands bare, or it comes to its end -/
theorem wake_wp {prog : Program} {a : Addr} {g n : Nat} {gs : GenState} {P' : Nat → Shared → Shared → Prop} {Y : Protocol} {Q : PySem.Fin → Shared → Prop} (hh : A.handled = none) (hl : s.heap.NoLimit) (hroom : A.depth < recursionLimit)
    (hg : s.heap.IsGen a g) (hgs : s.gens[g]? = some gs) (hgo : gs.Goes (model prog w) A.in1 (fun n s₀ r s₁ => r = .ok (.ret .none) ∧ P' n s₀ s₁) Y n (.send .none) (s.setGen g .running))
    (hout : ∀ v s₁ gs', gs'.bare = true → Y (n - 1) (s.setGen g .running) v s₁ (fun r' s'' => match n with
      | 0 => False
      | m + 1 => gs'.Goes (model prog w) A.in1 (fun n s₀ r s₁ => r = .ok (.ret .none) ∧ P' n s₀ s₁) Y m r' s'') → Q (.done (.ret v)) (s₁.setGen g gs'))
    (hend : ∀ s₁ e h', P' n (s.setGen g .running) s₁ → (∀ b o, s₁.heap.get? b = some o → h'.get? b = some o) → (∃ o, h'.get? e = some o ∧ o.cls = .type "StopIteration") → E (.ref e) { s₁.setGen g .finished with heap := h' }) :
    wpAny (model prog w) A.in1 (Builtin.Generator.genWake (.ref a) (.send .none)) Q E s := by
  unfold Builtin.Generator.genWake
  refine wpAny_bind (wpAny_holding (wpAny_genNumber hg (wpAny_bind (wpAny_genState hgs ?_))))
  obtain _ | _ | _ | _ := gs
  all_goals first | exact hgo.elim | skip
  all_goals
    refine wpAny_bind (wpAny_roomToWake hl hroom ?_)
    refine wpAny_resumeQ hgs hgo (fun x s₁ hx => ?_) (fun v s₁ gs' hb hv => wpAny_pure (hout v s₁ gs' hb hv))
    rw [hx.1]
    exact stop_wp _ hh fun e h' hk he => hend s₁ e h' hx.2 hk he

theorem pyNext_gen {prog : Program} {a : Addr} {g n : Nat} {gs : GenState} {P' : Nat → Shared → Shared → Prop} {Y : Protocol} {Q : Option Value → Shared → Prop} (hh : A.handled = none) (hl : s.heap.NoLimit) (hroom : A.depth < recursionLimit)
    (hg : s.heap.IsGen a g) (hgs : s.gens[g]? = some gs) (hgo : gs.Goes (model prog w) A.in1 (fun n s₀ r s₁ => r = .ok (.ret .none) ∧ P' n s₀ s₁) Y n (.send .none) (s.setGen g .running))
    (hY : ∀ v s₁ gs', gs'.bare = true → Y (n - 1) (s.setGen g .running) v s₁ (fun r' s'' => match n with
      | 0 => False
      | m + 1 => gs'.Goes (model prog w) A.in1 (fun n s₀ r s₁ => r = .ok (.ret .none) ∧ P' n s₀ s₁) Y m r' s'') → Q (some v) (s₁.setGen g gs'))
    (hP : ∀ s₁, P' n (s.setGen g .running) s₁ → ∀ h', (∀ b o, s₁.heap.get? b = some o → h'.get? b = some o) → Q none { s₁.setGen g .finished with heap := h' }) :
    wpAny (model prog w) A (pyNext (.ref a)) Q E s :=
  have stop : ∀ s' e, (∃ o, s'.heap.get? e = some o ∧ o.cls = .type "StopIteration") → Q none s' → wpAny (model prog w) A (isInstance (.ref e) (.type "StopIteration") >>= fun b => if b = true then pure none else throw (.ref e)) Q E s' :=
    fun s' e he hq => wpAny_bind (wpAny_isInstance (T := "StopIteration") (b := true) he isSubtype_stop (wpAny_pure hq))
  wpAny_bind (wpAny_attempt (wpAny_callSpecial?_slot (name := Str.ofString "__next__") hg.typeIs slot_gen_next (wpAny_call_entry slot_gen_next hg.typeIs entry_gen_next
    (wake_wp hh hl hroom hg hgs hgo (fun v s₁ gs' hb hv => ⟨v, rfl, wpAny_pure (hY v s₁ gs' hb hv)⟩) fun s₁ e h' hp hk he => stop _ e he (hP s₁ hp h' hk)) (args_gen_next _))))

theorem gen_next {a g N L : Nat} {W : List Nat} {items : List (Nat × List Nat)} {j : Nat} {Q : Option Value → Shared → Prop} (hh : A.handled = none) (hroom : A.depth < recursionLimit) (x : GenOK w A a g N L W items j s) (hj : j < items.length)
    (haN : a < N) (haL : a ≠ L) (hcL : cStatics < N) (hcL' : cStatics ≠ L)
    (h : ∀ T p cs tp tc s', items[j]? = some (p, cs) → s'.heap.IsTuple T #[.int (p : Nat) tp, .str ⟨cs.toArray⟩ tc] → GenOK w A a g N L W items (j + 1) s' → Moves N L s s' → Q (some (.ref T)) s') :
    wpAny (model P w) A (pyNext (.ref a)) Q E s := by
  obtain ⟨hg, hl, gs, hgs, hgo⟩ := x
  obtain ⟨n, hn⟩ : ∃ n, items.length - j = n + 1 := ⟨items.length - j - 1, by omega⟩
  rw [hn] at hgo
  refine pyNext_gen (P' := fun n s₀ s₁ => n = 0 ∧ Since N L s₀ s₁) hh hl hroom hg hgs (hgo _ fun _ _ _ e => e) (fun v s₁ gs' hb hv => ?_) (fun s₁ hp => absurd hp.1 (Nat.succ_ne_zero n))
  obtain ⟨⟨T, p, cs, tp, tc, hi, rfl, hT⟩, ⟨h₁, tk₁, rfl, hk₁⟩, hkap⟩ := hv
  have hidx : items.length - 1 - (n + 1 - 1) = j := by omega
  rw [hidx] at hi
  refine h T p cs tp tc _ hi hT ⟨?_, ?_, gs', setGen_self (gs := .running) (setGen_self hgs), fun s'' hal => ?_⟩ ⟨?_, rfl, ?_⟩
  · obtain ⟨o, nm, qn, ho, r⟩ := hg; exact ⟨o, nm, qn, hk₁ a o haN haL ho, r⟩
  · obtain ⟨mc, hns, hnn⟩ := hl; exact ⟨mc, hns.at' fun o e => hk₁ cStatics o hcL hcL' e, hnn⟩
  · have e : items.length - (j + 1) = n := by omega
    rw [e]
    exact hkap s'' hal
  · exact fun b o hb hbl e => hk₁ b o hb hbl e
  · intro hbare
    exact bare_set (bare_set hbare rfl) hb
theorem gen_done {a g N L : Nat} {W : List Nat} {items : List (Nat × List Nat)} {Q : Option Value → Shared → Prop} (hh : A.handled = none) (hroom : A.depth < recursionLimit) (x : GenOK w A a g N L W items items.length s)
    (h : ∀ s', Moves N L s s' → Q none s') : wpAny (model P w) A (pyNext (.ref a)) Q E s := by
  obtain ⟨hg, hl, gs, hgs, hgo⟩ := x
  rw [Nat.sub_self] at hgo
  refine pyNext_gen (P' := fun n s₀ s₁ => n = 0 ∧ Since N L s₀ s₁) hh hl hroom hg hgs (hgo _ fun _ _ _ e => e) (fun v s₁ gs' hb hv => ?_) (fun s₁ hp h' hk => ?_)
  · obtain ⟨_, _, hkap⟩ := hv
    exact False.elim (hkap s₁ fun _ _ _ e => e)
  · obtain ⟨_, h₁, tk₁, rfl, hk₁⟩ := hp
    exact h _ ⟨fun b o hb hbl e => hk b o (hk₁ b o hb hbl e), rfl, fun hbare => bare_set (bare_set hbare rfl) rfl⟩

theorem bare_push {gens : Array GenState} {c : Code} (h : AllBare gens) : AllBare (gens.push (.fresh c)) := h.push rfl

theorem gen_call {hb : Heap} {mg mb : Str → Option Value} (G : Gd w mg mb hb) (hk : ∀ b o, hb.get? b = some o → s.heap.get? b = some o) {W : List Nat} (hW : ∀ b ∈ W, hb.objs.size ≤ b ∧ b < s.heap.objs.size) {x : Str} {t : Tok} (B : Around) (hB : B.handled = none)
    (hroom : A.depth < recursionLimit) (hle : hb.objs.size ≤ s.heap.objs.size) {Q : Value → Shared → Prop}
    (h : ∀ (a g N L : Nat) s', GenOK w B a g N L W (esc 0 x.cps.toList) 0 s' → s.heap.objs.size ≤ L → a = L + 1 → N = L + 2 → (∀ b o, s.heap.get? b = some o → s'.heap.get? b = some o) → s'.os = s.os → (AllBare s.gens → AllBare s'.gens) → Q (.ref a) s') :
    wpAny (model P w) A (call (.ref 38) [.str x t]) Q E s := by
  have G' := G.keeps hk
  refine wpAny_call (codeAny_call_generator hroom (G'.X 38 _ rfl) rfl rfl rfl rfl (codeRec_of G'.X (by k_is)) ?_)
  refine wpAny_of_eq (a := [(Str.ofString "addr", Value.str x t)]) rfl ?_
  refine wpAny_newFunctionEnv (by decide) (locs rfl) (fun h' hns hsb => ⟨G'.T.nolimit.fresh _ hsb, ?_⟩)
  have hsz : h'.objs.size = s.heap.objs.size + 1 := by rw [hsb.1, Heap.size_push]
  have keep' : ∀ b o, s.heap.get? b = some o → h'.get? b = some o := fun b o e => hsb.extBut b o (Nat.ne_of_lt (Heap.lt_size e)) (Heap.get?_push_of_some _ e)
  have hLW : s.heap.objs.size ∉ W := fun q => Nat.lt_irrefl _ (hW _ q).2
  have haW : h'.objs.size ∉ W := fun q => by have := (hW _ q).2; omega
  have key : ∀ (a : Nat), a = h'.objs.size → a = s.heap.objs.size + 1 := fun a e => e.trans hsz
  refine h h'.objs.size s.gens.size (s.heap.objs.size + 2) s.heap.objs.size _ ⟨⟨_, _, _, Heap.get?_push_size _ rfl, rfl, rfl, rfl⟩, ?_, .fresh (.func genFd.1 (genEnv s.heap.objs.size)), ?_, fun s'' hal => ⟨rfl, ?_⟩⟩ (Nat.le_refl _) hsz rfl (fun b o e => Heap.get?_push_of_some _ (keep' b o e)) rfl (fun hbare => bare_push hbare)
  · exact (G'.T.nolimit.fresh _ hsb).keeps fun b o e => Heap.get?_push_of_some _ e
  · exact Array.getElem?_push_size ..
  · have hLs : (s.heap.objs.size : Nat) < h'.objs.size := by omega
    refine gen_seg (hb := hb) (t := t) G (by exact hB) (fun b hb' => (hW b hb').1) hLW (fun b hb' => by have := (hW b hb').2; omega) ⟨?_, ?_, hle⟩ ?_ (by omega)
    · exact (hns.at' fun o e => hal _ o hLW (Heap.get?_push_of_some _ e))
    · intro b o e
      have hb' : b ∉ W := fun q => absurd (Heap.lt_size e) (Nat.not_lt.mpr (hW b q).1)
      exact hal b o hb' (Heap.get?_push_of_some _ (keep' b o (hk b o e)))
    · have e1 : (s.heap.objs.size + 2 - 1 : Nat) = h'.objs.size := by omega
      rw [e1]
      exact ⟨_, hal _ _ haW (Heap.get?_push_size _ rfl)⟩
end
end Mine
end TGen3
section TLoops
namespace Mine
set_option autoImplicit false
open PySem PySem.W PyProof.Rows PySem.Spec

section
variable {prog : Program} {w : World} {A : Around} {E : Value → Shared → Prop} {s : Shared}
theorem loop_wp {target : Expr} {it : Value} {body : List Stmt} {env : Env} {Q : Flow → Shared → Prop} (I : Nat → Shared → Prop)
    (turn : ∀ n s, I n s → wpAny (model prog w) A (pyNext it) (fun r s₁ => match r with
      | none => Q .next s₁
      | some v => wpAny (model prog w) A (letOwnedTupleGo target it v) (fun _ s₁' =>
          wpAny (model prog w) A (assign target env v) (fun _ s₂ => wpAny (model prog w) A (execs body env) (fun f s₃ => match f with
            | .next | .cont => ∃ m, m < n ∧ I m s₃
            | .brk => Q .next s₃
            | .ret v => Q (.ret v) s₃) (fun _ _ => False) s₂) (fun _ _ => False) s₁') (fun _ _ => False) s₁) (fun _ _ => False) s)
    (n : Nat) (h : I n s) : codeAny (model prog w) A (.forLoop target it body [] env) (fun r s' => match r with | .ok f => Q f s' | .error e => cameBackBy (model prog w) A env E e s') s := by
  refine codeAny_forLoop_any I (fun n s hI => wpAny_mono (turn n s hI) (fun r s₁ h₁ => ?_) fun _ _ x => x.elim) n h
  cases r with
  | none => exact wpAny_execs_nil h₁
  | some v =>
    refine wpAny_mono h₁ (fun _ s₂ h₂ => wpAny_mono h₂ (fun _ s₃ h₃ => wpAny_mono h₃ (fun f s₄ h₄ => ?_) fun _ _ x => x.elim) fun _ _ x => x.elim) fun _ _ x => x.elim
    cases f <;> exact h₄
theorem while_wp {test : Expr} {body : List Stmt} {env : Env} {pos : Pos} {Q : Flow → Shared → Prop} (I : Nat → Shared → Prop)
    (turn : ∀ n s, I n s → wpAny (model prog w) A (isTrue test env (eval test env)) (fun b s₂ =>
        if b = true then wpAny (model prog w) A (execs body env) (fun f s₃ => match f with
            | .next | .cont => ∃ m, m < n ∧ I m s₃
            | .brk => Q .next s₃
            | .ret v => Q (.ret v) s₃) (fun _ _ => False) s₂
        else Q .next s₂) (fun _ _ => False) s)
    (n : Nat) (h : I n s) : wpAny (model prog w) A (exec (.While test body [] pos) env) Q E s := by
  refine wpAny_While (codeAny_whileLoop I (fun n s hI => wpAny_mono (turn n s hI) (fun b s₂ h₂ => ?_) fun _ _ x => x.elim) n h)
  cases b with
  | false => exact wpAny_execs_nil h₂
  | true =>
    refine wpAny_mono h₂ (fun f s₄ h₄ => ?_) fun _ _ x => x.elim
    cases f <;> exact h₄

theorem letOwned_gen {elts : List Expr} {k : Nat} {pos : Pos} {a : Addr} {g : Nat} {v : Value} {Q : Unit → Shared → Prop} (hg : s.heap.IsGen a g) (h : Q () s) : wpAny (model prog w) A (letOwnedTupleGo (.Tuple elts k pos) (.ref a) v) Q E s := by
  obtain ⟨o, nm, qn, ho, hc, hd, _⟩ := hg
  unfold letOwnedTupleGo
  cases v with
  | ref b =>
    refine wpAny_bind (wpAny_load ho ?_)
    rw [hc, hd]
    show wpAny _ _ (if (["enumerate", "zip", "dict_itemiterator", "dict_reverseitemiterator", "odict_iterator", "itertools.zip_longest", "itertools.pairwise"].contains "generator" && _) = true then _ else _) _ _ _
    rw [if_neg (by rw [show ["enumerate", "zip", "dict_itemiterator", "dict_reverseitemiterator", "odict_iterator", "itertools.zip_longest", "itertools.pairwise"].contains "generator" = false by decide]; simp)]
    exact wpAny_pure h
  | _ => exact wpAny_pure h

theorem assign_pair {hb : Heap} {L : Addr} {m : Str → Option Value} {cn : Str} {cs : Scope} {fa : Addr} {cd : Value} {x1 x2 : Str} {p1 p2 pos : Pos} {k : Nat} {T : Addr} {v1 v2 : Value} {Q : Unit → Shared → Prop}
    (hh : A.handled = none) (F : Fr hb L s.heap m) (hT : s.heap.IsTuple T #[v1, v2]) (h1 : (envOf cn cs L fa cd).kindOf x1 = some .local) (h2 : (envOf cn cs L fa cd).kindOf x2 = some .local) (hk : cs.kind = .function)
    (h : ∀ h' tk, Fr hb L h' (fun y => if y = x2 then some v2 else if y = x1 then some v1 else m y) → (∀ b o, b ≠ L → s.heap.get? b = some o → h'.get? b = some o) → Q () { s with heap := h', toks := tk }) :
    wpAny (model prog w) A (assign (.Tuple [.Name x1 p1, .Name x2 p2] k pos) (envOf cn cs L fa cd) (.ref T)) Q E s := by
  refine wpAny_assign_Tuple hh hT rfl rfl fun h3 hx3 => ?_
  replace hx3 : Heap.ExtBut s.heap.objs.size s.heap h3 := hx3
  have old : ∀ b o, s.heap.get? b = some o → h3.get? b = some o := fun b o e => hx3 b o (Nat.ne_of_lt (Heap.lt_size e)) e
  have hn3 : h3.Ns L m := F.ns.keeps old
  show wpAny _ _ (do holding [v2] (assign (.Name x1 p1) (envOf cn cs L fa cd) v1); do holding [] (assign (.Name x2 p2) (envOf cn cs L fa cd) v2); pure ()) _ _ _
  have hp : (cs.kind == .class || (cs.kind == .module && L != mainGlobals)) = false := by rw [hk]; rfl
  refine wpAny_bind (wpAny_holding (wpAny_assign_Name (wpAny_storeName_local h1 hn3 (fun h4 hn4 hs4 => ?_) hp)))
  replace hs4 : Heap.SameBut L h3 h4 := hs4
  refine wpAny_bind (wpAny_holding (wpAny_assign_Name (wpAny_storeName_local h2 hn4 (fun h5 hn5 hs5 => wpAny_pure ?_) hp)))
  replace hs5 : Heap.SameBut L h4 h5 := hs5
  have hkeep : ∀ b o, b ≠ L → s.heap.get? b = some o → h5.get? b = some o := fun b o hb e => hs5.extBut b o hb (hs4.extBut b o hb (old b o e))
  refine h h5 _ ⟨hn5, fun b o e => hkeep b o ?_ (F.keep b o e), F.above⟩ hkeep
  exact Nat.ne_of_lt (Nat.lt_of_lt_of_le (Heap.lt_size e) F.above)
end
end Mine
end TLoops
section TStrip1
namespace Mine
set_option autoImplicit false
/-- what the reader still lays out -/
def runS (l : List Nat) (start : Nat) (op : Option Nat) : List (Nat × List Nat) → List Nat
  | [] => l.drop start
  | (p, cs) :: r => match op with
    | none => if cs = [34] then runS l start (some p) r else runS l start none r
    | some o => if cs = [34] then (l.drop start).take (o - start) ++ runS l (p + 1) none r else runS l start (some o) r
theorem esc_esc (k d : Nat) (r : List Nat) : esc k (92 :: d :: r) = (k + 1, [92, d]) :: esc (k + 2) r := by simp [esc]
theorem esc_one (k : Nat) {c : Nat} (r : List Nat) (h : c ≠ 92) : esc k (c :: r) = (k, [c]) :: esc (k + 1) r := by rw [esc.eq_def]; simp [h]
theorem take_more {l pre suf : List Nat} {start n : Nat} (x : List Nat) (h : l = pre ++ (x ++ suf)) (hn : n = pre.length) (hs : start ≤ n) : (l.drop start).take (n + x.length - start) = (l.drop start).take (n - start) ++ x := by
  subst hn h
  rw [List.drop_append_of_le_length hs]
  have h1 : (pre.drop start).length = pre.length - start := List.length_drop
  rw [List.take_left' h1, ← List.append_assoc, List.take_left' (by rw [List.length_append, h1]; omega)]
theorem drop_split {l pre suf : List Nat} {start n : Nat} (h : l = pre ++ suf) (hn : n = pre.length) (hs : start ≤ n) : l.drop start = (l.drop start).take (n - start) ++ suf := by
  subst hn h
  rw [List.drop_append_of_le_length hs]
  have h1 : (pre.drop start).length = pre.length - start := List.length_drop
  rw [List.take_left' h1]
theorem runS_strip (l : List Nat) (suf : List Nat) : ∀ (pre : List Nat) (k start : Nat), l = pre ++ suf → k = pre.length → start ≤ k →
    runS l start none (esc k suf) = (l.drop start).take (k - start) ++ stripS false suf ∧
    ∀ o, start ≤ o → o < k → runS l start (some o) (esc k suf) = if hasMark suf then (l.drop start).take (o - start) ++ stripS true suf else l.drop start := by
  induction suf using text_ind with
  | nil =>
    intro pre k start hl hk hs
    refine ⟨?_, fun o _ _ => rfl⟩
    show l.drop start = _
    simp only [stripS, List.append_nil]
    have := drop_split hl hk hs
    rw [List.append_nil] at this
    exact this
  | lone =>
    intro pre k start hl hk hs
    refine ⟨?_, fun o _ _ => ?_⟩
    · have e : runS l start none (esc k [92]) = l.drop start := by simp [esc, runS]
      rw [e]
      have := drop_split hl hk hs
      simpa [stripS] using this
    · simp [esc, runS]
  | esc d r ih =>
    intro pre k start hl hk hs
    have h2 := ih (pre ++ [92, d]) (k + 2) start (by rw [hl]; simp) (by simp [hk]) (by omega)
    refine ⟨?_, fun o h1 h3 => ?_⟩
    · rw [esc_esc, runS]
      rw [if_neg (by simp), h2.1, stripS_esc]
      have e := take_more (l := l) (pre := pre) (suf := r) (start := start) (n := k) [92, d] hl hk hs
      rw [show k + 2 - start = k + [92, d].length - start by rfl, e]
      simp
    · rw [esc_esc, runS]
      rw [if_neg (by simp), h2.2 o h1 (by omega), hasMark_esc, stripS_esc]
      simp
  | one c r hc ih =>
    intro pre k start hl hk hs
    have hl' : l = (pre ++ [c]) ++ r := by rw [hl]; simp
    have hk' : k + 1 = (pre ++ [c]).length := by simp [hk]
    have h2 := ih (pre ++ [c]) (k + 1) start hl' hk' (by omega)
    by_cases h34 : c = 34
    · subst h34
      refine ⟨?_, fun o h1 h3 => ?_⟩
      · rw [esc_one k r hc, runS]
        rw [if_pos rfl, h2.2 k hs (by omega), stripS_mark]
        simp only [Bool.false_eq_true, if_false]
        cases hm : hasMark r with
        | true => simp
        | false =>
          simp only [Bool.false_eq_true, if_false]
          rw [strip_noMark hm]
          exact drop_split hl hk hs
      · rw [esc_one k r hc, runS]
        rw [if_pos rfl, hasMark_one r hc]
        simp only [if_true]
        rw [stripS_mark]
        simp only [if_true]
        have h4 := (ih (pre ++ [34]) (k + 1) (k + 1) hl' hk' (Nat.le_refl _)).1
        rw [h4, Nat.sub_self, List.take_zero, List.nil_append]
    · have hne : ¬ [c] = [34] := by simpa using h34
      refine ⟨?_, fun o h1 h3 => ?_⟩
      · rw [esc_one k r hc, runS]
        rw [if_neg hne, h2.1, stripS_one _ _ hc h34]
        have e := take_more (l := l) (pre := pre) (suf := r) (start := start) (n := k) [c] hl hk hs
        rw [show k + 1 - start = k + [c].length - start by rfl, e]
        simp
      · rw [esc_one k r hc, runS]
        rw [if_neg hne, h2.2 o h1 (by omega), hasMark_plain c r hc h34, stripS_one _ _ hc h34]
        simp
theorem runS_all (l : List Nat) : runS l 0 none (esc 0 l) = stripS false l := by
  have := (runS_strip l l [] 0 0 rfl rfl (Nat.le_refl _)).1
  simpa using this
theorem noMark_of {l : List Nat} (h : 34 ∉ l) : hasMark l = false := by
  induction l using text_ind with
  | nil => rfl
  | lone => rfl
  | esc d r ih => rw [hasMark_esc]; exact ih fun q => h (by simp [q])
  | one c r hc ih =>
    have : c ≠ 34 := fun q => h (by simp [q])
    rw [hasMark_plain c r hc this]; exact ih fun q => h (by simp [q])
end Mine
end TStrip1
section TStrip2
open PySem PySem.W PyProof.Rows PySem.Spec PySem.StrLaws
set_option maxRecDepth 100000
set_option maxHeartbeats 1000000
namespace Mine
set_option autoImplicit false
theorem refillS (w : World) : hd.heap_39 w.params = hd.heap_39 w.params ∧ PySem.Challenge.rw_pe0071_01.row.prog = PySem.Challenge.rw_pe0071_01.row.prog := by
  k_fill
  exact ⟨rfl, rfl⟩

/-- the ledger without one object -/
def ledX (hb : Heap) (L lr N : Nat) (h : Heap) : List (Addr × Obj) := (led hb L N h).filter fun p => decide (p.1 ≠ lr)
theorem ledX_news {hb h : Heap} {L lr N : Nat} {o : Obj} (h1 : h.get? lr = some o) (h2 : lr ≠ L) (h3 : hb.get? lr = none) : News hb L h ((lr, o) :: ledX hb L lr N h) := by
  intro p hp
  rcases List.mem_cons.mp hp with rfl | hp
  · exact ⟨h1, h2, h3⟩
  · exact led_news hb L N h p (List.mem_filter.mp hp).1
theorem ledX_ne {hb h : Heap} {L lr N : Nat} : ∀ p ∈ ledX hb L lr N h, p.1 ≠ lr := fun p hp => by
  have := (List.mem_filter.mp hp).2
  exact of_decide_eq_true this
theorem ledX_keep {hb h h' : Heap} {L lr N : Nat} {m m' : Str → Option Value} {o' : Obj} (F : Fr hb L h m) (F' : Fr hb L h' m') (N' : News hb L h' ((lr, o') :: ledX hb L lr N h)) : ∀ b o, b < N → b ≠ L → b ≠ lr → h.get? b = some o → h'.get? b = some o := by
  intro b o hb' hl hr e
  cases hq : hb.get? b with
  | none => exact (N' (b, o) (.tail _ (List.mem_filter.mpr ⟨led_mem.mpr ⟨hb', hl, hq, e⟩, decide_eq_true hr⟩))).1
  | some o' =>
    have hq' := F.keep b o' hq
    rw [e] at hq'
    injection hq' with hq'
    rw [hq']
    exact F'.keep b o' hq
theorem gen_callA {w : World} {A : Around} {E : Value → Shared → Prop} {s : Shared} {hb : Heap} {mg mb : Str → Option Value} (G : Gd w mg mb hb) (hk : ∀ b o, hb.get? b = some o → s.heap.get? b = some o) (W : List Nat) (hW : ∀ b ∈ W, hb.objs.size ≤ b ∧ b < s.heap.objs.size) {x : Str} {t : Tok} (hB : A.handled = none)
    (hroom : A.depth < recursionLimit) (hle : hb.objs.size ≤ s.heap.objs.size) {Q : Value → Shared → Prop}
    (h : ∀ (a g N L : Nat) s', GenOK w A a g N L W (esc 0 x.cps.toList) 0 s' → s.heap.objs.size ≤ L → a = L + 1 → N = L + 2 → (∀ b o, s.heap.get? b = some o → s'.heap.get? b = some o) → s'.os = s.os → (AllBare s.gens → AllBare s'.gens) → Q (.ref a) s') :
    wpAny (model P w) A (call (.ref 38) [.str x t]) Q E s := gen_call G hk hW A hB hroom hle h
theorem esc_bound (l : List Nat) : ∀ k, (∀ q ∈ esc k l, k ≤ q.1 ∧ q.1 < k + l.length) ∧ (esc k l).Pairwise (fun a b => a.1 < b.1) := by
  induction l using text_ind with
  | nil => intro k; simp [esc]
  | lone => intro k; simp [esc]
  | esc d r ih =>
    intro k
    obtain ⟨h1, h2⟩ := ih (k + 2)
    rw [esc_esc]
    refine ⟨?_, List.Pairwise.cons ?_ h2⟩
    · intro q hq
      rcases List.mem_cons.mp hq with rfl | hq
      · simp
      · have := h1 q hq; simp; omega
    · intro q hq
      have := h1 q hq; simp; omega
  | one c r hc ih =>
    intro k
    obtain ⟨h1, h2⟩ := ih (k + 1)
    rw [esc_one k r hc]
    refine ⟨?_, List.Pairwise.cons ?_ h2⟩
    · intro q hq
      rcases List.mem_cons.mp hq with rfl | hq
      · simp
      · have := h1 q hq; simp; omega
    · intro q hq
      have := h1 q hq; simp; omega
theorem esc_len (l : List Nat) : ∀ k, (esc k l).length ≤ l.length := by
  induction l using text_ind with
  | nil => intro k; simp [esc]
  | lone => intro k; simp [esc]
  | esc d r ih => intro k; rw [esc_esc]; have := ih (k + 2); simp; omega
  | one c r hc ih => intro k; rw [esc_one k r hc]; have := ih (k + 1); simp; omega
theorem slice_nat {x : Str} {i j : Nat} (h1 : i ≤ j) (h2 : j ≤ x.cps.size) : Txt.slice x (some (i : Int)) (some (j : Int)) = ⟨((x.cps.toList.drop i).take (j - i)).toArray⟩ := by
  have hl : x.cps.toList.length = x.cps.size := Array.length_toList
  have := beq_iff_eq.mp (slice_closes (x := x) (i := (i : Int)) (j := (j : Int)) ⟨by omega, by omega, by omega⟩)
  rw [this]
  have e1 : (i : Int).toNat = i := by omega
  have e2 : ((j : Int) - (i : Int)).toNat = j - i := by omega
  rw [e1, e2]
theorem slice_from_nat {x : Str} {i : Nat} (h1 : i ≤ x.cps.size) : Txt.slice x (some (i : Int)) none = ⟨(x.cps.toList.drop i).toArray⟩ := by
  have hl : x.cps.toList.length = x.cps.size := Array.length_toList
  have := beq_iff_eq.mp (slice_closes_from (x := x) (i := (i : Int)) ⟨by omega, by omega⟩)
  rw [this]
  have e1 : (i : Int).toNat = i := by omega
  rw [e1, List.take_of_length_le (by rw [List.length_drop]; omega)]
/-- the places that the reader holds lie in order -/
structure Bd (n : Nat) (st : Nat) (op : Option Nat) (its : List (Nat × List Nat)) : Prop where
  le : st ≤ n
  ahead : ∀ q ∈ its, st ≤ q.1 ∧ q.1 < n
  op : ∀ o, op = some o → st ≤ o ∧ o ≤ n
  sorted : its.Pairwise (fun a b => a.1 < b.1)
def opV (op : Option (Nat × Tok)) : Value := match op with | none => .none | some (o, t) => .int (o : Nat) t
/-- the reader's loop -/
structure SI (w : World) (A : Around) (sb : Shared) (lr a g N LG : Nat) (x : Str) (t : Tok) (j : Nat) (s : Shared) : Prop where
  le : j ≤ (esc 0 x.cps.toList).length
  gen : GenOK w A a g N LG [sb.heap.objs.size, lr] (esc 0 x.cps.toList) j s
  os : s.os = sb.os
  bare : AllBare sb.gens → AllBare s.gens
  rest : ∃ m, Fr sb.heap sb.heap.objs.size s.heap m ∧ m (Str.ofString "addr") = some (.str x t) ∧ m (Str.ofString "result") = some (.ref lr) ∧
    ∃ (st : Nat) (tst : Tok) (op : Option (Nat × Tok)) (ps : List (List Nat × Tok)) (n : Nat), m (Str.ofString "start") = some (.int (st : Nat) tst) ∧ m (Str.ofString "open_pos") = some (opV op) ∧
      s.heap.get? lr = some (W.listOf (partsV 0 ps).toArray n) ∧ ps.length ≤ j ∧ Bd x.cps.size st (op.map (·.1)) ((esc 0 x.cps.toList).drop j) ∧ partsL ps ++ runS x.cps.toList st (op.map (·.1)) ((esc 0 x.cps.toList).drop j) = stripS false x.cps.toList

theorem loop_wpA {prog : Program} {w : World} {A : Around} {E : Value → Shared → Prop} {s : Shared} {target : Expr} {it : Value} {body : List Stmt} {env : Env} {Q : Flow → Shared → Prop} (I : Around → Nat → Shared → Prop)
    (turn : ∀ n s, I A n s → wpAny (model prog w) A (pyNext it) (fun r s₁ => match r with
      | none => Q .next s₁
      | some v => wpAny (model prog w) A (letOwnedTupleGo target it v) (fun _ s₁' =>
          wpAny (model prog w) A (assign target env v) (fun _ s₂ => wpAny (model prog w) A (execs body env) (fun f s₃ => match f with
            | .next | .cont => ∃ m, m < n ∧ I A m s₃
            | .brk => Q .next s₃
            | .ret v => Q (.ret v) s₃) (fun _ _ => False) s₂) (fun _ _ => False) s₁') (fun _ _ => False) s₁) (fun _ _ => False) s)
    (n : Nat) (h : I A n s) : codeAny (model prog w) A (.forLoop target it body [] env) (fun r s' => match r with | .ok f => Q f s' | .error e => cameBackBy (model prog w) A env E e s') s := loop_wp (I A) turn n h

theorem canon {m : Str → Option Value} {a : Str} {v : Value} (h : m a = some v) : (fun y => if y = a then some v else m y) = m := by
  funext y
  split
  · rename_i e; rw [e, h]
  · rfl
theorem Fr.put {hb h : Heap} {L : Addr} {m : Str → Option Value} (F : Fr hb L h m) {a : Str} {v : Value} (e : m a = some v) : Fr hb L h (fun y => if y = a then some v else m y) := by rw [canon e]; exact F

theorem join_wp {prog : Program} {w : World} {A : Around} {E : Value → Shared → Prop} {s : Shared} {l : Addr} {ps : List (List Nat × Tok)} {n : Nat} {t : Tok} {Q : Value → Shared → Prop}
    (hl : s.heap.get? l = some (W.listOf (partsV 0 ps).toArray n)) (hz : (partsL ps).length ≤ 2 ^ 22)
    (h : ∀ t' tk, Q (.str ⟨(partsL ps).toArray⟩ t') { s with toks := tk }) : wpAny (model prog w) A (call (.builtin "str.join") [.str (Str.ofString "") t, .ref l]) Q E s := by
  rw [show Str.ofString "" = ⟨[].toArray⟩ by decide +kernel]
  exact joins_str s l ps t n Q E hl hz h

theorem strip_ok {w : World} {A : Around} {s : Shared} {mg mb : Str → Option Value} (G : Gd w mg mb s.heap) (hh : A.handled = none) (hdp : A.depth < 900) {x : Str} {t : Tok} (hx : x.cps.size ≤ 2 ^ 20) {Q : Value → Shared → Prop} {E : Value → Shared → Prop}
    (h : ∀ t' s', Ext s s' → Q (.str ⟨(stripS false x.cps.toList).toArray⟩ t') s') :
    wpAny (model P w) A (call (.ref 45) [.str x t]) Q E s := by
  have G0 := G
  refine enter [(Str.ofString "addr", .str x t)] G (by simp only [recursionLimit]; omega) rfl (by k_is) rfl rfl ?_
  intro h₁ F
  have N : News s.heap s.heap.objs.size h₁ [] := News.nil
  have G' := G.keeps F.keep
  obtain ⟨X, T⟩ := G
  iterate 7 walk1
  have hq : Str.ofString "\"" = ⟨#[34]⟩ := by decide +kernel
  have hocc : (!(Builtin.Str.occurrences x (Str.ofString "\"") 0 x.length 1).isEmpty) = decide (34 ∈ x.cps.toList) := by rw [hq, found_one]
  rw [hocc]
  by_cases hm : 34 ∈ x.cps.toList
  case neg =>
    rw [decide_eq_false hm]
    rw [if_pos (by decide)]
    have := h t
    rw [strip_noMark (noMark_of hm)] at this
    iterate 3 walk1
    exact this _ ⟨F.keep, rfl, id⟩
  rw [decide_eq_true hm]
  rw [if_neg (by decide)]
  iterate 14 walk1
  rename_i hz Fz Nz
  refine newList_N Fz Nz (fun h0 F0 N0 => ?_)
  have hlr : (s.heap.objs.size : Nat) < hz.objs.size := Fz.ns.lt
  generalize hlrE : hz.objs.size = lr at F0 N0 hlr ⊢
  clear Fz Nz
  have hlr0 : (s.heap.objs.size : Nat) < lr := hlr
  iterate 3 walk1
  refine wpAny_For ?_
  iterate 3 walk1
  iterate 2 walk1
  rename_i h1 F1 N1
  iterate 1 walk1
  have hl1 : h1.get? lr = some _ := (N1 _ (.head _)).1
  have hs1 : (lr : Nat) < h1.objs.size := Heap.lt_size hl1
  have hb0 : s.heap.get? lr = none := (N1 _ (.head _)).2.2
  refine ⟨X.keeps F1.keep, ?_⟩
  refine gen_callA (hb := s.heap) G0 F1.keep [s.heap.objs.size, lr] (fun b hb => ?_) (by exact hh) (by show A.depth + 1 < recursionLimit; simp only [recursionLimit]; omega) (by dsimp only; omega) ?_
  · have hb' : b = s.heap.objs.size ∨ b = lr := by simpa using hb
    dsimp only
    rcases hb' with rfl | rfl <;> omega
  intro a g N LG s1 gok hLG haL hNL hk1 hos1 hg1
  refine wpAny_pyIter_gen gok.isGen ?_
  refine loop_wpA (fun A' n s2 => ∃ j, n = (esc 0 x.cps.toList).length + 1 - j ∧ SI w A' s lr a g N LG x t j s2) ?_ ((esc 0 x.cps.toList).length + 1) ?_
  rotate_left
  · refine ⟨0, rfl, Nat.zero_le _, gok, hos1, hg1, _, ⟨F1.ns.keeps hk1, fun b o e => hk1 b o (F1.keep b o e), F1.above⟩, rfl, rfl, 0, _, none, [], 0, rfl, rfl, hk1 _ _ hl1, Nat.zero_le _, ?_, ?_⟩
    · have hl : x.cps.toList.length = x.cps.size := Array.length_toList
      have hb := esc_bound x.cps.toList 0
      exact ⟨Nat.zero_le _, fun q hq => ⟨Nat.zero_le _, by have := (hb.1 q hq).2; omega⟩, fun o q => (by cases q), hb.2⟩
    · exact runS_all _
  · clear gok hk1 hos1 hg1 F1 N1
    rintro n s2 ⟨j, rfl, I⟩
    obtain ⟨hj, gok, hos2, hg2, m, F2, hma, hmr, st, tst, op, ps, nn, hst, hop, hl2, hps, hbd, hrun⟩ := I
    have haW : a ∉ [s.heap.objs.size, lr] := by
      intro q
      have : a = s.heap.objs.size ∨ a = lr := by simpa using q
      dsimp only at hLG
      omega
    have hel : (esc 0 x.cps.toList).length ≤ x.cps.size := by rw [← Array.length_toList]; exact esc_len _ 0
    have hcL : (cStatics : Nat) < s.heap.objs.size := by obtain ⟨mc, hns, _⟩ := G0.T.nolimit; exact hns.lt
    have hLG' : h1.objs.size ≤ LG := hLG
    have n1 : (lr : Nat) < N := by omega
    have n2 : (lr : Nat) ≠ LG := by omega
    have hsLG : (s.heap.objs.size : Nat) ≤ LG := by omega
    have n3 : (cStatics : Nat) < N := Nat.lt_trans hcL (by omega)
    have n4 : (cStatics : Nat) ≠ LG := Nat.ne_of_lt (Nat.lt_of_lt_of_le hcL hsLG)
    have n5 : (s.heap.objs.size : Nat) < N := by omega
    have n6 : (s.heap.objs.size : Nat) ≠ LG := by omega
    have n7 : ∀ b : Nat, b < s.heap.objs.size → b < N ∧ b ≠ LG := fun b hb => ⟨by omega, by omega⟩
    have n8 : (lr : Nat) ≠ s.heap.objs.size := by omega
    have n9 : (cStatics : Nat) ∉ [s.heap.objs.size, lr] := by
      intro q
      have : (cStatics : Nat) = s.heap.objs.size ∨ (cStatics : Nat) = lr := by simpa using q
      rcases this with e | e
      · exact Nat.ne_of_lt hcL e
      · exact Nat.ne_of_lt (Nat.lt_trans hcL hlr0) e
    rcases Nat.lt_or_eq_of_le hj with hlt | hje
    · refine gen_next (by exact hh) (by show A.depth + 1 < recursionLimit; simp only [recursionLimit]; omega) gok hlt (by omega) (by omega) n3 n4 ?_
      intro T' p cs tp tc s3 hit hT3 gok3 mv3
      dsimp only
      refine letOwned_gen gok3.isGen ?_
      have F3 : Fr s.heap s.heap.objs.size s3.heap (fun y => if y = Str.ofString "open_pos" then some (opV op) else if y = Str.ofString "start" then some (Value.int (st : Nat) tst) else if y = Str.ofString "addr" then some (Value.str x t) else if y = Str.ofString "result" then some (Value.ref lr) else m y) := by
        refine Fr.put (Fr.put (Fr.put (Fr.put ?_ ?ka) ?kb) ?kc) ?kd
        case ka => exact hmr
        case kb => exact hma
        case kc => exact hst
        case kd => exact hop
        exact ⟨F2.ns.at' fun o e => mv3.keep _ o n5 n6 e, fun b o e => mv3.keep b o (n7 b (Heap.lt_size e)).1 (n7 b (Heap.lt_size e)).2 (F2.keep b o e), F2.above⟩
      have hl3 : s3.heap.get? lr = some _ := mv3.keep lr _ n1 n2 hl2
      refine assign_pair (by exact hh) F3 hT3 rfl rfl rfl ?_
      intro h4 tk4 F4 hk4
      have hl4 : h4.get? lr = some _ := hk4 lr _ n8 hl3
      have N4 := ledX_news (N := h4.objs.size) hl4 n8 hb0
      have hkeep : ∀ h' m' o', Fr s.heap s.heap.objs.size h' m' → News s.heap s.heap.objs.size h' ((lr, o') :: ledX s.heap s.heap.objs.size lr h4.objs.size h4) → ∀ b o, b ∉ [s.heap.objs.size, lr] → s3.heap.get? b = some o → h'.get? b = some o := by
        intro h' m' o' F' N' b o hbW e
        have hb1 : b ≠ s.heap.objs.size := fun q => hbW (by simp [q])
        have hb2 : b ≠ lr := fun q => hbW (by simp [q])
        have e4 := hk4 b o hb1 e
        exact ledX_keep F4 F' N' b o (Heap.lt_size e4) hb1 hb2 e4
      have hbeq : ((⟨cs.toArray⟩ : Str) == Str.ofString "\"") = decide (cs = [34]) := by
        rw [hq]
        by_cases hc : cs = [34]
        · subst hc; rfl
        · rw [decide_eq_false hc, beq_eq_false_iff_ne]
          intro q; injection q with q; apply hc; simpa using congrArg Array.toList q
      have hdrop : (esc 0 x.cps.toList).drop j = (p, cs) :: (esc 0 x.cps.toList).drop (j + 1) := by
        rw [List.drop_eq_getElem_cons hlt]
        congr 1
        obtain ⟨_, q⟩ := List.getElem?_eq_some_iff.mp hit
        exact q
      rw [hdrop] at hrun hbd
      have hb1 := hbd.ahead (p, cs) (.head _)
      have hb2 := List.pairwise_cons.mp hbd.sorted
      dsimp only at hb1 hb2
      have hstep : ∀ st' op', st' ≤ x.cps.size → (∀ q ∈ (esc 0 x.cps.toList).drop (j + 1), st' ≤ q.1) → (∀ o, op' = some o → st' ≤ o ∧ o ≤ x.cps.size) → Bd x.cps.size st' op' ((esc 0 x.cps.toList).drop (j + 1)) := fun st' op' h1 h2 h3 => ⟨h1, fun q hq => ⟨h2 q hq, (hbd.ahead q (.tail _ hq)).2⟩, h3, hb2.2⟩
      have fin : ∀ A', GenOK w A' a g N LG [s.heap.objs.size, lr] (esc 0 x.cps.toList) (j + 1) s3 → ∀ h' tk' m' (st' : Nat) (tst' : Tok) (op' : Option (Nat × Tok)) (ps' : List (List Nat × Tok)) (n' : Nat), Fr s.heap s.heap.objs.size h' m' → News s.heap s.heap.objs.size h' ((lr, W.listOf (partsV 0 ps').toArray n') :: ledX s.heap s.heap.objs.size lr h4.objs.size h4) →
          m' (Str.ofString "addr") = some (.str x t) → m' (Str.ofString "result") = some (.ref lr) → m' (Str.ofString "start") = some (.int (st' : Nat) tst') → m' (Str.ofString "open_pos") = some (opV op') → ps'.length ≤ j + 1 → Bd x.cps.size st' (op'.map (·.1)) ((esc 0 x.cps.toList).drop (j + 1)) →
          partsL ps' ++ runS x.cps.toList st' (op'.map (·.1)) ((esc 0 x.cps.toList).drop (j + 1)) = stripS false x.cps.toList → 
          ∃ m, m < (esc 0 x.cps.toList).length + 1 - j ∧ ∃ j, m = (esc 0 x.cps.toList).length + 1 - j ∧ SI w A' s lr a g N LG x t j { s3 with heap := h', toks := tk' } := by
        intro A' gok3 h' tk' m' st' tst' op' ps' n' F' N' e1 e2 e3 e4 e5 e7 e6
        refine ⟨_, ?_, j + 1, rfl, hlt, gok3.frame haW n9 (hkeep h' m' _ F' N') rfl, mv3.os.trans hos2, fun q => mv3.bare (hg2 q), m', F', e1, e2, st', tst', op', ps', n', e3, e4, (N' _ (.head _)).1, e5, e7, e6⟩
        omega
      iterate 7 walk1
      rw [hbeq]
      by_cases hc : cs = [34]
      case neg =>
        rw [decide_eq_false hc, if_neg (by decide)]
        iterate 3 walk1
        refine fin _ gok3 h4 _ _ st tst op ps nn F4 N4 rfl rfl rfl rfl (by omega) (hstep _ _ hbd.le (fun q hq => (hbd.ahead q (.tail _ hq)).1) hbd.op) ?_
        rw [← hrun]
        cases op <;> simp [runS, hc]
      subst hc
      rw [decide_eq_true rfl, if_pos rfl]
      cases op with
      | none =>
        dsimp only [opV] at F4
        iterate 16 walk1
        rename_i h5 F5 N5
        refine fin _ gok3 h5 _ _ st tst (some (p, _)) ps nn F5 N5 rfl rfl rfl rfl (by omega) (hstep _ _ hbd.le (fun q hq => (hbd.ahead q (.tail _ hq)).1) (fun o e => by cases e; exact ⟨hb1.1, Nat.le_of_lt hb1.2⟩)) ?_
        rw [← hrun]
        simp [runS]
      | some oo =>
        obtain ⟨o, to⟩ := oo
        dsimp only [opV] at F4
        iterate 16 walk1
        by_cases hso : st = o
        · rw [if_neg (by simp [hso])]
          iterate 15 walk1
          rename_i h5 F5 N5
          refine fin _ gok3 h5 _ _ (p + 1) _ none ps nn F5 N5 rfl rfl rfl rfl (by omega) (hstep _ _ hb1.2 (fun q hq => hb2.1 q hq) (fun o e => by cases e)) ?_
          rw [← hrun]
          simp [runS, hso]
        · have hso' : ((st : Nat) : Int) ≠ ((o : Nat) : Int) := by omega
          rw [if_pos (by simp [hso'])]
          iterate 17 walk1
          rename_i F5 N5 _
          obtain ⟨hob1, hob2⟩ := hbd.op o rfl
          rw [slice_nat hob1 hob2]
          refine append_K F5 N5 (.head ledX_ne) (fun h6 F6 N6 => ?_) (by rw [List.size_toArray, sizeLine_eq]; simp [partsV]; omega)
          clear F5 N5
          have epush : ∀ tt, (partsV 0 ps).toArray.push (Value.str ⟨((x.cps.toList.drop st).take (o - st)).toArray⟩ tt) = (partsV 0 (ps ++ [((x.cps.toList.drop st).take (o - st), tt)])).toArray := fun tt => by simp [partsV, mkV]
          rw [epush] at N6
          iterate 15 walk1
          rename_i h7 F7 N7
          refine fin _ gok3 h7 _ _ (p + 1) _ none _ _ F7 N7 rfl rfl rfl rfl (by simp; omega) (hstep _ _ hb1.2 (fun q hq => hb2.1 q hq) (fun o e => by cases e)) ?_
          rw [← hrun]
          simp [runS, partsL]
    · subst hje
      refine gen_done (by exact hh) (by show A.depth + 1 < recursionLimit; simp only [recursionLimit]; omega) gok ?_
      intro s3 mv3
      dsimp only
      have F3 : Fr s.heap s.heap.objs.size s3.heap (fun y => if y = Str.ofString "open_pos" then some (opV op) else if y = Str.ofString "start" then some (Value.int (st : Nat) tst) else if y = Str.ofString "addr" then some (Value.str x t) else if y = Str.ofString "result" then some (Value.ref lr) else m y) := by
        refine Fr.put (Fr.put (Fr.put (Fr.put ?_ ?ka) ?kb) ?kc) ?kd
        case ka => exact hmr
        case kb => exact hma
        case kc => exact hst
        case kd => exact hop
        exact ⟨F2.ns.at' fun o e => mv3.keep _ o n5 n6 e, fun b o e => mv3.keep b o (n7 b (Heap.lt_size e)).1 (n7 b (Heap.lt_size e)).2 (F2.keep b o e), F2.above⟩
      have hl3 : s3.heap.get? lr = some _ := mv3.keep lr _ n1 n2 hl2
      have N3 := ledX_news (N := 0) hl3 n8 hb0
      rw [List.drop_length] at hrun hbd
      have fin : ∀ h' tk' t', (∀ b o, s.heap.get? b = some o → h'.get? b = some o) → Q (.str ⟨(stripS false x.cps.toList).toArray⟩ t') { s3 with heap := h', toks := tk' } := fun h' tk' t' hk' => h t' _ ⟨hk', mv3.os.trans hos2, fun q => mv3.bare (hg2 q)⟩
      have hsl : (stripS false x.cps.toList).length ≤ x.cps.size := by rw [← Array.length_toList]; exact (strip_sub false _).length_le
      iterate 10 walk1
      have hlen : x.length = x.cps.size := rfl
      refine PySem.P.len_str (by omega) ?_
      iterate 2 walk1
      by_cases hlt : st < x.cps.size
      · rw [if_pos (by simpa [hlen] using hlt)]
        iterate 17 walk1
        rename_i h4 _ _ F4 N4 _
        rw [slice_from_nat hbd.le]
        refine append_K F4 N4 (.head ledX_ne) (fun h5 F5 N5 => ?_) (by rw [List.size_toArray, sizeLine_eq]; simp [partsV]; omega)
        clear F4 N4
        have epush : ∀ tt, (partsV 0 ps).toArray.push (Value.str ⟨(x.cps.toList.drop st).toArray⟩ tt) = (partsV 0 (ps ++ [(x.cps.toList.drop st, tt)])).toArray := fun tt => by simp [partsV, mkV]
        rw [epush] at N5
        have hall : ∀ tt, partsL (ps ++ [(x.cps.toList.drop st, tt)]) = stripS false x.cps.toList := fun tt => by rw [← hrun]; simp [runS, partsL]
        iterate 10 walk1
        refine join_wp (N5 _ (.head _)).1 ?_ fun t' tk' => ?_
        · rw [hall]; omega
        · rw [hall]; exact fin _ _ _ F5.keep
      · rw [if_neg (by simpa [hlen] using hlt)]
        have hall : partsL ps = stripS false x.cps.toList := by rw [← hrun]; simp [runS]; omega
        iterate 10 walk1
        refine join_wp hl3 ?_ fun t' tk' => ?_
        · rw [hall]; omega
        · rw [hall]; exact fin _ _ _ F3.keep
end Mine
end TStrip2
section TCheck
open PySem PySem.W PyProof.Rows PySem.Spec
set_option maxRecDepth 100000
set_option maxHeartbeats 1000000
namespace Mine
set_option autoImplicit false
theorem refillC (w : World) : hd.heap_39 w.params = hd.heap_39 w.params ∧ PySem.Challenge.rw_pe0071_01.row.prog = PySem.Challenge.rw_pe0071_01.row.prog := by
  k_fill
  exact ⟨rfl, rfl⟩

def chkE (n : Nat) : List (Nat × List Nat) → Bool
  | [] => decide (n = 0)
  | (_, cs) :: r => if cs = [40] then chkE (n + 1) r else if cs = [41] then (if n = 0 then false else chkE (n - 1) r) else chkE n r
theorem chkE_eq (l : List Nat) : ∀ k n, chkE n (esc k l) = chkF n l := by
  induction l using text_ind with
  | nil => intro k n; rfl
  | lone => intro k n; simp [esc, chkE, chkF]
  | esc d r ih => intro k n; rw [esc_esc, chkF_esc, ← ih (k + 2) n]; simp [chkE]
  | one c r hc ih =>
    intro k n
    rw [esc_one k r hc, chkF_one n r hc]
    simp only [chkE, List.cons.injEq, and_true]
    rw [ih, ih, ih]

structure CI (w : World) (A : Around) (sb : Shared) (L a g N LG : Nat) (l : List Nat) (j : Nat) (s : Shared) : Prop where
  le : j ≤ (esc 0 l).length
  gen : GenOK w A a g N LG [L] (esc 0 l) j s
  os : s.os = sb.os
  bare : AllBare sb.gens → AllBare s.gens
  rest : ∃ m, Fr sb.heap L s.heap m ∧ ∃ (n : Nat) (tn : Tok), m (Str.ofString "opens") = some (.int (n : Nat) tn) ∧ n ≤ j ∧ chkE n ((esc 0 l).drop j) = chkF 0 l

theorem check_ok {w : World} {A : Around} {s : Shared} {mg mb : Str → Option Value} (G : Gd w mg mb s.heap) (hh : A.handled = none) (hdp : A.depth < 890) {x : Str} {t : Tok} (hx : x.cps.size ≤ 2 ^ 20) {Q : Value → Shared → Prop} {E : Value → Shared → Prop}
    (h : ∀ s', Ext s s' → Q (.bool (check x.cps.toList)) s') :
    wpAny (model P w) A (call (.ref 52) [.str x t]) Q E s := by
  have G0 := G
  refine enter [(Str.ofString "addr", .str x t)] G (by simp only [recursionLimit]; omega) rfl (by k_is) rfl rfl ?_
  intro h₁ F
  have N : News s.heap s.heap.objs.size h₁ [] := News.nil
  have G' := G.keeps F.keep
  obtain ⟨X, T⟩ := G
  iterate 8 walk1
  refine ⟨X.keeps F.keep, ?_⟩
  refine strip_ok (G0.keeps F.keep) (by exact hh) (by show A.depth + 1 < 900; omega) hx ?_
  intro t1 s1 x1
  obtain ⟨l, hl⟩ : ∃ l, stripS false x.cps.toList = l := ⟨_, rfl⟩
  have hcheck : check x.cps.toList = chkF 0 l := by rw [← hl]; rfl
  rw [hl]
  have F1 : Fr s.heap s.heap.objs.size s1.heap _ := x1.fr F
  have os1 : s1.os = s.os := x1.os
  have gs1 : AllBare s.gens → AllBare s1.gens := x1.gens
  have N1 : News s.heap s.heap.objs.size s1.heap [] := News.nil
  clear F N x1
  iterate 7 walk1
  refine wpAny_For ?_
  iterate 6 walk1
  rename_i h1 F2 N2
  refine ⟨X.keeps F2.keep, ?_⟩
  have hsz : (s.heap.objs.size : Nat) < h1.objs.size := F2.ns.lt
  refine gen_callA (hb := s.heap) G0 F2.keep [s.heap.objs.size] (fun b hb => ?_) (by exact hh) (by show A.depth + 1 < recursionLimit; simp only [recursionLimit]; omega) (by dsimp only; omega) ?_
  · have hb' : b = s.heap.objs.size := by simpa using hb
    dsimp only
    omega
  intro a g N LG s2 gok hLG haL hNL hk1 hos1 hg1
  refine wpAny_pyIter_gen gok.isGen ?_
  rw [show ((⟨l.toArray⟩ : Str).cps.toList) = l from rfl] at gok
  refine loop_wpA (fun A' n s2 => ∃ j, n = (esc 0 l).length + 1 - j ∧ CI w A' s s.heap.objs.size a g N LG l j s2) ?_ ((esc 0 l).length + 1) ?_
  rotate_left
  · refine ⟨0, rfl, Nat.zero_le _, gok, hos1.trans os1, fun q => hg1 (gs1 q), _, ⟨F2.ns.keeps hk1, fun b o e => hk1 b o (F2.keep b o e), F2.above⟩, 0, _, rfl, Nat.zero_le _, ?_⟩
    exact chkE_eq l 0 0
  · clear gok hk1 hos1 hg1 N2 os1 gs1
    rintro n s2 ⟨j, rfl, I⟩
    obtain ⟨hj, gok, hos2, hg2, m, F3, nn, tn, hop, hnj, hrun⟩ := I
    have haW : a ∉ [s.heap.objs.size] := by
      intro q
      have : a = s.heap.objs.size := by simpa using q
      dsimp only at hLG
      omega
    have hcL : (cStatics : Nat) < s.heap.objs.size := by obtain ⟨mc, hns, _⟩ := G0.T.nolimit; exact hns.lt
    have hLG' : h1.objs.size ≤ LG := hLG
    have hsLG : (s.heap.objs.size : Nat) ≤ LG := by omega
    have n3 : (cStatics : Nat) < N := Nat.lt_trans hcL (by omega)
    have n4 : (cStatics : Nat) ≠ LG := Nat.ne_of_lt (Nat.lt_of_lt_of_le hcL hsLG)
    have n5 : (s.heap.objs.size : Nat) < N := by omega
    have n6 : (s.heap.objs.size : Nat) ≠ LG := by omega
    have n7 : ∀ b : Nat, b < s.heap.objs.size → b < N ∧ b ≠ LG := fun b hb => ⟨by omega, by omega⟩
    have n9 : (cStatics : Nat) ∉ [s.heap.objs.size] := by
      intro q
      have : (cStatics : Nat) = s.heap.objs.size := by simpa using q
      exact Nat.ne_of_lt hcL this
    have hmove : ∀ s3, Moves N LG s2 s3 → Fr s.heap s.heap.objs.size s3.heap (fun y => if y = Str.ofString "opens" then some (Value.int (nn : Nat) tn) else m y) := by
      intro s3 mv3
      refine Fr.put ?_ hop
      exact ⟨F3.ns.at' fun o e => mv3.keep _ o n5 n6 e, fun b o e => mv3.keep b o (n7 b (Heap.lt_size e)).1 (n7 b (Heap.lt_size e)).2 (F3.keep b o e), F3.above⟩
    rcases Nat.lt_or_eq_of_le hj with hlt | hje
    · refine gen_next (by exact hh) (by show A.depth + 1 < recursionLimit; simp only [recursionLimit]; omega) gok hlt (by omega) (by omega) n3 n4 ?_
      intro T' p cs tp tc s3 hit hT3 gok3 mv3
      dsimp only
      refine letOwned_gen gok3.isGen ?_
      refine assign_pair (by exact hh) (hmove s3 mv3) hT3 rfl rfl rfl ?_
      intro h4 tk4 F4 hk4
      have N4 := led_news s.heap s.heap.objs.size h4.objs.size h4
      have hkeep : ∀ h' m', Fr s.heap s.heap.objs.size h' m' → News s.heap s.heap.objs.size h' (led s.heap s.heap.objs.size h4.objs.size h4) → ∀ b o, b ∉ [s.heap.objs.size] → s3.heap.get? b = some o → h'.get? b = some o := by
        intro h' m' F' N' b o hbW e
        have hb1 : b ≠ s.heap.objs.size := fun q => hbW (by simp [q])
        have e4 := hk4 b o hb1 e
        exact led_keep F4 F' N' b o (Heap.lt_size e4) hb1 e4
      have hbeq : ∀ c : Nat, ((⟨cs.toArray⟩ : Str) == ⟨#[c]⟩) = decide (cs = [c]) := by
        intro c
        by_cases hc : cs = [c]
        · subst hc; simp
        · rw [decide_eq_false hc, beq_eq_false_iff_ne]
          intro q; injection q with q; apply hc; simpa using congrArg Array.toList q
      have hq1 : ((⟨cs.toArray⟩ : Str) == Str.ofString "(") = decide (cs = [40]) := by rw [show Str.ofString "(" = ⟨#[40]⟩ by decide +kernel]; exact hbeq 40
      have hq2 : ((⟨cs.toArray⟩ : Str) == Str.ofString ")") = decide (cs = [41]) := by rw [show Str.ofString ")" = ⟨#[41]⟩ by decide +kernel]; exact hbeq 41
      have hdrop : (esc 0 l).drop j = (p, cs) :: (esc 0 l).drop (j + 1) := by
        rw [List.drop_eq_getElem_cons hlt]
        congr 1
        obtain ⟨_, q⟩ := List.getElem?_eq_some_iff.mp hit
        exact q
      rw [hdrop] at hrun
      have fin : ∀ A', GenOK w A' a g N LG [s.heap.objs.size] (esc 0 l) (j + 1) s3 → ∀ h' tk' m' (n' : Nat) (tn' : Tok), Fr s.heap s.heap.objs.size h' m' → News s.heap s.heap.objs.size h' (led s.heap s.heap.objs.size h4.objs.size h4) →
          m' (Str.ofString "opens") = some (.int (n' : Nat) tn') → n' ≤ j + 1 → chkE n' ((esc 0 l).drop (j + 1)) = chkF 0 l →
          ∃ m, m < (esc 0 l).length + 1 - j ∧ ∃ j, m = (esc 0 l).length + 1 - j ∧ CI w A' s s.heap.objs.size a g N LG l j { s3 with heap := h', toks := tk' } := by
        intro A' gok3 h' tk' m' n' tn' F' N' e1 e2 e3
        refine ⟨_, ?_, j + 1, rfl, hlt, gok3.frame haW n9 (hkeep h' m' F' N') rfl, mv3.os.trans hos2, fun q => mv3.bare (hg2 q), m', F', n', tn', e1, e2, e3⟩
        omega
      clear F3 F2
      iterate 7 walk1
      rw [hq1]
      by_cases hc : cs = [40]
      · rw [decide_eq_true hc, if_pos rfl]
        rw [chkE, if_pos hc] at hrun
        iterate 9 walk1
        rename_i h5 F5 N5
        exact fin _ gok3 h5 _ _ (nn + 1) _ F5 N5 rfl (by omega) hrun
      rw [decide_eq_false hc, if_neg (by decide)]
      iterate 8 walk1
      rw [hq2]
      by_cases hc2 : cs = [41]
      · rw [decide_eq_true hc2, if_pos rfl]
        rw [chkE, if_neg hc, if_pos hc2] at hrun
        by_cases hn0 : nn = 0
        · subst hn0
          rw [if_pos rfl] at hrun
          have hfin : ∀ h' tk, (∀ b o, s.heap.get? b = some o → h'.get? b = some o) → Q (.bool (check x.cps.toList)) { s3 with heap := h', toks := tk } := fun h' tk hk => h _ ⟨hk, mv3.os.trans hos2, fun q => mv3.bare (hg2 q)⟩
          have hv : check x.cps.toList = false := by rw [hcheck, ← hrun]
          rw [hv] at hfin
          iterate 12 walk1
          rename_i h5 F5 N5
          iterate 6 walk1
          exact hfin _ _ F5.keep
        · rw [if_neg hn0] at hrun
          iterate 14 walk1
          rename_i h5 F5 N5
          rw [if_neg (by simp; omega)]
          iterate 5 walk1
          have e : ((nn : Nat) : Int) - 1 = ((nn - 1 : Nat) : Int) := by omega
          rw [e] at F5
          exact fin _ gok3 h5 _ _ (nn - 1) _ F5 N5 rfl (by omega) hrun
      · rw [decide_eq_false hc2, if_neg (by decide)]
        rw [chkE, if_neg hc, if_neg hc2] at hrun
        iterate 4 walk1
        exact fin _ gok3 h4 _ _ nn _ F4 N4 rfl (by omega) hrun
    · subst hje
      refine gen_done (by exact hh) (by show A.depth + 1 < recursionLimit; simp only [recursionLimit]; omega) gok ?_
      intro s3 mv3
      dsimp only
      have F4 := hmove s3 mv3
      clear F3 F2
      have N4 : News s.heap s.heap.objs.size s3.heap [] := News.nil
      rw [List.drop_length] at hrun
      have hfin : ∀ tk, Q (.bool (check x.cps.toList)) { s3 with toks := tk } := fun tk => h _ ⟨F4.keep, mv3.os.trans hos2, fun q => mv3.bare (hg2 q)⟩
      have hv : ((nn : Int) == 0) = check x.cps.toList := by
        rw [hcheck, ← hrun, chkE]
        by_cases hn : nn = 0
        · subst hn; rfl
        · rw [decide_eq_false hn, beq_eq_false_iff_ne]; omega
      iterate 6 walk1
      show Q (.bool ((nn : Int) == 0)) _
      rw [hv]
      exact hfin _
end Mine
end TCheck
section TLoops2
open PySem PySem.W PyProof.Rows PySem.Spec
set_option maxRecDepth 100000
set_option maxHeartbeats 1000000
namespace Mine
set_option autoImplicit false
section
variable {prog : Program} {w : World} {A : Around} {E : Value → Shared → Prop} {s : Shared}

theorem Fr.moved {hb h h' : Heap} {L it : Nat} {m : Str → Option Value} (F : Fr hb L h m) (hitL : it ≠ L) (hitb : hb.get? it = none) (hs : ∀ b o, b ≠ it → h.get? b = some o → h'.get? b = some o) : Fr hb L h' m :=
  ⟨F.ns.at' fun o e => hs _ o (Ne.symm hitL) e, fun b o e => hs b o (fun q => by subst q; rw [hitb] at e; cases e) (F.keep b o e), F.above⟩

theorem store_name {hb : Heap} {L : Nat} {m : Str → Option Value} {cn : Str} {cs : Scope} {fa : Addr} {cd : Value} {x : Str} {px : Pos} {v : Value} {Q : Unit → Shared → Prop}
    (F : Fr hb L s.heap m) (hx : (envOf cn cs L fa cd).kindOf x = some .local) (hk : cs.kind = .function)
    (h : ∀ h' tk, Fr hb L h' (fun y => if y = x then some v else m y) → (∀ b o, b ≠ L → s.heap.get? b = some o → h'.get? b = some o) → Q () { s with heap := h', toks := tk }) :
    wpAny (model prog w) A (assign (.Name x px) (envOf cn cs L fa cd) v) Q E s := by
  have hp : (cs.kind == .class || (cs.kind == .module && L != mainGlobals)) = false := by rw [hk]; rfl
  refine wpAny_assign_Name (wpAny_storeName_local hx F.ns (fun h4 hn4 hs4 => ?_) hp)
  replace hs4 : Heap.SameBut L s.heap h4 := hs4
  have hk : ∀ b o, b ≠ L → s.heap.get? b = some o → h4.get? b = some o := fun b o hb e => hs4.extBut b o hb e
  refine h h4 _ ⟨hn4, fun b o e => hk b o ?_ (F.keep b o e), F.above⟩ hk
  exact Nat.ne_of_lt (Nat.lt_of_lt_of_le (Heap.lt_size e) F.above)

theorem letOwned_name {x : Str} {px : Pos} {it v : Value} {Q : Unit → Shared → Prop} (h : Q () s) : wpAny (model prog w) A (letOwnedTupleGo (.Name x px) it v) Q E s := by
  unfold letOwnedTupleGo
  exact wpAny_pure h

theorem range_loop {hb : Heap} {L it : Nat} {x : Str} {px : Pos} {cn : Str} {cs : Scope} {fa : Addr} {cd : Value} {body : List Stmt} {Q : Flow → Shared → Prop} {a c : Int} {n : Nat}
    (hh : A.handled = none) (hx : (envOf cn cs L fa cd).kindOf x = some .local) (hk : cs.kind = .function)
    (hit : IsRangeIter s.heap it a n c) (hitL : it ≠ L) (hitb : hb.get? it = none)
    (J : Nat → (Str → Option Value) → Shared → Prop)
    (stab : ∀ i m s h' tk, J i m s → (∀ b o, b ≠ it → b ≠ L → s.heap.get? b = some o → h'.get? b = some o) → J i m { s with heap := h', toks := tk })
    (h0 : ∃ m, Fr hb L s.heap m ∧ J 0 m s)
    (step : ∀ i m tk s, i < n → Fr hb L s.heap (fun y => if y = x then some (.int (a + i * c) tk) else m y) → J i m s → it < s.heap.objs.size →
      wpAny (model prog w) A (execs body (envOf cn cs L fa cd)) (fun f s3 => match f with
        | .next | .cont => (∃ m', Fr hb L s3.heap m' ∧ J (i + 1) m' s3) ∧ (∀ o, s.heap.get? it = some o → s3.heap.get? it = some o)
        | .brk => Q .next s3
        | .ret v => Q (.ret v) s3) (fun _ _ => False) s)
    (done : ∀ m s, Fr hb L s.heap m → J n m s → Q .next s) :
    codeAny (model prog w) A (.forLoop (.Name x px) (.ref it) body [] (envOf cn cs L fa cd)) (fun r s' => match r with | .ok f => Q f s' | .error e => cameBackBy (model prog w) A (envOf cn cs L fa cd) E e s') s := by
  refine loop_wp (fun k s => ∃ i : Nat, k = n - i ∧ i ≤ n ∧ IsRangeIter s.heap it (a + i * c) ((n : Int) - i) c ∧ ∃ m, Fr hb L s.heap m ∧ J i m s) ?_ n ?_
  · rintro k s ⟨i, rfl, hin, hit, m, F, hJ⟩
    rcases Nat.lt_or_eq_of_le hin with hlt | rfl
    · refine wpAny_pyNext_range_item hit (by omega) fun h1 hit1 hs1 => ?_
      dsimp only
      have F1 := Fr.moved F hitL hitb fun b o hb e => hs1.extBut b o hb e
      refine letOwned_name (store_name F1 hx hk fun h2 tk2 F2 hk2 => ?_)
      dsimp only at hk2
      have hit2 : h2.get? it = some _ := hk2 it _ hitL hit1
      have hJ2 := stab i m s h2 tk2 hJ (fun b o hb1 hb2 e => hk2 b o hb2 (hs1.extBut b o hb1 e))
      refine wpAny_mono (step i m _ _ hlt F2 hJ2 (Heap.lt_size hit2)) (fun f s3 hf => ?_) fun _ _ x => x
      have nxt : ((∃ m', Fr hb L s3.heap m' ∧ J (i + 1) m' s3) ∧ (∀ o, h2.get? it = some o → s3.heap.get? it = some o)) → ∃ m_1, m_1 < n - i ∧ ∃ i, m_1 = n - i ∧ i ≤ n ∧ IsRangeIter s3.heap it (a + i * c) ((n : Int) - i) c ∧ ∃ m, Fr hb L s3.heap m ∧ J i m s3 := by
        rintro ⟨⟨m', F', hJ'⟩, hk3⟩
        refine ⟨n - (i + 1), by omega, i + 1, rfl, hlt, ?_, m', F', hJ'⟩
        have e1 : a + ((i + 1 : Nat) : Int) * c = a + (i : Int) * c + c := by
          rw [Int.natCast_add, Int.add_mul]; simp; omega
        have e2 : (n : Int) - ((i + 1 : Nat) : Int) = (n : Int) - i - 1 := by omega
        rw [e1, e2]
        exact hk3 _ hit2
      cases f with
      | next => exact nxt hf
      | cont => exact nxt hf
      | brk => exact hf
      | ret v => exact hf
    · refine wpAny_pyNext_range_end hh hit (by omega) fun h1 hs1 => ?_
      dsimp only
      refine done m _ (Fr.moved F hitL hitb fun b o hb e => hs1 b o hb e) ?_
      exact stab _ m s h1 s.toks hJ (fun b o hb1 _ e => hs1 b o hb1 e)
  · refine ⟨0, rfl, Nat.zero_le _, ?_, h0⟩
    have e1 : a + ((0 : Nat) : Int) * c = a := by simp
    rw [e1]
    simpa using hit

theorem list_loop {hb : Heap} {L it l : Nat} {items : Array Value} {x : Str} {px : Pos} {cn : Str} {cs : Scope} {fa : Addr} {cd : Value} {body : List Stmt} {Q : Flow → Shared → Prop}
    (hh : A.handled = none) (hx : (envOf cn cs L fa cd).kindOf x = some .local) (hk : cs.kind = .function)
    (hl : hb.IsList l items)
    (hit : s.heap.IsListIter it l 0) (hitL : it ≠ L) (hitb : hb.get? it = none)
    (J : Nat → (Str → Option Value) → Shared → Prop)
    (stab : ∀ i m s h' tk, J i m s → (∀ b o, b ≠ it → b ≠ L → s.heap.get? b = some o → h'.get? b = some o) → J i m { s with heap := h', toks := tk })
    (h0 : ∃ m, Fr hb L s.heap m ∧ J 0 m s)
    (step : ∀ i v m s, items[i]? = some v → Fr hb L s.heap (fun y => if y = x then some v else m y) → J i m s → it < s.heap.objs.size →
      wpAny (model prog w) A (execs body (envOf cn cs L fa cd)) (fun f s3 => match f with
        | .next | .cont => (∃ m', Fr hb L s3.heap m' ∧ J (i + 1) m' s3) ∧ (∀ o, s.heap.get? it = some o → s3.heap.get? it = some o)
        | .brk => Q .next s3
        | .ret v => Q (.ret v) s3) (fun _ _ => False) s)
    (done : ∀ m s, Fr hb L s.heap m → J items.size m s → Q .next s) :
    codeAny (model prog w) A (.forLoop (.Name x px) (.ref it) body [] (envOf cn cs L fa cd)) (fun r s' => match r with | .ok f => Q f s' | .error e => cameBackBy (model prog w) A (envOf cn cs L fa cd) E e s') s := by
  refine loop_wp (fun k s => ∃ i : Nat, k = items.size - i ∧ i ≤ items.size ∧ s.heap.IsListIter it l i ∧ ∃ m, Fr hb L s.heap m ∧ J i m s) ?_ items.size ?_
  · rintro k s ⟨i, rfl, hin, hit, m, F, hJ⟩
    have hl' : s.heap.IsList l items := let ⟨o, ho, r⟩ := hl; ⟨o, F.keep l o ho, r⟩
    rcases Nat.lt_or_eq_of_le hin with hlt | rfl
    · refine wpAny_pyNext_list_item hit hl' (Array.getElem?_eq_getElem hlt) fun h1 hit1 hs1 => ?_
      dsimp only
      have F1 := Fr.moved F hitL hitb fun b o hb e => hs1.extBut b o hb e
      refine letOwned_name (store_name F1 hx hk fun h2 tk2 F2 hk2 => ?_)
      dsimp only at hk2
      obtain ⟨oi, hoi, ri⟩ := hit1
      have hit2 : h2.get? it = some oi := hk2 it _ hitL hoi
      have hJ2 := stab i m s h2 tk2 hJ (fun b o hb1 hb2 e => hk2 b o hb2 (hs1.extBut b o hb1 e))
      refine wpAny_mono (step i _ m _ (Array.getElem?_eq_getElem hlt) F2 hJ2 (Heap.lt_size hit2)) (fun f s3 hf => ?_) fun _ _ x => x
      have nxt : ((∃ m', Fr hb L s3.heap m' ∧ J (i + 1) m' s3) ∧ (∀ o, h2.get? it = some o → s3.heap.get? it = some o)) → ∃ m_1, m_1 < items.size - i ∧ ∃ i, m_1 = items.size - i ∧ i ≤ items.size ∧ s3.heap.IsListIter it l i ∧ ∃ m, Fr hb L s3.heap m ∧ J i m s3 := by
        rintro ⟨⟨m', F', hJ'⟩, hk3⟩
        exact ⟨items.size - (i + 1), by omega, i + 1, rfl, hlt, ⟨oi, hk3 _ hit2, ri⟩, m', F', hJ'⟩
      cases f with
      | next => exact nxt hf
      | cont => exact nxt hf
      | brk => exact hf
      | ret v => exact hf
    · refine wpAny_pyNext_list_end hh hit hl' (by simp) fun h1 hs1 => ?_
      dsimp only
      refine done m _ (Fr.moved F hitL hitb fun b o hb e => hs1 b o hb e) ?_
      exact stab _ m s h1 s.toks hJ (fun b o hb1 _ e => hs1 b o hb1 e)
  · exact ⟨0, rfl, Nat.zero_le _, hit, h0⟩
end
end Mine
end TLoops2
section TPre
open PySem PySem.W PyProof.Rows PySem.Spec
set_option maxRecDepth 100000
set_option maxHeartbeats 1000000
namespace Mine
set_option autoImplicit false
theorem refillP (w : World) : hd.heap_39 w.params = hd.heap_39 w.params ∧ PySem.Challenge.rw_pe0071_01.row.prog = PySem.Challenge.rw_pe0071_01.row.prog := by
  k_fill
  exact ⟨rfl, rfl⟩
def strOf : Value → Option Str
  | .str x _ => some x
  | _ => none
def letIn (x : Str) : Str := if check x.cps.toList then x else Str.ofString "('', '')"

theorem pre_ok {w : World} {A : Around} {s : Shared} {mg mb : Str → Option Value} (G : Gd w mg mb s.heap) (hh : A.handled = none) (hdp : A.depth < 880) {a : Addr} {xs : List (Str × Tok)} (hl : s.heap.IsList a (xs.map fun p => Value.str p.1 p.2).toArray)
    (hx : ∀ p ∈ xs, p.1.cps.size ≤ 2 ^ 20) (hxl : xs.length ≤ 1000) {Q : Value → Shared → Prop} {E : Value → Shared → Prop}
    (h : ∀ (lr : Nat) s' vs n, Ext s s' → s'.heap.get? lr = some (W.listOf (List.toArray vs) n) → vs.map strOf = xs.map (fun p => some (letIn p.1)) → s.heap.get? lr = none → Q (.ref lr) s') :
    wpAny (model P w) A (call (.ref 59) [.ref a]) Q E s := by
  have G0 := G
  refine enter [(Str.ofString "email_header_fields", .ref a)] G (by simp only [recursionLimit]; omega) rfl (by k_is) rfl rfl ?_
  intro h₁ F
  have N : News s.heap s.heap.objs.size h₁ [] := News.nil
  have G' := G.keeps F.keep
  obtain ⟨X, T⟩ := G
  iterate 4 walk1
  refine newList_N F N (fun h0 F0 N0 => ?_)
  have hlr : (s.heap.objs.size : Nat) < h₁.objs.size := F.ns.lt
  generalize hlrE : h₁.objs.size = lr at F0 N0 hlr ⊢
  clear F N
  iterate 3 walk1
  refine wpAny_For ?_
  walk1
  rename_i h1 F1 N1
  have hl1 : h1.get? lr = some _ := (N1 _ (.head _)).1
  have hb0 : s.heap.get? lr = none := (N1 _ (.head _)).2.2
  have hs1 : (lr : Nat) < h1.objs.size := Heap.lt_size hl1
  refine wpAny_pyIter_list (items := (xs.map fun p => Value.str p.1 p.2).toArray) (let ⟨o, ho, r⟩ := hl; ⟨o, F1.keep a o ho, r⟩) ?_
  dsimp only
  have F2 := F1.push { cls := .type "list_iterator", data := .fields #[.ref a, .int 0 0] }
  have hl2 : (h1.push { cls := .type "list_iterator", data := .fields #[.ref a, .int 0 0] }).get? lr = some _ := Heap.get?_push_of_some _ hl1
  have hit2 : (h1.push { cls := .type "list_iterator", data := .fields #[.ref a, .int 0 0] }).IsListIter h1.objs.size a 0 := ⟨_, Heap.get?_push_size _ rfl, rfl, rfl⟩
  have hitb : s.heap.get? h1.objs.size = none := next_is_new F1
  generalize h1.push { cls := .type "list_iterator", data := .fields #[.ref a, .int 0 0] } = h2 at F2 hl2 hit2 ⊢
  have hitL : (h1.objs.size : Nat) ≠ s.heap.objs.size := by omega
  have n1 : (lr : Nat) ≠ h1.objs.size := by omega
  have n2 : (lr : Nat) ≠ s.heap.objs.size := by omega
  clear F1 N1
  generalize h1.objs.size = it at hit2 hitb hitL n1 hs1 ⊢
  refine list_loop (hb := s.heap) (by exact hh) rfl rfl hl hit2 hitL hitb (fun i m s' => m (Str.ofString "accepted_values") = some (.ref lr) ∧ s'.os = s.os ∧ (AllBare s.gens → AllBare s'.gens) ∧ ∃ vs n, s'.heap.get? lr = some (W.listOf (List.toArray vs) n) ∧ vs.map strOf = (xs.take i).map (fun p => some (letIn p.1))) ?_ ⟨_, F2, rfl, rfl, id, [], 0, hl2, rfl⟩ ?_ ?_
  · rintro i m s' h' tk ⟨e1, e2, e3, vs, n, e4, e5⟩ hk
    exact ⟨e1, e2, e3, vs, n, hk lr _ n1 n2 e4, e5⟩
  · clear F2 hl2 hit2
    rintro i v m s2 hv F2 ⟨e1, e2, e3, vs, n, hl2, e5⟩ hits
    have hil : i < xs.length := by
      have := (Array.getElem?_eq_some_iff.mp hv).1
      simpa using this
    have hv' : v = .str xs[i].1 xs[i].2 := by
      have := (Array.getElem?_eq_some_iff.mp hv).2
      simp at this
      exact this.symm
    subst hv'
    have hxi := hx xs[i] (List.getElem_mem hil)
    have htake : xs.take (i + 1) = xs.take i ++ [xs[i]] := by rw [List.take_add_one, List.getElem?_eq_getElem hil]; rfl
    have hvl : vs.length = i := by
      have := congrArg List.length e5
      simp at this; omega
    obtain ⟨p, hp⟩ : ∃ p, xs[i] = p := ⟨_, rfl⟩
    rw [hp] at hxi F2 htake
    obtain ⟨x, t⟩ := p
    dsimp only at hxi F2
    have F3 := Fr.put F2 (a := Str.ofString "accepted_values") (v := .ref lr) e1
    have N3 := ledX_news (N := s2.heap.objs.size) hl2 n2 hb0
    clear F2
    have hkeep : ∀ h' m' o', Fr s.heap s.heap.objs.size h' m' → News s.heap s.heap.objs.size h' ((lr, o') :: ledX s.heap s.heap.objs.size lr s2.heap.objs.size s2.heap) → ∀ o, s2.heap.get? it = some o → h'.get? it = some o := by
      intro h' m' o' F' N' o e
      exact ledX_keep F3 F' N' it o (Heap.lt_size e) hitL (Ne.symm n1) e
    iterate 10 walk1
    refine ⟨X.keeps F3.keep, ?_⟩
    refine check_ok (G0.keeps F3.keep) (by exact hh) (by show A.depth + 1 < 890; omega) hxi ?_
    intro s3 x3
    have F4 := x3.fr F3
    have N4 := x3.news N3
    have eos : s3.os = s.os := x3.os.trans e2
    have ebare : AllBare s.gens → AllBare s3.gens := fun q => x3.gens (e3 q)
    clear F3 N3
    have fin : ∀ h' tk' m' u n' , Fr s.heap s.heap.objs.size h' m' → News s.heap s.heap.objs.size h' ((lr, W.listOf (vs.toArray.push (.str (letIn x) u)) n') :: ledX s.heap s.heap.objs.size lr s2.heap.objs.size s2.heap) → m' (Str.ofString "accepted_values") = some (.ref lr) →
        (∃ m', Fr s.heap s.heap.objs.size h' m' ∧ m' (Str.ofString "accepted_values") = some (.ref lr) ∧ s3.os = s.os ∧ (AllBare s.gens → AllBare s3.gens) ∧ ∃ vs n, h'.get? lr = some (W.listOf (List.toArray vs) n) ∧ vs.map strOf = (xs.take (i + 1)).map (fun p => some (letIn p.1))) ∧ (∀ o, s2.heap.get? it = some o → ({ s3 with heap := h', toks := tk' } : Shared).heap.get? it = some o) := by
      intro h' tk' m' u n' F' N' em
      refine ⟨⟨m', F', em, eos, ebare, vs ++ [.str (letIn x) u], n', ?_, ?_⟩, hkeep h' m' _ F' N'⟩
      · have := (N' _ (.head _)).1
        simpa using this
      · rw [htake, List.map_append, List.map_append, e5]; rfl
    walk1
    cases hc : check x.cps.toList with
    | true =>
      have hlet : letIn x = x := by simp [letIn, hc]
      rw [hlet] at fin
      iterate 12 walk1
      refine append_K F4 N4 (.head ledX_ne) (fun h5 F5 N5 => ?_) (by rw [List.size_toArray, sizeLine_eq]; omega)
      walk1
      exact fin h5 _ _ _ _ F5 N5 rfl
    | false =>
      have hlet : letIn x = Str.ofString "('', '')" := by simp [letIn, hc]
      rw [hlet] at fin
      iterate 16 walk1
      rename_i h5 F5 N5
      refine append_K F5 N5 (.head ledX_ne) (fun h6 F6 N6 => ?_) (by rw [List.size_toArray, sizeLine_eq]; omega)
      walk1
      walk1
      exact fin h6 _ _ _ _ F6 N6 rfl
  · rintro m s2 F2 ⟨e1, e2, e3, vs, n, hl2, e5⟩
    have F3 := Fr.put F2 (a := Str.ofString "accepted_values") (v := .ref lr) e1
    clear F2
    rw [List.take_of_length_le (by simp)] at e5
    have hfin := h lr s2 vs n ⟨F3.keep, e2, e3⟩ hl2 e5 hb0
    have N3 : News s.heap s.heap.objs.size s2.heap [] := News.nil
    iterate 3 walk1
    exact hfin
end Mine
end TPre
section TClosed
open PySem PySem.W PyProof.Rows PySem.Spec
set_option maxRecDepth 100000
set_option maxHeartbeats 1000000
namespace Mine
set_option autoImplicit false
theorem refillK (w : World) : hd.heap_39 w.params = hd.heap_39 w.params ∧ PySem.Challenge.rw_pe0071_01.row.prog = PySem.Challenge.rw_pe0071_01.row.prog := by
  k_fill
  exact ⟨rfl, rfl⟩

section
variable {prog : Program} {w : World} {A : Around} {E : Value → Shared → Prop} {s : Shared}
theorem item_ch {value slice : Expr} {x : Str} {t u : Tok} {k c : Nat} {Q : Value → Shared → Prop} (hc : x.cps.toList[k]? = some c) (hz : x.cps.size ≤ 2 ^ 20)
    (h : Q (.str ⟨#[c]⟩ s.toks) { s with toks := s.toks + 1 })
    (hs : subscripted slice false (.str x t) (.int (k : Nat) u) = operate [.str x t, .int (k : Nat) u] (getItem (.str x t) (.int (k : Nat) u)) := by with_unfolding_all rfl)
    (ht : ∀ r, letTemporaryGo value (.str x t) r = pure () := by intro _; with_unfolding_all rfl) :
    wpAny (model prog w) A (subscriptTail value slice (.str x t) (.int (k : Nat) u)) Q E s := by
  have hk : k < x.cps.size := by
    have := (List.getElem?_eq_some_iff.mp hc).1
    simpa using this
  have hk' : (k : Int) < ((x.length : Nat) : Int) := by have : x.length = x.cps.size := rfl; omega
  refine subscriptTail_builtin (typeIs_str s x t) F.slot_str_getitem.lookup (P.getItem_str ?_ ?_ h) hs ht
  · have h1 : ¬ ((k : Int) < -(2 ^ 63 : Int)) := by omega
    have h2 : ¬ ((k : Int) ≥ 2 ^ 63) := by omega
    rw [decide_eq_false h1, decide_eq_false h2]; rfl
  · rw [PyProof.Rows.seqIndex_at (by omega) hk']
    simpa using hc
theorem item_bool {value slice : Expr} {l : Addr} {bs : List Bool} {u : Tok} {k : Nat} {b : Bool} {Q : Value → Shared → Prop} (hl : s.heap.IsList l (bs.map Value.bool).toArray) (hb : bs[k]? = some b) (hz : k ≤ 2 ^ 20) (h : Q (.bool b) s)
    (hs : subscripted slice false (.ref l) (.int (k : Nat) u) = operate [.ref l, .int (k : Nat) u] (getItem (.ref l) (.int (k : Nat) u)) := by with_unfolding_all rfl) :
    wpAny (model prog w) A (subscriptTail value slice (.ref l) (.int (k : Nat) u)) Q E s :=
  item_listR hl (by omega) (by omega) (by simp [hb]) h hs
end
theorem chr_beq {c d : Nat} {y : Str} (h : y = ⟨#[d]⟩) : ((⟨#[c]⟩ : Str) == y) = decide (c = d) := by
  subst h
  by_cases hc : c = d
  · subst hc; simp
  · rw [decide_eq_false hc, beq_eq_false_iff_ne]
    intro q; injection q with q; simp at q; exact hc q

theorem clF_step (h lo : Int) (c : Nat) (st : Bool) (r : List (Nat × Bool)) : clF h lo ((c, st) :: r) =
    clF (if st && c == 41 then (if st && c == 40 then h + 1 else h) - 1 else (if st && c == 40 then h + 1 else h)) (min lo (if st && c == 41 then (if st && c == 40 then h + 1 else h) - 1 else (if st && c == 40 then h + 1 else h))) (if c = 92 then r.drop 1 else r) := by
  by_cases h92 : c = 92
  · subst h92
    cases r with
    | nil => simp [clF]
    | cons _ _ => simp [clF]
  · rw [if_neg h92]
    conv => lhs; rw [clF.eq_def]
    simp only [if_neg h92]

theorem closed_ok {w : World} {A : Around} {s : Shared} {mg mb : Str → Option Value} (G : Gd w mg mb s.heap) (hh : A.handled = none) (hdp : A.depth < 880) {x : Str} {t : Tok} {b : Addr} {bs : List Bool} (hl : s.heap.IsList b (bs.map Value.bool).toArray)
    (hx : x.cps.size ≤ 1000) (hbs : bs.length = x.cps.size) {Q : Value → Shared → Prop} {E : Value → Shared → Prop}
    (h : ∀ s', Ext s s' → Q (.bool (decide ((clF 0 0 (x.cps.toList.zip bs)).1 = 0) && decide ((clF 0 0 (x.cps.toList.zip bs)).2 = 0))) s') :
    wpAny (model P w) A (call (.ref 116) [.str x t, .ref b]) Q E s := by
  have G0 := G
  refine enter [(Str.ofString "text", .str x t), (Str.ofString "stays", .ref b)] G (by simp only [recursionLimit]; omega) rfl (by k_is) rfl rfl ?_
  intro h₁ F
  have N : News s.heap s.heap.objs.size h₁ [] := News.nil
  obtain ⟨X, T⟩ := G
  iterate 13 walk1
  rename_i h1 F1 N1
  refine while_wp (fun n s' => ∃ (k : Nat) (m : Str → Option Value) (tk th tl : Tok) (hg lo : Int), n = x.cps.size + 1 - k ∧ s'.os = s.os ∧ s'.gens = s.gens ∧ Fr s.heap s.heap.objs.size s'.heap m ∧ m (Str.ofString "text") = some (.str x t) ∧ m (Str.ofString "stays") = some (.ref b) ∧
    m (Str.ofString "k") = some (.int (k : Nat) tk) ∧ m (Str.ofString "height") = some (.int hg th) ∧ m (Str.ofString "lowest") = some (.int lo tl) ∧ clF hg lo ((x.cps.toList.zip bs).drop k) = clF 0 0 (x.cps.toList.zip bs)) ?_ (x.cps.size + 1) ?_
  rotate_left
  · exact ⟨0, _, _, _, _, 0, 0, rfl, rfl, rfl, F1, rfl, rfl, rfl, rfl, rfl, rfl⟩
  clear F1 N1
  rintro n s1 ⟨k, m, tk, th, tl, hg, lo, rfl, hos, hgs, F2, m1, m2, m3, m4, m5, hrun⟩
  have F3 : Fr s.heap s.heap.objs.size s1.heap (fun y => if y = Str.ofString "lowest" then some (Value.int lo tl) else if y = Str.ofString "height" then some (Value.int hg th) else if y = Str.ofString "k" then some (Value.int (k : Nat) tk) else if y = Str.ofString "stays" then some (Value.ref b) else if y = Str.ofString "text" then some (Value.str x t) else m y) := by
    refine Fr.put (Fr.put (Fr.put (Fr.put (Fr.put F2 ?ka) ?kb) ?kc) ?kd) ?ke
    case ka => exact m1
    case kb => exact m2
    case kc => exact m3
    case kd => exact m4
    case ke => exact m5
  clear F2
  have N3 : News s.heap s.heap.objs.size s1.heap [] := News.nil
  have hlen : x.length = x.cps.size := rfl
  iterate 8 walk1
  refine PySem.P.len_str (by omega) ?_
  iterate 2 walk1
  by_cases hk : k < x.cps.size
  · rw [if_pos (by simpa [hlen] using hk)]
    obtain ⟨c, hc⟩ : ∃ c, x.cps.toList[k]? = some c := ⟨_, List.getElem?_eq_getElem (by simpa using hk)⟩
    obtain ⟨st, hst⟩ : ∃ st, bs[k]? = some st := ⟨_, List.getElem?_eq_getElem (by omega)⟩
    have hdrop : (x.cps.toList.zip bs).drop k = (c, st) :: (x.cps.toList.zip bs).drop (k + 1) := by
      have hz : (x.cps.toList.zip bs)[k]? = some (c, st) := by rw [List.getElem?_zip_eq_some]; exact ⟨hc, hst⟩
      obtain ⟨hlt, hz⟩ := List.getElem?_eq_some_iff.mp hz
      rw [List.drop_eq_getElem_cons hlt, hz]
    rw [hdrop] at hrun
    have hl1 : s1.heap.IsList b (bs.map Value.bool).toArray := let ⟨o, ho, r⟩ := hl; ⟨o, F3.keep b o ho, r⟩
    have q40 : ((⟨#[c]⟩ : Str) == Str.ofString "(") = decide (c = 40) := chr_beq (by decide +kernel)
    have q41 : ((⟨#[c]⟩ : Str) == Str.ofString ")") = decide (c = 41) := chr_beq (by decide +kernel)
    have q92 : ((⟨#[c]⟩ : Str) == Str.ofString "\\") = decide (c = 92) := chr_beq (by decide +kernel)
    have hI : Txt.item x (k : Int) = ⟨#[c]⟩ := item_meets (by omega) (by simpa using hc)
    have fin : ∀ h' tk' m' (k' : Nat) (tk2 th' tl' : Tok) (hg' lo' : Int), Fr s.heap s.heap.objs.size h' m' → m' (Str.ofString "text") = some (.str x t) → m' (Str.ofString "stays") = some (.ref b) →
        m' (Str.ofString "k") = some (.int (k' : Nat) tk2) → m' (Str.ofString "height") = some (.int hg' th') → m' (Str.ofString "lowest") = some (.int lo' tl') → k < k' → clF hg' lo' ((x.cps.toList.zip bs).drop k') = clF 0 0 (x.cps.toList.zip bs) →
        ∃ m_1, m_1 < x.cps.size + 1 - k ∧ ∃ (k : Nat) (m : Str → Option Value) (tk th tl : Tok) (hg lo : Int), m_1 = x.cps.size + 1 - k ∧ ({ s1 with heap := h', toks := tk' } : Shared).os = s.os ∧ ({ s1 with heap := h', toks := tk' } : Shared).gens = s.gens ∧ Fr s.heap s.heap.objs.size ({ s1 with heap := h', toks := tk' } : Shared).heap m ∧ m (Str.ofString "text") = some (.str x t) ∧ m (Str.ofString "stays") = some (.ref b) ∧
          m (Str.ofString "k") = some (.int (k : Nat) tk) ∧ m (Str.ofString "height") = some (.int hg th) ∧ m (Str.ofString "lowest") = some (.int lo tl) ∧ clF hg lo ((x.cps.toList.zip bs).drop k) = clF 0 0 (x.cps.toList.zip bs) := by
      intro h' tk' m' k' tk2 th' tl' hg' lo' F' e1 e2 e3 e4 e5 e6 e7
      exact ⟨x.cps.size + 1 - k', by omega, k', m', tk2, th', tl', hg', lo', rfl, hos, hgs, F', e1, e2, e3, e4, e5, e7⟩
    have hmin : ∀ a b : Int, (if b < a then b else a) = min a b := fun a b => by omega
    have hrun2 : clF (if st && c == 41 then (if st && c == 40 then hg + 1 else hg) - 1 else (if st && c == 40 then hg + 1 else hg)) (min lo (if st && c == 41 then (if st && c == 40 then hg + 1 else hg) - 1 else (if st && c == 40 then hg + 1 else hg))) ((x.cps.toList.zip bs).drop (if c = 92 then k + 2 else k + 1)) = clF 0 0 (x.cps.toList.zip bs) := by
      rw [← hrun, clF_step]
      by_cases h92 : c = 92
      · rw [if_pos h92, if_pos h92, List.drop_drop]
      · rw [if_neg h92, if_neg h92]
    clear hrun
    have hlK : ∀ h' m', Fr s.heap s.heap.objs.size h' m' → h'.IsList b (bs.map Value.bool).toArray := fun h' m' F' => let ⟨o, ho, r⟩ := hl; ⟨o, F'.keep b o ho, r⟩
    repeat walk1
    refine item_bool hl1 hst (by omega) ?_
    cases st with
    | false =>
      simp only [Bool.false_and, Bool.false_eq_true, if_false] at hrun2
      repeat walk1
      refine item_bool hl1 hst (by omega) ?_
      repeat walk1
      have FF := F3
      have NN := N3
      clear F3 N3
      refine min_two_N (by exact hh) FF NN ?_
      intro h4 t4 F4 N4
      rw [hmin]
      clear FF NN
      iterate 14 walk1
      rw [hI, q92]
      by_cases h92 : c = 92
      · rw [decide_eq_true h92, if_pos rfl]
        rw [if_pos h92] at hrun2
        iterate 4 walk1
        rename_i h9 F9 N9
        exact fin h9 _ _ (k + 2) _ _ _ _ _ F9 rfl rfl rfl rfl rfl (by omega) hrun2
      · rw [decide_eq_false h92, if_neg (by decide)]
        rw [if_neg h92] at hrun2
        iterate 4 walk1
        rename_i h9 F9 N9
        exact fin h9 _ _ (k + 1) _ _ _ _ _ F9 rfl rfl rfl rfl rfl (by omega) hrun2
    | true =>
      simp only [Bool.true_and, beq_iff_eq] at hrun2
      iterate 11 walk1
      rw [hI, q40]
      by_cases h40 : c = 40
      · have h41 : ¬ c = 41 := by omega
        rw [if_neg h41, if_pos h40] at hrun2
        rw [decide_eq_true h40, if_pos rfl]
        repeat walk1
        rename_i F5 N5
        refine item_bool (hlK _ _ F5) hst (by omega) ?_
        iterate 11 walk1
        rw [hI, q41, decide_eq_false h41, if_neg (by decide)]
        repeat walk1
        have FF := F5
        have NN := N5
        clear F5 N5
        refine min_two_N (by exact hh) FF NN ?_
        intro h4 t4 F4 N4
        rw [hmin]
        clear FF NN
        iterate 14 walk1
        rw [hI, q92]
        by_cases h92 : c = 92
        · rw [decide_eq_true h92, if_pos rfl]
          rw [if_pos h92] at hrun2
          iterate 4 walk1
          rename_i h9 F9 N9
          exact fin h9 _ _ (k + 2) _ _ _ _ _ F9 rfl rfl rfl rfl rfl (by omega) hrun2
        · rw [decide_eq_false h92, if_neg (by decide)]
          rw [if_neg h92] at hrun2
          iterate 4 walk1
          rename_i h9 F9 N9
          exact fin h9 _ _ (k + 1) _ _ _ _ _ F9 rfl rfl rfl rfl rfl (by omega) hrun2
      · rw [if_neg h40] at hrun2
        rw [decide_eq_false h40, if_neg (by decide)]
        repeat walk1
        refine item_bool (hlK _ _ F3) hst (by omega) ?_
        iterate 11 walk1
        rw [hI, q41]
        by_cases h41 : c = 41
        · rw [if_pos h41] at hrun2
          rw [decide_eq_true h41, if_pos rfl]
          repeat walk1
          rename_i F5 N5
          have FF := F5
          have NN := N5
          clear F5 N5
          refine min_two_N (by exact hh) FF NN ?_
          intro h4 t4 F4 N4
          rw [hmin]
          clear FF NN
          iterate 14 walk1
          rw [hI, q92]
          by_cases h92 : c = 92
          · rw [decide_eq_true h92, if_pos rfl]
            rw [if_pos h92] at hrun2
            iterate 4 walk1
            rename_i h9 F9 N9
            exact fin h9 _ _ (k + 2) _ _ _ _ _ F9 rfl rfl rfl rfl rfl (by omega) hrun2
          · rw [decide_eq_false h92, if_neg (by decide)]
            rw [if_neg h92] at hrun2
            iterate 4 walk1
            rename_i h9 F9 N9
            exact fin h9 _ _ (k + 1) _ _ _ _ _ F9 rfl rfl rfl rfl rfl (by omega) hrun2
        · rw [if_neg h41] at hrun2
          rw [decide_eq_false h41, if_neg (by decide)]
          repeat walk1
          have FF := F3
          have NN := N3
          clear F3 N3
          refine min_two_N (by exact hh) FF NN ?_
          intro h4 t4 F4 N4
          rw [hmin]
          clear FF NN
          iterate 14 walk1
          rw [hI, q92]
          by_cases h92 : c = 92
          · rw [decide_eq_true h92, if_pos rfl]
            rw [if_pos h92] at hrun2
            iterate 4 walk1
            rename_i h9 F9 N9
            exact fin h9 _ _ (k + 2) _ _ _ _ _ F9 rfl rfl rfl rfl rfl (by omega) hrun2
          · rw [decide_eq_false h92, if_neg (by decide)]
            rw [if_neg h92] at hrun2
            iterate 4 walk1
            rename_i h9 F9 N9
            exact fin h9 _ _ (k + 1) _ _ _ _ _ F9 rfl rfl rfl rfl rfl (by omega) hrun2
  · rw [if_neg (by simpa [hlen] using hk)]
    rw [List.drop_eq_nil_of_le (by simp; omega)] at hrun
    have hfin : ∀ tk, Q (.bool (decide ((clF 0 0 (x.cps.toList.zip bs)).1 = 0) && decide ((clF 0 0 (x.cps.toList.zip bs)).2 = 0))) { s1 with toks := tk } := fun tk => h _ ⟨F3.keep, hos, fun q => by show AllBare s1.gens; rw [hgs]; exact q⟩
    rw [← hrun] at hfin
    replace hfin : ∀ tk, Q (.bool (decide (hg = 0) && decide (lo = 0))) { s1 with toks := tk } := fun tk => hfin tk
    iterate 8 walk1
    by_cases h0 : hg = 0
    · subst h0
      rw [if_pos (by decide)]
      iterate 5 walk1
      have e : (lo == 0) = (decide ((0 : Int) = 0) && decide (lo = 0)) := by
        by_cases hl : lo = 0
        · subst hl; rfl
        · simp [hl]
      show Q (.bool (lo == 0)) _
      rw [e]
      exact hfin _
    · have e0 : (hg == 0) = false := by rw [beq_eq_false_iff_ne]; exact h0
      rw [e0] at *
      rw [if_neg (by decide)]
      show Q (.bool false) _
      have e : (decide (hg = 0) && decide (lo = 0)) = false := by simp [h0]
      rw [e] at hfin
      exact hfin _
end Mine
end TClosed
section TTold
open PySem PySem.W PyProof.Rows PySem.Spec
set_option maxRecDepth 100000
set_option maxHeartbeats 1000000
namespace Mine
set_option autoImplicit false
theorem refillT (w : World) : hd.heap_39 w.params = hd.heap_39 w.params ∧ PySem.Challenge.rw_pe0071_01.row.prog = PySem.Challenge.rw_pe0071_01.row.prog := by
  k_fill
  exact ⟨rfl, rfl⟩

/-- a sign as the law holds it: nothing at the text's beginning -/
def HoldsC (v : Value) (c : Nat) : Prop := ∃ y t, v = .str y t ∧ (y = ⟨#[c]⟩ ∨ (c = 10 ∧ y = Str.ofString ""))

section
variable {prog : Program} {w : World} {A : Around} {E : Value → Shared → Prop} {s : Shared}
theorem iter_of_range {r : Nat} {a b c : Int} {t u v : Tok} {n : Nat} {Q : Value → Shared → Prop} (hr : IsRange s.heap r a b c t u v) (hsm : Builtin.Range.small a b c = true) (hn : Builtin.Range.rangeSize a b c = n)
    (h : ∀ (it : Nat) h', IsRangeIter h' it a n c → s.heap.objs.size ≤ it → (∀ b o, s.heap.get? b = some o → h'.get? b = some o) → Q (.ref it) { s with heap := h' }) : wpAny (model prog w) A (pyIter (.ref r)) Q E s := by
  refine wpAny_pyIter_range hr hsm (h _ _ ?_ (Nat.le_refl _) fun b o e => Heap.get?_push_of_some _ e)
  rw [← hn]
  exact Heap.get?_push_size _ rfl
theorem range1_iter {n : Nat} {t : Tok} {Q : Value → Shared → Prop} (hn : n ≤ 2 ^ 20)
    (h : ∀ (it : Nat) h' tk, IsRangeIter h' it 0 n 1 → s.heap.objs.size ≤ it → (∀ b o, s.heap.get? b = some o → h'.get? b = some o) → Q (.ref it) { s with heap := h', toks := tk }) :
    wpAny (model prog w) A (call (.type "range") [.int (n : Nat) t]) (fun x s₁ => wpAny (model prog w) A (pyIter x) Q E s₁) E s := by
  refine call_range_1 ?_
  refine iter_of_range (n := n) (IsRange.new _ _ _ _ _ _ _) (small_one (by omega) (by omega) (by omega) (by omega)) ?_ fun it h' h1 h2 h3 => ?_
  · rw [rangeSize_one]; split <;> omega
  · have hz : (s.heap.push { cls := .type "range", data := .fields #[.int 0 s.toks, .int n t, .int 1 (s.toks + 1)] }).objs.size = s.heap.objs.size + 1 := Heap.size_push ..
    refine h it h' _ h1 ?_ (fun b o e => h3 b o (Heap.get?_push_of_some _ e))
    dsimp only at h2
    omega
end
/-- the names of the law's teller -/
structure TM (x : Str) (t : Tok) (b : Addr) (bf : Nat) (t1 : Tok) (sh : Bool) (af : Nat) (t2 : Tok) (lr : Nat) (vn vf : Value) (m : Str → Option Value) : Prop where
  text : m (Str.ofString "text") = some (.str x t)
  stays : m (Str.ofString "stays") = some (.ref b)
  before : m (Str.ofString "before") = some (.int (bf : Nat) t1)
  shorn : m (Str.ofString "shorn") = some (.bool sh)
  behind : m (Str.ofString "behind") = some (.int (af : Nat) t2)
  signs : m (Str.ofString "signs") = some (.ref lr)
  near : m (Str.ofString "near") = some vn
  far : m (Str.ofString "far") = some vf
theorem TM.fr {x : Str} {t : Tok} {b : Addr} {bf : Nat} {t1 : Tok} {sh : Bool} {af : Nat} {t2 : Tok} {lr : Nat} {vn vf : Value} {m : Str → Option Value} (M : TM x t b bf t1 sh af t2 lr vn vf m) {hb h : Heap} {L : Addr} (F : Fr hb L h m) :
    Fr hb L h (fun y => if y = Str.ofString "far" then some vf else if y = Str.ofString "near" then some vn else if y = Str.ofString "signs" then some (.ref lr) else if y = Str.ofString "behind" then some (.int (af : Nat) t2) else if y = Str.ofString "shorn" then some (.bool sh)
      else if y = Str.ofString "before" then some (.int (bf : Nat) t1) else if y = Str.ofString "stays" then some (.ref b) else if y = Str.ofString "text" then some (.str x t) else m y) := by
  refine Fr.put (Fr.put (Fr.put (Fr.put (Fr.put (Fr.put (Fr.put (Fr.put F ?k1) ?k2) ?k3) ?k4) ?k5) ?k6) ?k7) ?k8
  case k1 => exact M.text
  case k2 => exact M.stays
  case k3 => exact M.before
  case k4 => exact M.shorn
  case k5 => exact M.behind
  case k6 => exact M.signs
  case k7 => exact M.near
  case k8 => exact M.far

theorem any_three {y : Str} {c : Nat} (hy : y = ⟨#[c]⟩ ∨ (c = 10 ∧ y = Str.ofString "")) : ([Str.ofString "", Str.ofString "\x0d", Str.ofString "\n"].any fun x => x == y) = LS c := by
  have e0 : Str.ofString "" = ⟨#[]⟩ := by decide +kernel
  have e1 : Str.ofString "\x0d" = ⟨#[13]⟩ := by decide +kernel
  have e2 : Str.ofString "\n" = ⟨#[10]⟩ := by decide +kernel
  rcases hy with rfl | ⟨rfl, rfl⟩
  · rw [e0, e1, e2]
    have h0 : ((⟨#[]⟩ : Str) == ⟨#[c]⟩) = false := by rw [beq_eq_false_iff_ne]; intro q; injection q with q; simp at q
    have h1 : ((⟨#[13]⟩ : Str) == ⟨#[c]⟩) = (c == 13) := by
      rw [chr_beq rfl]
      by_cases h : c = 13
      · subst h; rfl
      · rw [decide_eq_false (Ne.symm h)]; symm; rw [beq_eq_false_iff_ne]; exact h
    have h2 : ((⟨#[10]⟩ : Str) == ⟨#[c]⟩) = (c == 10) := by
      rw [chr_beq rfl]
      by_cases h : c = 10
      · subst h; rfl
      · rw [decide_eq_false (Ne.symm h)]; symm; rw [beq_eq_false_iff_ne]; exact h
    simp only [List.any_cons, List.any_nil, h0, h1, h2, LS, Bool.false_or, Bool.or_false]
  · decide +kernel
theorem any_two (c : Nat) : ([Str.ofString "\x0d", Str.ofString "\n"].any fun x => x == ⟨#[c]⟩) = LS c := by
  have h := any_three (y := ⟨#[c]⟩) (c := c) (.inl rfl)
  have h0 : (Str.ofString "" == ⟨#[c]⟩) = false := by
    rw [show Str.ofString "" = ⟨#[]⟩ by decide +kernel, beq_eq_false_iff_ne]; intro q; injection q with q; simp at q
  rw [List.any_cons, h0, Bool.false_or] at h
  exact h

theorem mul_dots {n : Int} {k : Nat} (h : n = (k : Nat)) : Txt.mul (Str.ofString ".") n = ⟨(List.replicate k 46).toArray⟩ := by
  subst h
  rw [show Str.ofString "." = ⟨#[46]⟩ by decide +kernel]
  have := mul_one_list 46 (k : Int)
  rw [Int.toNat_natCast] at this
  rw [← this]
theorem app_led {prog : Program} {w : World} {A : Around} {E : Value → Shared → Prop} {s : Shared} {hb h0 : Heap} {L lr N0 : Nat} {m : Str → Option Value} {news : List (Addr × Obj)} {its : Array Value} {n : Nat} {x : Value} {Q : Value → Shared → Prop} (F : Fr hb L s.heap m) (N : News hb L s.heap news)
    (hm : ∀ p ∈ (lr, W.listOf its n) :: ledX hb L lr N0 h0, p ∈ news)
    (h : ∀ h', Fr hb L h' m → News hb L h' ((lr, W.listOf (its.push x) (n + 1)) :: ledX hb L lr N0 h0) → Q .none { s with heap := h' }) (hsz : its.size ≤ sizeLine) : wpAny (model prog w) A (call (.builtin "list.append") [.ref lr, x]) Q E s :=
  append_K F (fun p hp => N p (hm p hp) : News hb L s.heap ((lr, W.listOf its n) :: ledX hb L lr N0 h0)) (.head ledX_ne) h hsz

theorem cr_ne {y : Str} {c : Nat} (hy : y = ⟨#[c]⟩ ∨ (c = 10 ∧ y = Str.ofString "")) : (y != Str.ofString "\x0d") = decide (c ≠ 13) := by
  rcases hy with rfl | ⟨rfl, rfl⟩
  · rw [bne, chr_beq (d := 13) (by decide +kernel)]
    simp
  · decide +kernel

theorem emit_len (b a near far c : Nat) : (emit b a near far c).length ≤ 2 + b + a := by
  unfold emit
  split
  · rw [List.length_replicate]; split <;> split <;> omega
  · split
    · simp; omega
    · have h1 : ∀ p : Prop, [Decidable p] → ((if p then [13, 10] else ([] : List Nat)).length ≤ 2) := by
        intro p _
        split <;> simp
      have := h1 (c = 13 ∨ (if b > 0 then near else far) ≠ 13)
      omega
theorem told_len (b : Nat) (sh : Bool) (a : Nat) (l : List (Nat × Bool)) : ∀ near far, (told b sh a near far l).length ≤ (2 + b + a) * l.length := by
  induction l with
  | nil => intro near far; simp [told]
  | cons p r ih =>
    obtain ⟨c, st⟩ := p
    intro near far
    have h1 := emit_len b a near far c
    have h2 := ih c c
    have h3 := ih c far
    rw [told, List.length_cons, Nat.mul_succ]
    split
    · rw [List.length_append]; omega
    · omega

theorem told_ok {w : World} {A : Around} {s : Shared} {mg mb : Str → Option Value} (G : Gd w mg mb s.heap) (hh : A.handled = none) (hdp : A.depth < 880) {x : Str} {t t1 t2 : Tok} {b : Addr} {bs : List Bool} (hl : s.heap.IsList b (bs.map Value.bool).toArray)
    {bf af : Nat} {sh : Bool} (hbf : bf ≤ 10) (haf : af ≤ 10) (hx : x.cps.size ≤ 1000) (hbs : bs.length = x.cps.size) {Q : Value → Shared → Prop} {E : Value → Shared → Prop}
    (h : ∀ t' s', Ext s s' → Q (.str ⟨(told bf sh af 10 10 (x.cps.toList.zip bs)).toArray⟩ t') s') :
    wpAny (model P w) A (call (.ref 109) [.str x t, .ref b, .int (bf : Nat) t1, .bool sh, .int (af : Nat) t2]) Q E s := by
  have G0 := G
  refine enter [(Str.ofString "text", .str x t), (Str.ofString "stays", .ref b), (Str.ofString "before", .int (bf : Nat) t1), (Str.ofString "shorn", .bool sh), (Str.ofString "behind", .int (af : Nat) t2)] G (by simp only [recursionLimit]; omega) rfl (by k_is) rfl rfl ?_
  intro h₁ F
  have N : News s.heap s.heap.objs.size h₁ [] := News.nil
  obtain ⟨X, T⟩ := G
  iterate 4 walk1
  refine newList_N F N (fun h0 F0 N0 => ?_)
  have hlr : (s.heap.objs.size : Nat) < h₁.objs.size := F.ns.lt
  generalize hlrE : h₁.objs.size = lr at F0 N0 hlr ⊢
  clear F N
  iterate 11 walk1
  refine wpAny_For ?_
  iterate 10 walk1
  have hlen : x.length = x.cps.size := rfl
  refine PySem.P.len_str (by omega) ?_
  iterate 1 walk1
  rename_i h1 F1 N1
  have hl1 : h1.get? lr = some _ := (N1 _ (.head _)).1
  have hb0 : s.heap.get? lr = none := (N1 _ (.head _)).2.2
  have hs1 : (lr : Nat) < h1.objs.size := Heap.lt_size hl1
  rw [hlen]
  refine range1_iter (by omega) ?_
  intro it h2 tk2 hit hits hk2
  dsimp only at hits hk2
  have F2 : Fr s.heap s.heap.objs.size h2 _ := ⟨F1.ns.keeps hk2, fun b o e => hk2 b o (F1.keep b o e), F1.above⟩
  have hl2 := hk2 _ _ hl1
  have hitb : s.heap.get? it = none := Heap.get?_none_of_le (by have := F1.ns.lt; omega)
  have hitL : it ≠ s.heap.objs.size := by omega
  have n1 : lr ≠ it := by omega
  have n2 : lr ≠ s.heap.objs.size := by omega
  clear F1 N1
  refine range_loop (hb := s.heap) (by exact hh) rfl rfl hit hitL hitb (fun i m s' => s'.os = s.os ∧ s'.gens = s.gens ∧ ∃ vn vf near far ps n, TM x t b bf t1 sh af t2 lr vn vf m ∧ HoldsC vn near ∧ HoldsC vf far ∧
    s'.heap.get? lr = some (W.listOf (partsV 0 ps).toArray n) ∧ ps.length ≤ i ∧ partsL ps ++ told bf sh af near far ((x.cps.toList.zip bs).drop i) = told bf sh af 10 10 (x.cps.toList.zip bs)) ?_ ⟨_, F2, ?_⟩ ?_ ?_
  · rintro i m s' h' tk ⟨e1, e2, vn, vf, near, far, ps, n, e3, e4, e5, e6, e7, e8⟩ hk
    exact ⟨e1, e2, vn, vf, near, far, ps, n, e3, e4, e5, hk lr _ n1 n2 e6, e7, e8⟩
  · exact ⟨rfl, rfl, _, _, 10, 10, [], 0, ⟨rfl, rfl, rfl, rfl, rfl, rfl, rfl, rfl⟩, ⟨_, _, rfl, .inr ⟨rfl, rfl⟩⟩, ⟨_, _, rfl, .inr ⟨rfl, rfl⟩⟩, hl2, Nat.le_refl _, rfl⟩
  · clear F2 hl2 hit
    rintro i m tk s2 hi F2 ⟨hos, hgs, vn, vf, near, far, ps, n, hM, hn, hf, hl2, hps, hrun⟩ hits2
    have ei : (0 : Int) + (i : Nat) * 1 = ((i : Nat) : Int) := by omega
    rw [ei] at F2
    obtain ⟨c, hc⟩ : ∃ c, x.cps.toList[i]? = some c := ⟨_, List.getElem?_eq_getElem (by simpa using hi)⟩
    obtain ⟨st, hst⟩ : ∃ st, bs[i]? = some st := ⟨_, List.getElem?_eq_getElem (by omega)⟩
    have hdrop : (x.cps.toList.zip bs).drop i = (c, st) :: (x.cps.toList.zip bs).drop (i + 1) := by
      have hz : (x.cps.toList.zip bs)[i]? = some (c, st) := by rw [List.getElem?_zip_eq_some]; exact ⟨hc, hst⟩
      obtain ⟨hlt, hz⟩ := List.getElem?_eq_some_iff.mp hz
      rw [List.drop_eq_getElem_cons hlt, hz]
    rw [hdrop, told] at hrun
    have hI : Txt.item x (i : Int) = ⟨#[c]⟩ := item_meets (by omega) (by simpa using hc)
    have hM2 : TM x t b bf t1 sh af t2 lr vn vf (fun y => if y = Str.ofString "k" then some (.int ((i : Nat) : Int) tk) else m y) := ⟨hM.text, hM.stays, hM.before, hM.shorn, hM.behind, hM.signs, hM.near, hM.far⟩
    have F3 := hM2.fr F2
    have N3 := ledX_news (N := s2.heap.objs.size) hl2 n2 hb0
    clear F2
    have hkeep : ∀ h' m' o', Fr s.heap s.heap.objs.size h' m' → News s.heap s.heap.objs.size h' ((lr, o') :: ledX s.heap s.heap.objs.size lr s2.heap.objs.size s2.heap) → ∀ o, s2.heap.get? it = some o → h'.get? it = some o := by
      intro h' m' o' F' N' o e
      exact ledX_keep F3 F' N' it o (Heap.lt_size e) hitL (Ne.symm n1) e
    have hlK : ∀ h' m', Fr s.heap s.heap.objs.size h' m' → h'.IsList b (bs.map Value.bool).toArray := fun h' m' F' => let ⟨o, ho, r⟩ := hl; ⟨o, F'.keep b o ho, r⟩
    have fin : ∀ h' tk' m' vf' (far' : Nat) vn' ps' n', Fr s.heap s.heap.objs.size h' m' → News s.heap s.heap.objs.size h' ((lr, W.listOf (partsV 0 ps').toArray n') :: ledX s.heap s.heap.objs.size lr s2.heap.objs.size s2.heap) → TM x t b bf t1 sh af t2 lr vn' vf' m' → HoldsC vn' c → HoldsC vf' far' → ps'.length ≤ i + 1 →
        partsL ps' ++ told bf sh af c far' ((x.cps.toList.zip bs).drop (i + 1)) = told bf sh af 10 10 (x.cps.toList.zip bs) →
        (∃ m', Fr s.heap s.heap.objs.size ({ s2 with heap := h', toks := tk' } : Shared).heap m' ∧ ({ s2 with heap := h', toks := tk' } : Shared).os = s.os ∧ ({ s2 with heap := h', toks := tk' } : Shared).gens = s.gens ∧ ∃ vn vf near far ps n, TM x t b bf t1 sh af t2 lr vn vf m' ∧ HoldsC vn near ∧ HoldsC vf far ∧
          ({ s2 with heap := h', toks := tk' } : Shared).heap.get? lr = some (W.listOf (partsV 0 ps).toArray n) ∧ ps.length ≤ i + 1 ∧ partsL ps ++ told bf sh af near far ((x.cps.toList.zip bs).drop (i + 1)) = told bf sh af 10 10 (x.cps.toList.zip bs)) ∧
        (∀ o, s2.heap.get? it = some o → ({ s2 with heap := h', toks := tk' } : Shared).heap.get? it = some o) := by
      intro h' tk' m' vf' far' vn' ps' n' F' N' e1 e2 e3 e4 e5
      exact ⟨⟨m', F', hos, hgs, vn', vf', c, far', ps', n', e1, e2, e3, (N' _ (.head _)).1, e4, e5⟩, hkeep h' m' _ F' N'⟩
    iterate 7 walk1
    rename_i h4 F4 N4
    rw [hI] at F4
    iterate 2 walk1
    refine wpAny_mono (Q := fun bb s' => bb = (st || !sh) ∧ ∃ tk', s' = { s2 with heap := h4, toks := tk' }) ?_ (fun bb s' hq => ?_) (fun _ _ q => q)
    · repeat walk1
      refine item_bool (hlK _ _ F4) hst (by omega) ?_
      cases st with
      | true =>
        iterate 2 walk1
        all_goals exact ⟨rfl, _, rfl⟩
      | false =>
        cases sh with
        | true =>
          iterate 9 walk1
          exact ⟨rfl, _, rfl⟩
        | false =>
          iterate 8 walk1
          exact ⟨rfl, _, rfl⟩
    obtain ⟨rfl, tk4, rfl⟩ := hq
    cases hcond : (st || !sh) with
    | false =>
      rw [hcond] at hrun
      rw [if_neg (by decide)]
      simp only [Bool.false_eq_true, if_false] at hrun
      iterate 6 walk1
      rename_i h5 F5 N5
      exact fin h5 _ _ vf far _ ps n F5 N5 ⟨rfl, rfl, rfl, rfl, rfl, rfl, rfl, rfl⟩ ⟨_, _, rfl, .inl rfl⟩ hf (by omega) hrun
    | true =>
      rw [hcond] at hrun
      rw [if_pos rfl]
      simp only [if_true] at hrun
      iterate 1 walk1
      refine wpAny_mono (Q := fun f s' => f = .next ∧ ∃ h' tk' m' ps' n' tsg, s' = { s2 with heap := h', toks := tk' } ∧ Fr s.heap s.heap.objs.size h' m' ∧ News s.heap s.heap.objs.size h' ((lr, W.listOf (partsV 0 ps').toArray n') :: ledX s.heap s.heap.objs.size lr s2.heap.objs.size s2.heap) ∧
        TM x t b bf t1 sh af t2 lr vn vf m' ∧ m' (Str.ofString "sign") = some (.str ⟨#[c]⟩ tsg) ∧ ps'.length ≤ ps.length + 1 ∧ partsL ps' = partsL ps ++ emit bf af near far c) ?_ (fun f s' hq => ?_) (fun _ _ q => q)
      · obtain ⟨yn, tn, rfl, hyn⟩ := hn
        obtain ⟨yf, tf, rfl, hyf⟩ := hf
        have q46 : ((⟨#[c]⟩ : Str) == Str.ofString ".") = decide (c = 46) := chr_beq (by decide +kernel)
        have q13 : ((⟨#[c]⟩ : Str) == Str.ofString "\x0d") = decide (c = 13) := chr_beq (by decide +kernel)
        have q10 : ((⟨#[c]⟩ : Str) == Str.ofString "\n") = decide (c = 10) := chr_beq (by decide +kernel)
        have hsz : (partsV 0 ps).toArray.size ≤ sizeLine := by rw [List.size_toArray, sizeLine_eq]; simp [partsV]; omega
        have finI : ∀ h' tk' m' tt tsg n' (e : List Nat), Fr s.heap s.heap.objs.size h' m' → News s.heap s.heap.objs.size h' ((lr, W.listOf ((partsV 0 ps).toArray.push (.str ⟨e.toArray⟩ tt)) n') :: ledX s.heap s.heap.objs.size lr s2.heap.objs.size s2.heap) →
            TM x t b bf t1 sh af t2 lr (.str yn tn) (.str yf tf) m' → m' (Str.ofString "sign") = some (.str ⟨#[c]⟩ tsg) → e = emit bf af near far c →
            Flow.next = .next ∧ ∃ h'' tk'' m' ps' n' tsg, ({ s2 with heap := h', toks := tk' } : Shared) = { s2 with heap := h'', toks := tk'' } ∧ Fr s.heap s.heap.objs.size h'' m' ∧ News s.heap s.heap.objs.size h'' ((lr, W.listOf (partsV 0 ps').toArray n') :: ledX s.heap s.heap.objs.size lr s2.heap.objs.size s2.heap) ∧
              TM x t b bf t1 sh af t2 lr (.str yn tn) (.str yf tf) m' ∧ m' (Str.ofString "sign") = some (.str ⟨#[c]⟩ tsg) ∧ ps'.length ≤ ps.length + 1 ∧ partsL ps' = partsL ps ++ emit bf af near far c := by
          intro h' tk' m' tt tsg n' e F' N' M' hs' he
          have ep : (partsV 0 ps).toArray.push (.str ⟨e.toArray⟩ tt) = (partsV 0 (ps ++ [(e, tt)])).toArray := by simp [partsV, mkV]
          rw [ep] at N'
          exact ⟨rfl, h', tk', m', ps ++ [(e, tt)], n', tsg, rfl, F', N', M', hs', by simp, by simp [partsL, he]⟩
        iterate 6 walk1
        rw [q46]
        by_cases h46 : c = 46
        · rw [decide_eq_true h46, if_pos rfl]
          iterate 20 walk1
          rw [any_three hyn]
          cases hLn : LS near with
          | true =>
            rw [if_pos rfl]
            iterate 23 walk1
            rw [any_three hyf]
            cases hLf : LS far with
            | true =>
              rw [if_pos rfl]
              repeat walk1
              rename Fr _ _ _ _ => FF
              rename News _ _ _ _ => NN
              rw [mul_dots (k := 1 + bf + af) (by omega)]
              refine app_led FF NN (fun p hp => by first | exact hp | exact .tail _ hp | exact .tail _ (.tail _ hp)) (fun h8 F8 N8 => ?_) hsz
              iterate 2 walk1
              exact finI h8 _ _ _ _ _ _ F8 N8 ⟨rfl, rfl, rfl, rfl, rfl, rfl, rfl, rfl⟩ rfl (by simp [emit, h46, hLn, hLf])
            | false =>
              rw [if_neg (by decide)]
              repeat walk1
              rename Fr _ _ _ _ => FF
              rename News _ _ _ _ => NN
              rw [mul_dots (k := 1 + bf) (by omega)]
              refine app_led FF NN (fun p hp => by first | exact hp | exact .tail _ hp | exact .tail _ (.tail _ hp)) (fun h8 F8 N8 => ?_) hsz
              iterate 2 walk1
              exact finI h8 _ _ _ _ _ _ F8 N8 ⟨rfl, rfl, rfl, rfl, rfl, rfl, rfl, rfl⟩ rfl (by simp [emit, h46, hLn, hLf])
          | false =>
            rw [if_neg (by decide)]
            iterate 17 walk1
            rw [any_three hyf]
            cases hLf : LS far with
            | true =>
              rw [if_pos rfl]
              repeat walk1
              rename Fr _ _ _ _ => FF
              rename News _ _ _ _ => NN
              rw [mul_dots (k := 1 + af) (by omega)]
              refine app_led FF NN (fun p hp => by first | exact hp | exact .tail _ hp | exact .tail _ (.tail _ hp)) (fun h8 F8 N8 => ?_) hsz
              iterate 2 walk1
              exact finI h8 _ _ _ _ _ _ F8 N8 ⟨rfl, rfl, rfl, rfl, rfl, rfl, rfl, rfl⟩ rfl (by simp [emit, h46, hLn, hLf])
            | false =>
              rw [if_neg (by decide)]
              repeat walk1
              rename Fr _ _ _ _ => FF
              rename News _ _ _ _ => NN
              rw [show Str.ofString "." = ⟨[46].toArray⟩ by decide +kernel]
              refine app_led FF NN (fun p hp => by first | exact hp | exact .tail _ hp | exact .tail _ (.tail _ hp)) (fun h8 F8 N8 => ?_) hsz
              iterate 2 walk1
              exact finI h8 _ _ _ _ _ _ F8 N8 ⟨rfl, rfl, rfl, rfl, rfl, rfl, rfl, rfl⟩ rfl (by simp [emit, h46, hLn, hLf])
        · rw [decide_eq_false h46, if_neg (by decide)]
          iterate 15 walk1
          rw [any_two c]
          cases hLc : LS c with
          | false =>
            rw [if_pos (by decide), if_pos trivial]
            repeat walk1
            rename Fr _ _ _ _ => FF
            rename News _ _ _ _ => NN
            refine app_led FF NN (fun p hp => by first | exact hp | exact .tail _ hp | exact .tail _ (.tail _ hp)) (fun h8 F8 N8 => ?_) hsz
            iterate 3 walk1
            exact finI h8 _ _ _ _ _ [c] F8 N8 ⟨rfl, rfl, rfl, rfl, rfl, rfl, rfl, rfl⟩ rfl (by
              have hL : c ≠ 13 ∧ c ≠ 10 := by simpa [LS] using hLc
              rw [emit, if_neg h46, if_pos (.inl hL)])
          | true =>
            rw [if_neg (by decide)]
            iterate 9 walk1
            by_cases hz : bf + af = 0
            · have hz' : (((bf : Nat) : Int) + ((af : Nat) : Int) == 0) = true := by rw [beq_iff_eq]; omega
              rw [hz', if_pos rfl, if_pos rfl]
              repeat walk1
              rename Fr _ _ _ _ => FF
              rename News _ _ _ _ => NN
              refine app_led FF NN (fun p hp => by first | exact hp | exact .tail _ hp | exact .tail _ (.tail _ hp)) (fun h8 F8 N8 => ?_) hsz
              iterate 3 walk1
              exact finI h8 _ _ _ _ _ [c] F8 N8 ⟨rfl, rfl, rfl, rfl, rfl, rfl, rfl, rfl⟩ rfl (by rw [emit, if_neg h46, if_pos (.inr hz)])
            · have hz' : (((bf : Nat) : Int) + ((af : Nat) : Int) == 0) = false := by rw [beq_eq_false_iff_ne]; omega
              rw [hz', if_neg (by decide)]
              iterate 11 walk1
              rw [q13]
              have hap : ∀ tt, Value.str (Str.ofString "\x0d\n") tt = Value.str ⟨[13, 10].toArray⟩ tt := fun tt => by rw [crlf_is]
              by_cases h13 : c = 13
              · rw [decide_eq_true h13, if_pos rfl, if_pos rfl]
                repeat walk1
                rename Fr _ _ _ _ => FF
                rename News _ _ _ _ => NN
                rw [hap]
                refine app_led FF NN (fun p hp => by first | exact hp | exact .tail _ hp | exact .tail _ (.tail _ hp)) (fun h8 F8 N8 => ?_) hsz
                iterate 4 walk1
                exact finI h8 _ _ _ _ _ [13, 10] F8 N8 ⟨rfl, rfl, rfl, rfl, rfl, rfl, rfl, rfl⟩ rfl (by subst h13; simp [emit]; omega)
              · rw [decide_eq_false h13, if_neg (by decide)]
                have h10 : c = 10 := by
                  have : c = 13 ∨ c = 10 := by simpa [LS] using hLc
                  rcases this with q | q
                  · exact absurd q h13
                  · exact q
                have finN : ∀ h' tk' m' tsg n', Fr s.heap s.heap.objs.size h' m' → News s.heap s.heap.objs.size h' ((lr, W.listOf (partsV 0 ps).toArray n') :: ledX s.heap s.heap.objs.size lr s2.heap.objs.size s2.heap) →
                    TM x t b bf t1 sh af t2 lr (.str yn tn) (.str yf tf) m' → m' (Str.ofString "sign") = some (.str ⟨#[c]⟩ tsg) → emit bf af near far c = [] →
                    Flow.next = .next ∧ ∃ h'' tk'' m' ps' n' tsg, ({ s2 with heap := h', toks := tk' } : Shared) = { s2 with heap := h'', toks := tk'' } ∧ Fr s.heap s.heap.objs.size h'' m' ∧ News s.heap s.heap.objs.size h'' ((lr, W.listOf (partsV 0 ps').toArray n') :: ledX s.heap s.heap.objs.size lr s2.heap.objs.size s2.heap) ∧
                      TM x t b bf t1 sh af t2 lr (.str yn tn) (.str yf tf) m' ∧ m' (Str.ofString "sign") = some (.str ⟨#[c]⟩ tsg) ∧ ps'.length ≤ ps.length + 1 ∧ partsL ps' = partsL ps ++ emit bf af near far c := by
                  intro h' tk' m' tsg n' F' N' M' hs' he
                  exact ⟨rfl, h', tk', m', ps, n', tsg, rfl, F', N', M', hs', by omega, by rw [he, List.append_nil]⟩
                iterate 8 walk1
                by_cases hb0' : bf > 0
                · have hbz : decide (((bf : Nat) : Int) > 0) = true := by simp; omega
                  rw [hbz, if_pos rfl]
                  iterate 4 walk1
                  rw [cr_ne hyn]
                  by_cases hv : near = 13
                  · rw [decide_eq_false (by simpa using hv), if_neg (by decide)]
                    iterate 6 walk1
                    rename Fr _ _ _ _ => FF
                    rename News _ _ _ _ => NN
                    exact finN _ _ _ _ _ FF (fun p hp => NN p (by first | exact hp | exact .tail _ hp | exact .tail _ (.tail _ hp))) ⟨rfl, rfl, rfl, rfl, rfl, rfl, rfl, rfl⟩ rfl (by subst h10; simp [emit, hb0', hv]; omega)
                  · rw [decide_eq_true hv, if_pos rfl, if_pos rfl]
                    repeat walk1
                    rename Fr _ _ _ _ => FF
                    rename News _ _ _ _ => NN
                    rw [hap]
                    refine app_led FF NN (fun p hp => by first | exact hp | exact .tail _ hp | exact .tail _ (.tail _ hp)) (fun h8 F8 N8 => ?_) hsz
                    iterate 4 walk1
                    exact finI h8 _ _ _ _ _ [13, 10] F8 N8 ⟨rfl, rfl, rfl, rfl, rfl, rfl, rfl, rfl⟩ rfl (by subst h10; simp [emit, hb0', hv]; omega)
                · have hbz : decide (((bf : Nat) : Int) > 0) = false := by simp; omega
                  rw [hbz, if_neg (by decide)]
                  iterate 4 walk1
                  rw [cr_ne hyf]
                  by_cases hv : far = 13
                  · rw [decide_eq_false (by simpa using hv), if_neg (by decide)]
                    iterate 6 walk1
                    rename Fr _ _ _ _ => FF
                    rename News _ _ _ _ => NN
                    exact finN _ _ _ _ _ FF (fun p hp => NN p (by first | exact hp | exact .tail _ hp | exact .tail _ (.tail _ hp))) ⟨rfl, rfl, rfl, rfl, rfl, rfl, rfl, rfl⟩ rfl (by subst h10; simp [emit, hb0', hv]; omega)
                  · rw [decide_eq_true hv, if_pos rfl, if_pos rfl]
                    repeat walk1
                    rename Fr _ _ _ _ => FF
                    rename News _ _ _ _ => NN
                    rw [hap]
                    refine app_led FF NN (fun p hp => by first | exact hp | exact .tail _ hp | exact .tail _ (.tail _ hp)) (fun h8 F8 N8 => ?_) hsz
                    iterate 4 walk1
                    exact finI h8 _ _ _ _ _ [13, 10] F8 N8 ⟨rfl, rfl, rfl, rfl, rfl, rfl, rfl, rfl⟩ rfl (by subst h10; simp [emit, hb0', hv]; omega)
      · obtain ⟨rfl, h5, tk5, m5, ps5, n5, tsg, rfl, F5, N5, M5, e5, hl5, hp5⟩ := hq
        have F6 := Fr.put (M5.fr F5) (a := Str.ofString "sign") (v := .str ⟨#[c]⟩ tsg) e5
        clear F4 N4 F5
        iterate 10 walk1
        rename_i h7 F7 N7
        refine fin h7 _ _ _ c _ ps5 n5 F7 N7 ⟨rfl, rfl, rfl, rfl, rfl, rfl, rfl, rfl⟩ ⟨_, _, rfl, .inl rfl⟩ ⟨_, _, rfl, .inl rfl⟩ (by omega) ?_
        rw [hp5, ← hrun, List.append_assoc]
  · rintro m s2 F2 ⟨hos, hgs, vn, vf, near, far, ps, n, hM, hn, hf, hl2, hps, hrun⟩
    have F3 := hM.fr F2
    clear F2
    rw [List.drop_eq_nil_of_le (by simp; omega)] at hrun
    have hall : partsL ps = told bf sh af 10 10 (x.cps.toList.zip bs) := by rw [← hrun]; simp [told]
    have N3 : News s.heap s.heap.objs.size s2.heap [] := News.nil
    have hfin : ∀ t' tk, Q (.str ⟨(told bf sh af 10 10 (x.cps.toList.zip bs)).toArray⟩ t') { s2 with toks := tk } := fun t' tk => h t' _ ⟨F3.keep, hos, fun q => by show AllBare s2.gens; rw [hgs]; exact q⟩
    iterate 9 walk1
    refine join_wp hl2 ?_ fun t' tk' => ?_
    · rw [hall]
      have h1 := told_len bf sh af (x.cps.toList.zip bs) 10 10
      have h2 : (x.cps.toList.zip bs).length ≤ 1000 := by simp; omega
      have h3 : (2 + bf + af) * (x.cps.toList.zip bs).length ≤ 22 * 1000 := Nat.mul_le_mul (by omega) h2
      omega
    · rw [hall]; exact hfin _ _
end Mine
end TTold
section TStays1
namespace Mine
set_option autoImplicit false
/-- the places of the marks -/
def mks (k : Nat) : List Nat → List Nat
  | [] => []
  | c :: r => if c = 92 then (match r with | [] => [] | _ :: r' => mks (k + 2) r') else if c = 34 then k :: mks (k + 1) r else mks (k + 1) r
theorem mks_esc (k d : Nat) (r : List Nat) : mks k (92 :: d :: r) = mks (k + 2) r := by simp [mks]
theorem mks_mark (k : Nat) (r : List Nat) : mks k (34 :: r) = k :: mks (k + 1) r := by rw [mks.eq_def]; simp
theorem mks_one (k : Nat) {c : Nat} (r : List Nat) (h : c ≠ 92) (h' : c ≠ 34) : mks k (c :: r) = mks (k + 1) r := by rw [mks.eq_def]; simp [h, h']
def inP (i : Nat) : List Nat → Bool
  | a :: b :: r => (decide (a ≤ i) && decide (i ≤ b)) || inP i r
  | _ => false
def clrN (a : Nat) : Nat → List Bool → List Bool
  | 0, bs => bs
  | k + 1, bs => (clrN a k bs).set (a + k) false
def cover : List Nat → List Bool → List Bool
  | a :: b :: r, bs => cover r (clrN a (b + 1 - a) bs)
  | _, bs => bs
theorem clrN_get (a k : Nat) (bs : List Bool) (i : Nat) (h : i < bs.length) : (clrN a k bs)[i]? = if a ≤ i ∧ i < a + k then some false else bs[i]? := by
  induction k with
  | zero => rw [clrN, if_neg (by omega)]
  | succ k ih =>
    have hl : ∀ k, (clrN a k bs).length = bs.length := by intro k; induction k with | zero => rfl | succ k ih => rw [clrN, List.length_set, ih]
    rw [clrN, List.getElem?_set]
    by_cases hk : a + k = i
    · rw [if_pos hk, if_pos (by rw [hl]; omega), if_pos (by omega)]
    · rw [if_neg hk, ih]
      by_cases hq : a ≤ i ∧ i < a + k
      · rw [if_pos hq, if_pos (by omega)]
      · rw [if_neg hq, if_neg (by omega)]
theorem clrN_len (a k : Nat) (bs : List Bool) : (clrN a k bs).length = bs.length := by induction k with | zero => rfl | succ k ih => rw [clrN, List.length_set, ih]
theorem cover_len : ∀ (ms : List Nat) (bs : List Bool), (cover ms bs).length = bs.length
  | a :: b :: r, bs => by rw [cover, cover_len r, clrN_len]
  | [], bs => rfl
  | [_], bs => rfl
theorem cover_get : ∀ (ms : List Nat) (bs : List Bool) (i : Nat), i < bs.length → (cover ms bs)[i]? = if inP i ms then some false else bs[i]?
  | a :: b :: r, bs, i, h => by
    rw [cover, cover_get r _ i (by rw [clrN_len]; exact h), clrN_get _ _ _ _ h, inP]
    cases hr : inP i r with
    | true => simp
    | false =>
      simp only [Bool.false_eq_true, if_false, Bool.or_false, Bool.and_eq_true, decide_eq_true_eq]
      by_cases hq : a ≤ i ∧ i ≤ b
      · rw [if_pos hq, if_pos (by omega)]
      · rw [if_neg hq, if_neg (by omega)]
  | [], bs, i, h => by simp [cover, inP]
  | [_], bs, i, h => by simp [cover, inP]
theorem mks_ge (l : List Nat) : ∀ k, ∀ p ∈ mks k l, k ≤ p ∧ p < k + l.length := by
  induction l using text_ind with
  | nil => intro k p hp; simp [mks] at hp
  | lone => intro k p hp; simp [mks] at hp
  | esc d r ih => intro k p hp; rw [mks_esc] at hp; have := ih _ p hp; simp; omega
  | one c r hc ih =>
    intro k p hp
    by_cases h : c = 34
    · subst h
      rw [mks_mark] at hp
      rcases List.mem_cons.mp hp with rfl | hp
      · simp
      · have := ih _ p hp; simp; omega
    · rw [mks_one k r hc h] at hp; have := ih _ p hp; simp; omega
theorem mks_sorted (l : List Nat) : ∀ k, (mks k l).Pairwise (· < ·) := by
  induction l using text_ind with
  | nil => intro k; simp [mks]
  | lone => intro k; simp [mks]
  | esc d r ih => intro k; rw [mks_esc]; exact ih _
  | one c r hc ih =>
    intro k
    by_cases h : c = 34
    · subst h
      rw [mks_mark]
      exact List.Pairwise.cons (fun p hp => by have := (mks_ge r (k + 1) p hp).1; omega) (ih _)
    · rw [mks_one k r hc h]; exact ih _
theorem inP_lt : ∀ (ms : List Nat) (i : Nat), (∀ p ∈ ms, i < p) → inP i ms = false
  | a :: b :: r, i, h => by
    rw [inP, inP_lt r i fun p hp => h p (by simp [hp])]
    have := h a (by simp)
    simp; omega
  | [], i, h => rfl
  | [_], i, h => rfl
theorem mks_none {l : List Nat} : ∀ k, hasMark l = false → mks k l = [] := by
  induction l using text_ind with
  | nil => intro k _; rfl
  | lone => intro k _; simp [mks]
  | esc d r ih => intro k h; rw [hasMark_esc] at h; rw [mks_esc]; exact ih _ h
  | one c r hc ih =>
    intro k h
    rw [hasMark_one r hc] at h
    split at h
    · cases h
    · rename_i h'; rw [mks_one k r hc h']; exact ih _ h
theorem mks_some {l : List Nat} : ∀ k, hasMark l = true → ∃ b r, mks k l = b :: r := by
  induction l using text_ind with
  | nil => intro k h; cases h
  | lone => intro k h; cases h
  | esc d r ih => intro k h; rw [hasMark_esc] at h; rw [mks_esc]; exact ih _ h
  | one c r hc ih =>
    intro k h
    rw [hasMark_one r hc] at h
    by_cases h' : c = 34
    · subst h'; rw [mks_mark]; exact ⟨_, _, rfl⟩
    · rw [if_neg h'] at h; rw [mks_one k r hc h']; exact ih _ h
theorem inP_cons_gt {k0 b i : Nat} {r : List Nat} (h : i > b) : inP i (k0 :: b :: r) = inP i r := by rw [inP]; simp; omega
theorem inP_cons_in {k0 b i : Nat} {r : List Nat} (h : k0 ≤ i) (h' : i ≤ b) : inP i (k0 :: b :: r) = true := by rw [inP]; simp [h, h']
theorem ann_in (l : List Nat) : ∀ k, (∀ i, i < l.length → (ann false l)[i]? = some (!inP (k + i) (mks k l))) ∧
    (hasMark l = true → ∀ k0, k0 ≤ k → ∀ i, i < l.length → (ann true l)[i]? = some (!inP (k + i) (k0 :: mks k l))) := by
  induction l using text_ind with
  | nil => intro k; exact ⟨fun i h => by simp at h, fun h => by cases h⟩
  | lone =>
    intro k
    refine ⟨fun i h => ?_, fun h => by cases h⟩
    have : i = 0 := by simp at h; exact h
    subst this
    simp [ann, mks, inP]
  | esc d r ih =>
    intro k
    obtain ⟨h1, h2⟩ := ih (k + 2)
    have hge := mks_ge r (k + 2)
    refine ⟨fun i h => ?_, fun hm k0 hk i h => ?_⟩
    · rw [ann_esc, mks_esc]
      match i with
      | 0 => rw [inP_lt _ _ fun p hp => by have := (hge p hp).1; omega]; rfl
      | 1 => rw [inP_lt _ _ fun p hp => by have := (hge p hp).1; omega]; rfl
      | i + 2 =>
        have := h1 i (by simp at h; omega)
        rw [show k + (i + 2) = k + 2 + i by omega]
        exact this
    · rw [hasMark_esc] at hm
      rw [ann_esc, mks_esc]
      obtain ⟨b, ms, hb⟩ := mks_some (k + 2) hm
      have hb1 := (hge b (by rw [hb]; simp)).1
      match i with
      | 0 => rw [hb, inP_cons_in (by omega) (by omega)]; rfl
      | 1 => rw [hb, inP_cons_in (by omega) (by omega)]; rfl
      | i + 2 =>
        have := h2 hm k0 (by omega) i (by simp at h; omega)
        rw [show k + (i + 2) = k + 2 + i by omega]
        exact this
  | one c r hc ih =>
    intro k
    obtain ⟨h1, h2⟩ := ih (k + 1)
    have hge := mks_ge r (k + 1)
    by_cases h34 : c = 34
    · subst h34
      refine ⟨fun i h => ?_, fun hm k0 hk i h => ?_⟩
      · rw [ann_mark, mks_mark]
        simp only [Bool.false_eq_true, if_false]
        cases hr : hasMark r with
        | true =>
          simp only [if_true]
          obtain ⟨b, ms, hb⟩ := mks_some (k + 1) hr
          have hb1 := (hge b (by rw [hb]; simp)).1
          match i with
          | 0 => rw [hb, inP_cons_in (by omega) (by omega)]; rfl
          | i + 1 =>
            have := h2 hr k (by omega) i (by simp at h; omega)
            rw [show k + (i + 1) = k + 1 + i by omega]
            exact this
        | false =>
          simp only [Bool.false_eq_true, if_false]
          have hn := mks_none (k + 1) hr
          match i with
          | 0 => rw [hn]; rfl
          | i + 1 =>
            have := h1 i (by simp at h; omega)
            rw [hn] at this ⊢
            exact this
      · rw [ann_mark, mks_mark]
        simp only [if_true]
        match i with
        | 0 => rw [inP_cons_in (by omega) (by omega)]; rfl
        | i + 1 =>
          have := h1 i (by simp at h; omega)
          rw [inP_cons_gt (by omega), show k + (i + 1) = k + 1 + i by omega]
          exact this
    · refine ⟨fun i h => ?_, fun hm k0 hk i h => ?_⟩
      · rw [ann_one false r hc h34, mks_one k r hc h34]
        match i with
        | 0 => rw [inP_lt _ _ fun p hp => by have := (hge p hp).1; omega]; rfl
        | i + 1 =>
          have := h1 i (by simp at h; omega)
          rw [show k + (i + 1) = k + 1 + i by omega]
          exact this
      · rw [hasMark_plain c r hc h34] at hm
        rw [ann_one true r hc h34, mks_one k r hc h34]
        obtain ⟨b, ms, hb⟩ := mks_some (k + 1) hm
        have hb1 := (hge b (by rw [hb]; simp)).1
        match i with
        | 0 => rw [hb, inP_cons_in (by omega) (by omega)]; rfl
        | i + 1 =>
          have := h2 hm k0 (by omega) i (by simp at h; omega)
          rw [show k + (i + 1) = k + 1 + i by omega]
          exact this
theorem cover_ann (l : List Nat) : cover (mks 0 l) (List.replicate l.length true) = ann false l := by
  refine List.ext_getElem? fun i => ?_
  by_cases h : i < l.length
  · rw [cover_get _ _ _ (by simpa using h), (ann_in l 0).1 i h, Nat.zero_add, List.getElem?_replicate, if_pos h]
    cases inP i (mks 0 l) <;> rfl
  · rw [List.getElem?_eq_none (by rw [cover_len]; simpa using h), List.getElem?_eq_none (by rw [ann_length]; omega)]
end Mine
end TStays1
section TStays2
open PySem PySem.W PyProof.Rows PySem.Spec
set_option maxRecDepth 100000
set_option maxHeartbeats 1000000
namespace Mine
set_option autoImplicit false
theorem refillY (w : World) : hd.heap_39 w.params = hd.heap_39 w.params ∧ PySem.Challenge.rw_pe0071_01.row.prog = PySem.Challenge.rw_pe0071_01.row.prog := by
  k_fill
  exact ⟨rfl, rfl⟩
def natsV (ps : List (Nat × Tok)) : List Value := ps.map fun p => Value.int (p.1 : Nat) p.2
theorem mks_step (k : Nat) {c : Nat} (r : List Nat) : mks k (c :: r) = (if c = 34 then [k] else []) ++ (if c = 92 then mks (k + 2) (r.drop 1) else mks (k + 1) r) := by
  by_cases h92 : c = 92
  · subst h92
    cases r with
    | nil => simp [mks]
    | cons d r => simp [mks_esc]
  · by_cases h34 : c = 34
    · subst h34; rw [mks_mark]; simp
    · rw [mks_one k r h92 h34]; simp [h92, h34]

section
variable {prog : Program} {w : World} {A : Around} {E : Value → Shared → Prop} {s : Shared}
theorem range2_iter {a b : Nat} {t u : Tok} {Q : Value → Shared → Prop} (ha : a ≤ 2 ^ 20) (hb : b ≤ 2 ^ 20)
    (h : ∀ (it : Nat) h' tk, IsRangeIter h' it (a : Nat) ((b - a : Nat) : Int) 1 → s.heap.objs.size ≤ it → (∀ b o, s.heap.get? b = some o → h'.get? b = some o) → Q (.ref it) { s with heap := h', toks := tk }) :
    wpAny (model prog w) A (call (.type "range") [.int (a : Nat) t, .int (b : Nat) u]) (fun x s₁ => wpAny (model prog w) A (pyIter x) Q E s₁) E s := by
  refine call_range_2 ?_
  refine iter_of_range (n := b - a) (IsRange.new _ _ _ _ _ _ _) (small_one (by omega) (by omega) (by omega) (by omega)) ?_ fun it h' h1 h2 h3 => ?_
  · rw [rangeSize_one]; split <;> omega
  · have hz : (s.heap.push { cls := .type "range", data := .fields #[.int a t, .int b u, .int 1 s.toks] }).objs.size = s.heap.objs.size + 1 := Heap.size_push ..
    refine h it h' _ h1 ?_ (fun b o e => h3 b o (Heap.get?_push_of_some _ e))
    dsimp only at h2
    omega
theorem range3_iter {b : Nat} {t u v : Tok} {Q : Value → Shared → Prop} (hb : b ≤ 2 ^ 20)
    (h : ∀ (it : Nat) h' tk, IsRangeIter h' it 1 ((b / 2 : Nat) : Int) 2 → s.heap.objs.size ≤ it → (∀ b o, s.heap.get? b = some o → h'.get? b = some o) → Q (.ref it) { s with heap := h', toks := tk }) :
    wpAny (model prog w) A (call (.type "range") [.int 1 t, .int (b : Nat) u, .int 2 v]) (fun x s₁ => wpAny (model prog w) A (pyIter x) Q E s₁) E s := by
  have hsz : Builtin.Range.rangeSize 1 (b : Nat) 2 = ((b / 2 : Nat) : Int) := by
    unfold Builtin.Range.rangeSize
    rw [if_pos (by decide)]
    split <;> omega
  refine call_range_3 (by decide) ?_ (.inl (PyProof.noPylong_small (by omega)))
  refine iter_of_range (n := b / 2) (IsRange.new _ _ _ _ _ _ _) ?_ hsz fun it h' h1 h2 h3 => ?_
  · have fit : ∀ z : Int, 0 ≤ z → z ≤ 2097152 → Builtin.Range.rangeFitsLong z = true := by
      intro z h1 h2
      unfold Builtin.Range.rangeFitsLong
      simp only [Bool.and_eq_true, decide_eq_true_eq]
      omega
    unfold Builtin.Range.small
    rw [hsz, fit 1 (by omega) (by omega), fit 2 (by omega) (by omega), fit (b : Nat) (by omega) (by omega), fit ((b / 2 : Nat) : Int) (by omega) (by omega), if_pos (by decide), fit ((b : Nat) + (2 - 1)) (by omega) (by omega)]
    simp
  · have hz : (s.heap.push { cls := .type "range", data := .fields #[.int 1 t, .int b u, .int 2 v] }).objs.size = s.heap.objs.size + 1 := Heap.size_push ..
    refine h it h' _ h1 ?_ (fun b o e => h3 b o (Heap.get?_push_of_some _ e))
    dsimp only at h2
    omega
end

theorem mks_len (l : List Nat) : ∀ k, (mks k l).length ≤ l.length := by
  induction l using text_ind with
  | nil => intro k; simp [mks]
  | lone => intro k; simp [mks]
  | esc d r ih => intro k; rw [mks_esc]; have := ih (k + 2); simp; omega
  | one c r hc ih =>
    intro k
    have := ih (k + 1)
    by_cases h : c = 34
    · subst h; rw [mks_mark]; simp; omega
    · rw [mks_one k r hc h]; simp; omega
theorem stays_ok {w : World} {A : Around} {s : Shared} {mg mb : Str → Option Value} (G : Gd w mg mb s.heap) (hh : A.handled = none) (hdp : A.depth < 880) {x : Str} {t : Tok}
    (hx : x.cps.size ≤ 100) {Q : Value → Shared → Prop} {E : Value → Shared → Prop}
    (h : ∀ (ls : Nat) s', Ext s s' → s'.heap.IsList ls ((ann false x.cps.toList).map Value.bool).toArray → s.heap.get? ls = none → Q (.ref ls) s') :
    wpAny (model P w) A (call (.ref 102) [.str x t]) Q E s := by
  have G0 := G
  refine enter [(Str.ofString "text", .str x t)] G (by simp only [recursionLimit]; omega) rfl (by k_is) rfl rfl ?_
  intro h₁ F
  have N : News s.heap s.heap.objs.size h₁ [] := News.nil
  obtain ⟨X, T⟩ := G
  iterate 4 walk1
  refine newList_N F N (fun h0 F0 N0 => ?_)
  have hlr : (s.heap.objs.size : Nat) < h₁.objs.size := F.ns.lt
  generalize hlrE : h₁.objs.size = lm at F0 N0 hlr ⊢
  clear F N
  iterate 7 walk1
  rename_i h1 F1 N1
  have hl1 : h1.get? lm = some _ := (N1 _ (.head _)).1
  have hb0 : s.heap.get? lm = none := (N1 _ (.head _)).2.2
  have n2 : lm ≠ s.heap.objs.size := by omega
  refine while_wp (fun n s' => ∃ (k : Nat) (m : Str → Option Value) (tk : Tok) (ps : List (Nat × Tok)) (nn : Nat), n = x.cps.size + 1 - k ∧ s'.os = s.os ∧ s'.gens = s.gens ∧ Fr s.heap s.heap.objs.size s'.heap m ∧ m (Str.ofString "text") = some (.str x t) ∧ m (Str.ofString "marks") = some (.ref lm) ∧
    m (Str.ofString "k") = some (.int (k : Nat) tk) ∧ s'.heap.get? lm = some (W.listOf (natsV ps).toArray nn) ∧ ps.length ≤ k ∧ ps.map (·.1) ++ mks k (x.cps.toList.drop k) = mks 0 x.cps.toList) ?_ (x.cps.size + 1) ?_
  rotate_left
  · exact ⟨0, _, _, [], 0, rfl, rfl, rfl, F1, rfl, rfl, rfl, hl1, Nat.le_refl _, rfl⟩
  clear F1 N1
  rintro n s1 ⟨k, m, tk0, ps, nn, rfl, hos, hgs, F2, m1, m2, m3, hl2, hpk, hrun⟩
  have F3 : Fr s.heap s.heap.objs.size s1.heap (fun y => if y = Str.ofString "k" then some (Value.int (k : Nat) tk0) else if y = Str.ofString "marks" then some (Value.ref lm) else if y = Str.ofString "text" then some (Value.str x t) else m y) := by
    refine Fr.put (Fr.put (Fr.put F2 ?ka) ?kb) ?kc
    case ka => exact m1
    case kb => exact m2
    case kc => exact m3
  clear F2
  have N3 := ledX_news (N := 0) hl2 n2 hb0
  have hlen : x.length = x.cps.size := rfl
  iterate 8 walk1
  refine PySem.P.len_str (by omega) ?_
  iterate 2 walk1
  by_cases hk : k < x.cps.size
  · rw [if_pos (by simpa [hlen] using hk)]
    obtain ⟨c, hc⟩ : ∃ c, x.cps.toList[k]? = some c := ⟨_, List.getElem?_eq_getElem (by simpa using hk)⟩
    have hdrop : x.cps.toList.drop k = c :: x.cps.toList.drop (k + 1) := by
      obtain ⟨hlt, hz⟩ := List.getElem?_eq_some_iff.mp hc
      rw [List.drop_eq_getElem_cons hlt, hz]
    rw [hdrop, mks_step, List.drop_drop] at hrun
    have hI : Txt.item x (k : Int) = ⟨#[c]⟩ := item_meets (by omega) (by simpa using hc)
    have q34 : ((⟨#[c]⟩ : Str) == Str.ofString "\"") = decide (c = 34) := chr_beq (by decide +kernel)
    have q92 : ((⟨#[c]⟩ : Str) == Str.ofString "\\") = decide (c = 92) := chr_beq (by decide +kernel)
    have fin : ∀ h' tk' m' (k' : Nat) (tk2 : Tok) (ps' : List (Nat × Tok)) (nn' : Nat), Fr s.heap s.heap.objs.size h' m' → m' (Str.ofString "text") = some (.str x t) → m' (Str.ofString "marks") = some (.ref lm) →
        m' (Str.ofString "k") = some (.int (k' : Nat) tk2) → h'.get? lm = some (W.listOf (natsV ps').toArray nn') → k < k' → ps'.length ≤ k' → ps'.map (·.1) ++ mks k' (x.cps.toList.drop k') = mks 0 x.cps.toList →
        ∃ m_1, m_1 < x.cps.size + 1 - k ∧ ∃ (k : Nat) (m : Str → Option Value) (tk : Tok) (ps : List (Nat × Tok)) (nn : Nat), m_1 = x.cps.size + 1 - k ∧ ({ s1 with heap := h', toks := tk' } : Shared).os = s.os ∧ ({ s1 with heap := h', toks := tk' } : Shared).gens = s.gens ∧ Fr s.heap s.heap.objs.size ({ s1 with heap := h', toks := tk' } : Shared).heap m ∧ m (Str.ofString "text") = some (.str x t) ∧ m (Str.ofString "marks") = some (.ref lm) ∧
          m (Str.ofString "k") = some (.int (k : Nat) tk) ∧ ({ s1 with heap := h', toks := tk' } : Shared).heap.get? lm = some (W.listOf (natsV ps).toArray nn) ∧ ps.length ≤ k ∧ ps.map (·.1) ++ mks k (x.cps.toList.drop k) = mks 0 x.cps.toList := by
      intro h' tk' m' k' tk2 ps' nn' F' e1 e2 e3 e4 e5 e6 e7
      exact ⟨x.cps.size + 1 - k', by omega, k', m', tk2, ps', nn', rfl, hos, hgs, F', e1, e2, e3, e4, e6, e7⟩
    iterate 10 walk1
    rw [hI, q34]
    by_cases h34 : c = 34
    · rw [decide_eq_true h34, if_pos rfl]
      rw [if_pos h34, if_neg (by omega)] at hrun
      repeat walk1
      refine app_led F3 N3 (fun p hp => hp) (fun h8 F8 N8 => ?_) (by rw [List.size_toArray, sizeLine_eq]; simp [natsV]; omega)
      clear F3 N3
      iterate 14 walk1
      rw [hI, q92, decide_eq_false (by omega), if_neg (by decide)]
      iterate 4 walk1
      rename Fr _ _ _ _ => FF
      rename News _ _ _ _ => NN
      refine fin _ _ _ (k + 1) _ (ps ++ [(k, tk0)]) (nn + 1) FF rfl rfl rfl ?_ (by omega) (by simp; omega) ?_
      · have := (NN _ (.head _)).1
        simpa [natsV] using this
      · rw [← hrun]; simp
    · rw [decide_eq_false h34, if_neg (by decide)]
      rw [if_neg h34] at hrun
      iterate 14 walk1
      rw [hI, q92]
      by_cases h92 : c = 92
      · rw [decide_eq_true h92, if_pos rfl]
        rw [if_pos h92] at hrun
        iterate 4 walk1
        rename Fr _ _ _ _ => FF
        rename News _ _ _ _ => NN
        exact fin _ _ _ (k + 2) _ ps _ FF rfl rfl rfl (NN _ (.head _)).1 (by omega) (by omega) hrun
      · rw [decide_eq_false h92, if_neg (by decide)]
        rw [if_neg h92] at hrun
        iterate 4 walk1
        rename Fr _ _ _ _ => FF
        rename News _ _ _ _ => NN
        exact fin _ _ _ (k + 1) _ ps _ FF rfl rfl rfl (NN _ (.head _)).1 (by omega) (by omega) hrun
  · rw [if_neg (by simpa [hlen] using hk)]
    have hms : ps.map (·.1) = mks 0 x.cps.toList := by
      rw [← hrun, List.drop_eq_nil_of_le (by simp; omega)]
      simp [mks]
    clear hrun hk
    have hpl : ps.length ≤ 100 := by
      have h1 := congrArg List.length hms
      have h2 := mks_len x.cps.toList 0
      rw [List.length_map] at h1
      have h3 : x.cps.toList.length = x.cps.size := Array.length_toList
      rw [h3] at h2
      rw [h1]
      exact Nat.le_trans h2 hx
    iterate 15 walk1
    rename Fr _ _ _ _ => FF
    rename News _ _ _ _ => NN
    refine KMa.mul (vs := [Value.bool true]) (x := ((x.length : Nat) : Int)) (ws := (List.replicate x.cps.size true).map Value.bool) FF NN ⟨_, (NN _ (.head _)).1, rfl, 0, rfl⟩ (by omega) (by omega) (by rw [hlen]; simp; omega) (by rw [hlen]; simp) ?_
    intro ls h5 F5 N5 hlt5
    have hlls : (lm : Nat) < ls := hlt5 (lm, _) (.tail _ (.head _))
    clear FF NN hlt5
    iterate 3 walk1
    refine wpAny_For ?_
    repeat walk1
    rename Fr _ _ _ _ => F6
    rename News _ _ _ _ => N6
    have hlm6 := (N6 _ (.tail _ (.tail _ (.head _)))).1
    refine Calls.call_len_list (items := (natsV ps).toArray) ⟨_, hlm6, rfl, nn, rfl⟩ (by simp [natsV]; omega) ?_
    iterate 3 walk1
    rw [show (((natsV ps).toArray.size : Nat) : Int) = ((ps.length : Nat) : Int) by simp [natsV]]
    refine range3_iter (by omega) ?_
    intro it h7 tk7 hit hits hk7
    dsimp only at hits hk7
    have hls6 := (N6 _ (.head _)).1
    have hlsb := (N6 _ (.head _)).2.2
    have hlsL := (N6 _ (.head _)).2.1
    dsimp only at hls6 hlsb hlsL hlm6
    have s1' : (ls : Nat) < _ := Heap.lt_size hls6
    have s2' : (lm : Nat) < _ := Heap.lt_size hlm6
    have s3' : (s.heap.objs.size : Nat) < _ := F6.ns.lt
    have nil1 : ls ≠ it := Nat.ne_of_lt (Nat.lt_of_lt_of_le s1' hits)
    have nil2 : lm ≠ it := by omega
    have nitL : it ≠ s.heap.objs.size := by omega
    have nlm : lm ≠ ls := Nat.ne_of_lt hlls
    have hitb : s.heap.get? it = none := Heap.get?_none_of_le (by omega)
    have F7 : Fr s.heap s.heap.objs.size h7 _ := ⟨F6.ns.keeps hk7, fun b o e => hk7 b o (F6.keep b o e), F6.above⟩
    have hls7 := hk7 _ _ hls6
    have hlm7 := hk7 _ _ hlm6
    clear F6 N6
    generalize hmsE : mks 0 x.cps.toList = ms at hms
    have hmsl : ms.length = ps.length := by rw [← hms, List.length_map]
    have hsort : ms.Pairwise (· < ·) := by rw [← hmsE]; exact mks_sorted _ _
    have hmb : ∀ p ∈ ms, p < x.cps.size := by
      intro p hp
      rw [← hmsE] at hp
      have := (mks_ge _ _ p hp).2
      have h3 : x.cps.toList.length = x.cps.size := Array.length_toList
      omega
    refine range_loop (hb := s.heap) (by exact hh) rfl rfl hit nitL hitb (fun i m s' => s'.os = s.os ∧ s'.gens = s.gens ∧ m (Str.ofString "marks") = some (.ref lm) ∧ m (Str.ofString "stays") = some (.ref ls) ∧ s'.heap.get? lm = some (W.listOf (natsV ps).toArray nn) ∧
      ∃ cur : List Bool, s'.heap.IsList ls (cur.map Value.bool).toArray ∧ cur.length = x.cps.size ∧ cover (ms.drop (2 * i)) cur = cover ms (List.replicate x.cps.size true)) ?_ ⟨_, F7, hos, hgs, rfl, rfl, hlm7, List.replicate x.cps.size true, ⟨_, hls7, rfl, 0, rfl⟩, by simp, rfl⟩ ?_ ?_
    · rintro i m s' h' tk ⟨e1, e2, e3, e4, e5, cur, ⟨o, ho, r⟩, e7, e8⟩ hk
      exact ⟨e1, e2, e3, e4, hk lm _ nil2 n2 e5, cur, ⟨o, hk ls _ nil1 hlsL ho, r⟩, e7, e8⟩
    · clear F7 hls7 hlm7 hit
      rintro i m tk s2 hi F2 ⟨hos2, hgs2, m1, m2, hlm2, cur, hls2, hcl, hcov⟩ hits2
      have ei : (1 : Int) + (i : Nat) * 2 = ((2 * i + 1 : Nat) : Int) := by omega
      rw [ei] at F2
      have F3 := Fr.put (Fr.put F2 (a := Str.ofString "marks") (v := .ref lm) m1) (a := Str.ofString "stays") (v := .ref ls) m2
      clear F2
      have N3 := led_news s.heap s.heap.objs.size s2.heap.objs.size s2.heap
      have hi1 : 2 * i + 1 < ms.length := by omega
      obtain ⟨a, ha⟩ : ∃ a, ms[2 * i]? = some a := ⟨_, List.getElem?_eq_getElem (by omega)⟩
      obtain ⟨b, hb⟩ : ∃ b, ms[2 * i + 1]? = some b := ⟨_, List.getElem?_eq_getElem hi1⟩
      have hpa : ∃ ta, ps[2 * i]? = some (a, ta) := by
        rw [← hms, List.getElem?_map] at ha
        obtain ⟨p, hp, e⟩ := Option.map_eq_some_iff.mp ha
        exact ⟨p.2, by rw [hp, ← e]⟩
      have hpb : ∃ tb, ps[2 * i + 1]? = some (b, tb) := by
        rw [← hms, List.getElem?_map] at hb
        obtain ⟨p, hp, e⟩ := Option.map_eq_some_iff.mp hb
        exact ⟨p.2, by rw [hp, ← e]⟩
      obtain ⟨ta, hpa⟩ := hpa
      obtain ⟨tb, hpb⟩ := hpb
      have hdrop : ms.drop (2 * i) = a :: b :: ms.drop (2 * (i + 1)) := by
        obtain ⟨l1, e1⟩ := List.getElem?_eq_some_iff.mp ha
        obtain ⟨l2, e2⟩ := List.getElem?_eq_some_iff.mp hb
        rw [List.drop_eq_getElem_cons l1, e1, List.drop_eq_getElem_cons l2, e2]
        rfl
      have hax := hmb a (List.mem_of_getElem? ha)
      have hbx := hmb b (List.mem_of_getElem? hb)
      have hmarks : ∀ h' m', Fr s.heap s.heap.objs.size h' m' → News s.heap s.heap.objs.size h' (led s.heap s.heap.objs.size s2.heap.objs.size s2.heap) → h'.IsList lm (natsV ps).toArray := by
        intro h' m' F' N'
        exact ⟨_, led_keep F3 F' N' lm _ (Heap.lt_size hlm2) n2 hlm2, rfl, nn, rfl⟩
      iterate 1 walk1
      refine wpAny_For ?_
      repeat walk1
      refine item_listR (x := .int ((a : Nat) : Int) ta) (hmarks _ _ F3 N3) (by omega) (by omega) ?_ ?_
      · rw [show (((2 * i + 1 : Nat) : Int) - 1).toNat = 2 * i by omega]
        simp [natsV, hpa]
      iterate 5 walk1
      refine item_listR (x := .int ((b : Nat) : Int) tb) (hmarks _ _ F3 N3) (by omega) (by omega) ?_ ?_
      · rw [show (((2 * i + 1 : Nat) : Int)).toNat = 2 * i + 1 by omega]
        simp [natsV, hpb]
      iterate 3 walk1
      rw [show ((b : Nat) : Int) + 1 = ((b + 1 : Nat) : Int) from rfl]
      refine range2_iter (by omega) (by omega) ?_
      intro it2 h4 tk4 hit4 hits4 hk4
      dsimp only at hits4 hk4
      have F4 : Fr s.heap s.heap.objs.size h4 _ := ⟨F3.ns.keeps hk4, fun b o e => hk4 b o (F3.keep b o e), F3.above⟩
      have g1 : (s.heap.objs.size : Nat) < s2.heap.objs.size := F3.ns.lt
      obtain ⟨ol, hol, rl⟩ := hls2
      have g2 : (ls : Nat) < s2.heap.objs.size := Heap.lt_size hol
      have nit2L : it2 ≠ s.heap.objs.size := by omega
      have nit2s : ls ≠ it2 := Nat.ne_of_lt (Nat.lt_of_lt_of_le g2 hits4)
      have hit2b : s.heap.get? it2 = none := Heap.get?_none_of_le (by omega)
      clear F3 N3 hmarks
      refine range_loop (hb := s.heap) (by exact hh) rfl rfl hit4 nit2L hit2b (fun i' m' s' => s'.os = s.os ∧ s'.gens = s.gens ∧ m' (Str.ofString "marks") = some (.ref lm) ∧ m' (Str.ofString "stays") = some (.ref ls) ∧
        s'.heap.IsList ls ((clrN a i' cur).map Value.bool).toArray ∧ ∀ b o, b ≠ s.heap.objs.size → b ≠ ls → s2.heap.get? b = some o → s'.heap.get? b = some o) ?_ ⟨_, F4, hos2, hgs2, rfl, rfl, ⟨ol, hk4 _ _ hol, rl⟩, fun b o _ _ e => hk4 b o e⟩ ?_ ?_
      · rintro i' m' s' h' tk' ⟨e1, e2, e3, e4, ⟨o, ho, r⟩, e6⟩ hk
        refine ⟨e1, e2, e3, e4, ⟨o, hk ls _ nit2s hlsL ho, r⟩, fun b o hb1 hb2 e => hk b o ?_ hb1 (e6 b o hb1 hb2 e)⟩
        exact Nat.ne_of_lt (Nat.lt_of_lt_of_le (Heap.lt_size e) hits4)
      · clear F4 hit4
        rintro i' m' tk' s5 hi' F5 ⟨hos5, hgs5, m51, m52, hls5, hk5⟩ hits5
        have F6 := Fr.put (Fr.put F5 (a := Str.ofString "marks") (v := .ref lm) m51) (a := Str.ofString "stays") (v := .ref ls) m52
        clear F5
        have N6 : News s.heap s.heap.objs.size s5.heap [] := News.nil
        have e5 : ((a : Nat) : Int) + ((i' : Nat) : Int) * 1 = ((a + i' : Nat) : Int) := by omega
        rw [e5] at F6
        iterate 5 walk1
        refine wpAny_setItem_list hls5 (by omega) (by omega) (by simp [clrN_len]; omega) ?_
        intro h6 hls6 hs6
        replace hs6 : Heap.SameBut ls s5.heap h6 := hs6
        have F7 := Fr.moved F6 (it := ls) hlsL hlsb fun b o hb e => hs6.extBut b o hb e
        clear F6 N6
        have hls7 : h6.IsList ls ((clrN a (i' + 1) cur).map Value.bool).toArray := by
          have e : ((clrN a i' cur).map Value.bool).toArray.setIfInBounds ((a + i' : Nat) : Int).toNat (Value.bool false) = ((clrN a (i' + 1) cur).map Value.bool).toArray := by
            rw [Int.toNat_natCast, clrN, List.map_set, List.setIfInBounds_toArray]
          rw [e] at hls6
          exact hls6
        have N7 : News s.heap s.heap.objs.size h6 [] := News.nil
        iterate 1 walk1
        refine ⟨⟨_, F7, hos5, hgs5, rfl, rfl, hls7, fun b o hb1 hb2 e => hs6.extBut b o hb2 (hk5 b o hb1 hb2 e)⟩, fun o e => hs6.extBut _ o (Ne.symm nit2s) e⟩
      · rintro m' s5 F5 ⟨hos5, hgs5, m51, m52, hls5, hk5⟩
        have N5 : News s.heap s.heap.objs.size s5.heap [] := News.nil
        iterate 1 walk1
        refine ⟨⟨m', F5, hos5, hgs5, m51, m52, hk5 lm _ n2 nlm hlm2, _, hls5, by rw [clrN_len]; exact hcl, ?_⟩, fun o e => hk5 it o nitL (Ne.symm nil1) e⟩
        rw [← hcov, hdrop, cover]
    · rintro m s2 F2 ⟨hos2, hgs2, m1, m2, hlm2, cur, hls2, hcl, hcov⟩
      have F3 := Fr.put F2 (a := Str.ofString "stays") (v := .ref ls) m2
      clear F2
      have hcur : cur = ann false x.cps.toList := by
        rw [← cover_ann, hmsE, ← Array.length_toList (xs := x.cps)] at *
        rw [← hcov]
        have hle : (ms.drop (2 * (ps.length / 2))).length ≤ 1 := by rw [List.length_drop]; omega
        match hd : ms.drop (2 * (ps.length / 2)), hle with
        | [], _ => rfl
        | [_], _ => rfl
      rw [hcur] at hls2
      have hfin := h ls s2 ⟨F3.keep, hos2, fun q => by rw [hgs2]; exact q⟩ hls2 hlsb
      have N3 : News s.heap s.heap.objs.size s2.heap [] := News.nil
      iterate 3 walk1
      exact hfin
end Mine
end TStays2
section TLawP
open PySem PySem.W PyProof.Rows PySem.Spec
set_option maxRecDepth 100000
set_option maxHeartbeats 1000000
namespace Mine
set_option autoImplicit false
theorem loose_eq : looseW hd.view_39 [Str.ofString "_twin_re_1", Str.ofString "_twin_re_2", Str.ofString "_twin_re_3"] = [Str.ofString "_twin_re_1", Str.ofString "_twin_re_2", Str.ofString "_twin_re_3", Str.ofString "_sre"] := by decide +kernel
theorem strs_parts : ∀ {vs : List Value} {ys : List Str}, StrsAre vs ys → ∃ ps : List (List Nat × Tok), vs = partsV 0 ps ∧ partsL ps = (ys.map fun y => y.cps.toList).flatten
  | _, _, .nil => ⟨[], rfl, rfl⟩
  | _, _, .cons x t r => by
    obtain ⟨ps, e1, e2⟩ := strs_parts r
    refine ⟨(x.cps.toList, t) :: ps, ?_, ?_⟩
    · rw [e1]; simp [partsV, mkV]
    · simp only [List.map_cons, List.flatten_cons]; rw [← e2]; simp [partsL]
def pickG (k : Int) : Str := if k.fmod 9 < 8 then Txt.item (Str.ofString ".\x0d\n\"\\()a") (k.fmod 9) else ⟨#[((k.fdiv 9).fmod 55296).toNat]⟩
theorem pick_lt (k : Int) : ∃ c, pickG k = ⟨#[c]⟩ ∧ c < 55296 := by
  unfold pickG
  have h0 : 0 ≤ k.fmod 9 := Int.fmod_nonneg_of_pos _ (by decide)
  by_cases h : k.fmod 9 < 8
  · rw [if_pos h]
    obtain ⟨n, hn⟩ : ∃ n : Nat, k.fmod 9 = n := ⟨(k.fmod 9).toNat, by omega⟩
    rw [hn]
    have hn8 : n < 8 := by omega
    match n, hn8 with
    | 0, _ => exact ⟨46, by decide +kernel, by decide⟩
    | 1, _ => exact ⟨13, by decide +kernel, by decide⟩
    | 2, _ => exact ⟨10, by decide +kernel, by decide⟩
    | 3, _ => exact ⟨34, by decide +kernel, by decide⟩
    | 4, _ => exact ⟨92, by decide +kernel, by decide⟩
    | 5, _ => exact ⟨40, by decide +kernel, by decide⟩
    | 6, _ => exact ⟨41, by decide +kernel, by decide⟩
    | 7, _ => exact ⟨97, by decide +kernel, by decide⟩
  · rw [if_neg h]
    refine ⟨_, rfl, ?_⟩
    have h1 : 0 ≤ (k.fdiv 9).fmod 55296 := Int.fmod_nonneg_of_pos _ (by decide)
    have h2 : (k.fdiv 9).fmod 55296 < 55296 := Int.fmod_lt_of_pos _ (by decide)
    omega
theorem picks (ks : List Int) : ((ks.map pickG).map fun y => y.cps.toList).flatten.length = ks.length ∧ ∀ c ∈ ((ks.map pickG).map fun y => y.cps.toList).flatten, c < 55296 := by
  induction ks with
  | nil => exact ⟨rfl, fun c hc => by cases hc⟩
  | cons k r ih =>
    obtain ⟨c, e, hc⟩ := pick_lt k
    simp only [List.map_cons, List.flatten_cons, e]
    refine ⟨by simp only [List.length_append, ih.1]; simp; omega, fun d hd => ?_⟩
    rcases List.mem_append.mp hd with h | h
    · simp at h; subst h; exact hc
    · exact ih.2 d h
theorem drawn_facts {vs : List Value} {ks : List Int} (h : CarriedAll vs (ks.map fun k => PyData.str (pickG k))) : ∃ ps : List (List Nat × Tok), vs = partsV 0 ps ∧ (partsL ps).length = ks.length ∧ ∀ c ∈ partsL ps, c < 55296 := by
  obtain ⟨ps, e1, e2⟩ := strs_parts (CarriedAll.strsOf (f := pickG) h)
  have := picks ks
  rw [← e2] at this
  exact ⟨ps, e1, this.1, this.2⟩
def tailL : List Nat := (Str.ofString ".\x0d\"\n.(\"\n\"a\".\\\"()\"").cps.toList
theorem tail_facts : tailL.length = 17 ∧ ∀ c ∈ tailL, c < 55296 := by decide +kernel
theorem built_eq (l : List Nat) : (⟨l.toArray⟩ : Str) ++ Str.ofString ".\x0d\"\n.(\"\n\"a\".\\\"()\"" = ⟨(l ++ tailL).toArray⟩ := by
  have e : Str.ofString ".\x0d\"\n.(\"\n\"a\".\\\"()\"" = ⟨tailL.toArray⟩ := by decide +kernel
  rw [e]
  show (⟨_ ++ _⟩ : Str) = _
  simp
/-- the names of the law's run of hands -/
structure LM (bl : List Nat) (tb : Tok) (ls : Addr) (hv : Int) (th : Tok) (now : List Nat) (tn : Tok) (rd : Bool) (ah : Nat) (ta : Tok) (sc : Nat) (ts : Tok) (m : Str → Option Value) : Prop where
  built : m (Str.ofString "built") = some (.str ⟨bl.toArray⟩ tb)
  kept : m (Str.ofString "kept") = some (.ref ls)
  hands : m (Str.ofString "hands") = some (.int hv th)
  now : m (Str.ofString "now") = some (.str ⟨now.toArray⟩ tn)
  read : m (Str.ofString "read") = some (.bool rd)
  ahead : m (Str.ofString "ahead") = some (.int (ah : Nat) ta)
  since : m (Str.ofString "since") = some (.int (sc : Nat) ts)
theorem LM.fr {bl : List Nat} {tb : Tok} {ls : Addr} {hv : Int} {th : Tok} {now : List Nat} {tn : Tok} {rd : Bool} {ah : Nat} {ta : Tok} {sc : Nat} {ts : Tok} {m : Str → Option Value} (M : LM bl tb ls hv th now tn rd ah ta sc ts m) {hb h : Heap} {L : Addr} (F : Fr hb L h m) :
    Fr hb L h (fun y => if y = Str.ofString "since" then some (.int (sc : Nat) ts) else if y = Str.ofString "ahead" then some (.int (ah : Nat) ta) else if y = Str.ofString "read" then some (.bool rd) else if y = Str.ofString "now" then some (.str ⟨now.toArray⟩ tn)
      else if y = Str.ofString "hands" then some (.int hv th) else if y = Str.ofString "kept" then some (.ref ls) else if y = Str.ofString "built" then some (.str ⟨bl.toArray⟩ tb) else m y) := by
  refine Fr.put (Fr.put (Fr.put (Fr.put (Fr.put (Fr.put (Fr.put F ?k1) ?k2) ?k3) ?k4) ?k5) ?k6) ?k7
  case k1 => exact M.built
  case k2 => exact M.kept
  case k3 => exact M.hands
  case k4 => exact M.now
  case k5 => exact M.read
  case k6 => exact M.ahead
  case k7 => exact M.since
/-- what stands behind i turns -/
def JL (s₁ : Shared) (bl : List Nat) (tb : Tok) (ls : Addr) (ol : Obj) (hv : Int) (th : Tok) (i : Nat) (m : Str → Option Value) (s' : Shared) : Prop :=
  s'.os = s₁.os ∧ AllBare s'.gens ∧ s'.heap.get? ls = some ol ∧ ∃ now tn rd ah ta sc ts, LM bl tb ls hv th now tn rd ah ta sc ts m ∧ Inv bl now rd ah sc ∧ now.length ≤ 27 * 2 ^ i ∧ (∀ c ∈ now, c < 55296) ∧ ah ≤ i ∧ sc ≤ i
theorem hand_cases (hv p : Int) : (hv.fdiv p).fmod 3 = 0 ∨ (hv.fdiv p).fmod 3 = 1 ∨ (hv.fdiv p).fmod 3 = 2 := by
  have h1 : 0 ≤ (hv.fdiv p).fmod 3 := Int.fmod_nonneg_of_pos _ (by decide)
  have h2 : (hv.fdiv p).fmod 3 < 3 := Int.fmod_lt_of_pos _ (by decide)
  omega
theorem fixH_mem (l : List Nat) : ∀ (cr : Bool), (∀ c ∈ l, c < 55296) → ∀ c ∈ fixH cr l, c < 55296 := by
  induction l with
  | nil => intro cr _ c hc; cases hc
  | cons d r ih =>
    intro cr h c hc
    have hr : ∀ c ∈ r, c < 55296 := fun c hc => h c (.tail _ hc)
    have hd := h d (.head _)
    simp only [fixH] at hc
    split at hc
    · rcases List.mem_cons.mp hc with rfl | hc
      · decide
      · rcases List.mem_cons.mp hc with rfl | hc
        · decide
        · exact ih _ hr c hc
    · split at hc
      · split at hc
        · exact ih _ hr c hc
        · rcases List.mem_cons.mp hc with rfl | hc
          · decide
          · rcases List.mem_cons.mp hc with rfl | hc
            · decide
            · exact ih _ hr c hc
      · rcases List.mem_cons.mp hc with rfl | hc
        · exact hd
        · exact ih _ hr c hc
theorem fixG_mem (l : List Nat) (h : ∀ c ∈ l, c < 55296) : ∀ c ∈ fixG l, c < 55296 := fixH_mem l false h
theorem method_encode {M : Model} {A : Around} {E : Value → Shared → Prop} {s : Shared} {x : Str} {t : Tok} {pl : Sem Bool} {Q : Value × List Value → Shared → Prop} (h : Q (.builtin "str.encode", [.str x t]) s) : wpAny M A (getMethod (.str x t) "encode" pl) Q E s :=
  GM.of (.str x t) (typeIs_str _ _ _) F.slot_str_encode F.type_str_encode GM.noRef h
theorem two_strs {vs : List Value} {a b : Str} (h : vs.map strOf = [some a, some b]) : ∃ t u, vs = [.str a t, .str b u] := by
  have hl : vs.length = 2 := by have := congrArg List.length h; simpa using this
  obtain ⟨x, y, rfl⟩ : ∃ x y, vs = [x, y] := by
    cases vs with
    | nil => cases hl
    | cons x r =>
      cases r with
      | nil => cases hl
      | cons y r =>
        cases r with
        | nil => exact ⟨x, y, rfl⟩
        | cons z r => simp at hl
  simp only [List.map_cons, List.map_nil, List.cons.injEq, and_true] at h
  obtain ⟨h1, h2⟩ := h
  cases x <;> simp [strOf] at h1
  cases y <;> simp [strOf] at h2
  subst h1 h2
  exact ⟨_, _, rfl⟩
theorem eq_two {prog : Program} {w : World} {A : Around} {E : Value → Shared → Prop} {s : Shared} {l b : Addr} {x y : Str} {t1 t2 t3 t4 : Tok} {n m : Nat} {Q : Value → Shared → Prop} (hl : s.heap.get? l = some (W.listOf #[.str x t1, .str y t2] n)) (hb : s.heap.get? b = some (W.listOf #[.str x t3, .str y t4] m))
    (hu : A.units < cLine) (h : Q (.bool true) s) : wpAny (model prog w) A (compareOp .Eq (.ref l) (.ref b)) Q E s := by
  refine SeqAt.eq_listAt (items := #[.str x t1, .str y t2]) (items2 := #[.str x t3, .str y t4]) (e := fun _ => true) ⟨_, hl, rfl, ⟨_, rfl⟩⟩ ⟨_, hb, rfl, ⟨_, rfl⟩⟩ rfl hu ?_ h
  intro j h1 _
  have h1' : j < 2 := h1
  match j, h1' with
  | 0, _ => have := SeqAt.EqAt.str_str (A := A.in1) (s := s) x t1 x t3; rwa [beq_self_eq_true] at this
  | 1, _ => have := SeqAt.EqAt.str_str (A := A.in1) (s := s) y t2 y t4; rwa [beq_self_eq_true] at this
end Mine
end TLawP
section TLaw0
open PySem PySem.W PyProof.Rows PySem.Spec Mine
set_option maxRecDepth 100000
set_option maxHeartbeats 8000000
theorem Mine.law_walk : PySem.Challenge.rw_pe0071_01.Holds := by
  refine hd ?_
  k_fill
  intro w s₀ s₁ mg mb G Y fa o pm cd doc dV kV ho hdd hcd hD hmg hg args vals as hpre hlay hrd hwl hlo
  have KX := kIn_of Y
  refine Ground.open G ?_
  intro T B D TE TW
  obtain ⟨_, _, M⟩ := bmod_of_top T
  clear hmg
  wrow_args hpre hlay hrd hwl hlo
  refine enter_call ?_
  w_top on
  have K0 := below_caller (Top.heap T)
  w_call any ho hdd hcd hD T F
  clear hdd
  k_drop
  iterate 11 walk1
  rename Fr _ _ _ _ => F1
  rename News _ _ _ _ => N1
  refine LCg.Assign_ListComp_U (F₀ := F1) (by rfl) (by with_unfolding_all rfl) (by with_unfolding_all rfl) (by decide) (by rfl) (by decide) (by rfl) (by rfl) (by rfl) ?_
  walk1
  refine LCg.CompSrc.ledger (by rfl) F1 N1 (.head _) (by size_fits) ?_
  intro g'
  refine kct_list (fun k => if k.fmod 9 < 8 then Txt.item (Str.ofString ".\x0d\n\"\\()a") (k.fmod 9) else ⟨#[((k.fdiv 9).fmod 55296).toNat]⟩) (by assumption) (fun k' t' I' oI' C' oC' D' m' ys' h' tk' E' hk' hC' hx' F' N' off' ne' => ?_) ?_
  · simp only [LCg.Off3, and_true] at off'
    intro hMark'
    iterate 10 walk1
    by_cases hc9 : k'.fmod 9 < 8
    · rw [decide_eq_true hc9, if_pos rfl]
      repeat walk1
    · rw [decide_eq_false hc9, if_neg (by decide)]
      repeat walk1
  show ∀ _, _
  intro ys2 hcar hlen2
  intro D2 h2 tk2 F2 N2 off2
  clear F1 N1
  obtain ⟨ps, hys, hpl, hpc⟩ := drawn_facts hcar
  have GT := topRead_of T
  rw [loose_eq] at GT
  have G0 : Gd w mg mb s₁.heap := ⟨KX, GT⟩
  clear hcar
  subst hys
  have hks : (partsL ps).length ≤ 10 := by
    rw [hpl, List.length_map, List.length_take]
    omega
  iterate 10 walk1
  refine join_wp (l := D2) (N2 _ (.head _)).1 (by omega) ?_
  intro t3 tk3
  iterate 2 walk1
  rw [built_eq]
  have hbl1 : (partsL ps ++ tailL).length ≤ 27 := by rw [List.length_append, tail_facts.1]; omega
  have hbl2 : ∀ c ∈ partsL ps ++ tailL, c < 55296 := by
    intro c hc
    rcases List.mem_append.mp hc with q | q
    · exact hpc c q
    · exact tail_facts.2 c q
  generalize partsL ps ++ tailL = bl at hbl1 hbl2 ⊢
  iterate 9 walk1
  rename Fr _ _ _ _ => F4
  rename News _ _ _ _ => N4
  refine ⟨KX.keeps F4.keep, ?_⟩
  have hbz : (⟨bl.toArray⟩ : Str).cps.size ≤ 27 := by show bl.toArray.size ≤ 27; rw [List.size_toArray]; exact hbl1
  refine stays_ok (x := ⟨bl.toArray⟩) (G0.keeps F4.keep) (by rfl) (by show callerA.depth + 1 < 880; decide) (Nat.le_trans hbz (by decide)) ?_
  intro ls s5 x5 hls hlsn
  rw [show ((⟨bl.toArray⟩ : Str).cps.toList) = bl from rfl] at hls
  have F5 := x5.fr F4
  obtain ⟨ol, hol, hlc, hld⟩ := hls
  have hb5 : s₁.heap.get? ls = none := by
    cases hq : s₁.heap.get? ls with
    | none => rfl
    | some o => rw [F4.keep ls o hq] at hlsn; cases hlsn
  have hL5 : ls ≠ s₁.heap.objs.size := by
    intro q
    obtain ⟨o, _, _, ho, _⟩ := F4.ns
    rw [q, ho] at hlsn
    cases hlsn
  have N5 : News s₁.heap s₁.heap.objs.size s5.heap ((ls, ol) :: _) := List.forall_mem_cons.mpr ⟨⟨hol, hL5, hb5⟩, x5.news N4⟩
  have os5 : s5.os = s₁.os := x5.os
  have gn5 : AllBare s5.gens := x5.gens (AllBare.of_eq hg)
  clear F4 N4 x5
  iterate 32 walk1
  refine wpAny_For ?_
  iterate 6 walk1
  rename Fr _ _ _ _ => F6
  rename News _ _ _ _ => N6
  have hol6 := (N6 _ (.head _)).1
  refine range1_iter (n := 4) (by decide) ?_
  intro it h7 tk7 hit hits hk7
  dsimp only at hits hk7
  have F7 : Fr s₁.heap s₁.heap.objs.size h7 _ := ⟨F6.ns.keeps hk7, fun b o e => hk7 b o (F6.keep b o e), F6.above⟩
  have lt6 : (s₁.heap.objs.size : Nat) < it := Nat.lt_of_lt_of_le F6.ns.lt hits
  have lt6' : (ls : Nat) < it := Nat.lt_of_lt_of_le (Heap.lt_size hol6) hits
  have hitb : s₁.heap.get? it = none := Heap.get?_none_of_le (Nat.le_of_lt lt6)
  have hitL : it ≠ s₁.heap.objs.size := by omega
  have n1 : ls ≠ it := by omega
  have hol7 := hk7 _ _ hol6
  clear F6 N6 hol6
  obtain ⟨tb, hv, th, m7, F8, J7⟩ : ∃ tb hv th m, Fr s₁.heap s₁.heap.objs.size h7 m ∧ JL s₁ bl tb ls ol hv th 0 m { s5 with heap := h7, toks := tk7 } :=
    ⟨_, _, _, _, F7, os5, gn5, hol7, bl, _, false, 0, _, 0, _, ⟨rfl, rfl, rfl, rfl, rfl, rfl, rfl⟩, Inv.start bl, by omega, hbl2, Nat.le_refl _, Nat.le_refl _⟩
  refine range_loop (hb := s₁.heap) (by rfl) rfl rfl hit hitL hitb (JL s₁ bl tb ls ol hv th) ?_ ⟨m7, F8, J7⟩ ?_ ?_
  · rintro i m s' h' tk ⟨e1, e2, e3, e4⟩ hk
    exact ⟨e1, e2, hk ls _ n1 hL5 e3, e4⟩
  · clear F7 F8 J7 hol7 hit hol hk7 hits
    rintro i m tk s2 hi F2 ⟨hos, hbare, hol, now, tn, rd, ah, ta, sc, ts, hM, hI, hnl, hnc, hah, hsc⟩ hits2
    have hnow27 : now.length ≤ 432 := by
      have h16 : (2 : Nat) ^ i ≤ 2 ^ 4 := Nat.pow_le_pow_right (by decide) (by omega)
      omega
    have ei : (0 : Int) + (i : Nat) * 1 = ((i : Nat) : Int) := by omega
    rw [ei] at F2
    have hM2 : LM bl tb ls hv th now tn rd ah ta sc ts (fun y => if y = Str.ofString "turn" then some (.int ((i : Nat) : Int) tk) else m y) := ⟨hM.built, hM.kept, hM.hands, hM.now, hM.read, hM.ahead, hM.since⟩
    have F3 := hM2.fr F2
    have N3 := led_news s₁.heap s₁.heap.objs.size s2.heap.objs.size s2.heap
    clear F2
    have hkeep : ∀ h' m', Fr s₁.heap s₁.heap.objs.size h' m' → News s₁.heap s₁.heap.objs.size h' (led s₁.heap s₁.heap.objs.size s2.heap.objs.size s2.heap) → ∀ b o, b ≠ s₁.heap.objs.size → s2.heap.get? b = some o → h'.get? b = some o := by
      intro h' m' F' N' b o hb e
      exact led_keep F3 F' N' b o (Heap.lt_size e) hb e
    iterate 9 walk1
    have hp : (3 : Int) ^ (((i : Nat) : Int)).toNat ≠ 0 := by
      rw [Int.toNat_natCast]
      exact Int.ne_of_gt (Int.pow_pos (by decide))
    generalize (3 : Int) ^ (((i : Nat) : Int)).toNat = p at hp ⊢
    iterate 5 walk1
    have hcase := hand_cases hv p
    rename Fr _ _ _ _ => F4
    rename News _ _ _ _ => N4
    generalize (hv.fdiv p).fmod 3 = hand at hcase F4 ⊢
    obtain ⟨m4, thd, F5, hM4, hm4⟩ : ∃ m4 thd, Fr s₁.heap s₁.heap.objs.size _ m4 ∧ LM bl tb ls hv th now tn rd ah ta sc ts m4 ∧ m4 (Str.ofString "hand") = some (.int hand thd) := ⟨_, _, F4, ⟨rfl, rfl, rfl, rfl, rfl, rfl, rfl⟩, rfl⟩
    have F6 := Fr.put (hM4.fr F5) (a := Str.ofString "hand") (v := .int hand thd) hm4
    clear F4 F5
    iterate 1 walk1
    refine wpAny_mono (Q := fun f s' => f = .next ∧ s'.os = s₁.os ∧ AllBare s'.gens ∧ ∃ m' now' tn' rd', Fr s₁.heap s₁.heap.objs.size s'.heap m' ∧ News s₁.heap s₁.heap.objs.size s'.heap (led s₁.heap s₁.heap.objs.size s2.heap.objs.size s2.heap) ∧
      LM bl tb ls hv th now' tn' rd' ah ta sc ts m' ∧ m' (Str.ofString "hand") = some (.int hand thd) ∧ (hand = 0 ∧ now' = stripS false now ∧ rd' = true ∨ 0 < hand ∧ now' = sendF 10 now ∧ rd' = rd)) ?_ (fun f s' hq => ?_) (fun _ _ q => q)
    · rcases hcase with rfl | rfl | rfl
      · iterate 16 walk1
        refine ⟨KX.keeps F6.keep, ?_⟩
        refine strip_ok (x := ⟨now.toArray⟩) (G0.keeps F6.keep) (by rfl) (by show callerA.depth + 1 < 900; decide) (by show now.toArray.size ≤ _; rw [List.size_toArray]; omega) ?_
        intro t8 s8 x8
        have F8 := x8.fr F6
        have N8 := x8.news N4
        have os8 : s8.os = s₁.os := x8.os.trans hos
        have bare8 : AllBare s8.gens := x8.gens hbare
        clear F6 N4 x8
        iterate 6 walk1
        rename Fr _ _ _ _ => F9
        rename News _ _ _ _ => N9
        exact ⟨rfl, os8, bare8, _, stripS false now, _, true, F9, N9, ⟨rfl, rfl, rfl, rfl, rfl, rfl, rfl⟩, rfl, .inl ⟨rfl, rfl, rfl⟩⟩
      · iterate 25 walk1
        refine ⟨KX.keeps F6.keep, ?_⟩
        refine quote_ok (x := ⟨now.toArray⟩) (G0.keeps F6.keep) (by show callerA.depth + 1 < 900; decide) (by show now.toArray.size ≤ _; rw [List.size_toArray]; omega) ?_
        intro t8 s8 x8
        have F8 := x8.fr F6
        have N8 := x8.news N4
        have os8 : s8.os = s₁.os := x8.os.trans hos
        have bare8 : AllBare s8.gens := x8.gens hbare
        clear F6 N4 x8
        iterate 3 walk1
        rename Fr _ _ _ _ => F9
        rename News _ _ _ _ => N9
        exact ⟨rfl, os8, bare8, _, sendF 10 now, _, rd, F9, N9, ⟨rfl, rfl, rfl, rfl, rfl, rfl, rfl⟩, rfl, .inr ⟨by decide, rfl, rfl⟩⟩
      · iterate 31 walk1
        refine ⟨KX.keeps F6.keep, ?_⟩
        refine fix_ok (x := ⟨now.toArray⟩) (G0.keeps F6.keep) (by show callerA.depth + 1 < 900; decide) (by show now.toArray.size ≤ _; rw [List.size_toArray]; omega) ?_
        intro t8 s8 x8
        have F8 := x8.fr F6
        have N8 := x8.news N4
        have os8 : s8.os = s₁.os := x8.os.trans hos
        have bare8 : AllBare s8.gens := x8.gens hbare
        clear F6 N4 x8
        refine method_encode ?_
        iterate 4 walk1
        have hfm := fixG_mem now hnc
        have hfl := fixG_len _ now (Nat.le_refl _)
        have hqm : ∀ c ∈ quoteF 10 (fixG now), c < 0xD800 := by rw [quote_fix_send]; exact send_mem 10 now _ (by decide) hnc
        have hql := quoteF_len 10 (fixG now)
        refine call_encode (x := ⟨(fixG now).toArray⟩) (by exact hfm) (by show (fixG now).toArray.size ≤ _; rw [List.size_toArray]; omega) ?_
        intro t9 tk9
        iterate 1 walk1
        refine ⟨KX.keeps F8.keep, ?_⟩
        refine periods_ok (l := fixG now) (t := t9) (mg := mg) (mb := mb) ?_ ?_ (by exact hfm) (by omega) ?_
        · exact G0.keeps F8.keep
        · show callerA.depth + 1 < 900
          decide
        intro t10 s10 x10
        have F10 := x10.fr F8
        have N10 := x10.news N8
        have os10 : s10.os = s₁.os := x10.os.trans os8
        have bare10 : AllBare s10.gens := x10.gens bare8
        clear F8 N8 x10
        refine KBd.method ?_
        iterate 4 walk1
        refine call_decode (l := quoteF 10 (fixG now)) hqm (by omega) ?_
        intro t11 tk11
        rw [quote_fix_send]
        iterate 3 walk1
        rename Fr _ _ _ _ => F9
        rename News _ _ _ _ => N9
        exact ⟨rfl, os10, bare10, _, sendF 10 now, _, rd, F9, N9, ⟨rfl, rfl, rfl, rfl, rfl, rfl, rfl⟩, rfl, .inr ⟨by decide, rfl, rfl⟩⟩
    obtain ⟨rfl, hos7, hb7, m7, now7, tn7, rd7, F7, N7, hM7, hm7, hnow⟩ := hq
    clear F6 N4
    have hn7 : now7.length ≤ 27 * 2 ^ (i + 1) ∧ ∀ c ∈ now7, c < 55296 := by
      rcases hnow with ⟨_, rfl, _⟩ | ⟨_, rfl, _⟩
      · have hsub := strip_sub false now
        have := hsub.length_le
        rw [Nat.pow_succ]
        exact ⟨by omega, fun c hc => hnc c (hsub.subset hc)⟩
      · have := send_len 10 now
        rw [Nat.pow_succ]
        exact ⟨by omega, send_mem 10 now _ (by decide) hnc⟩
    have F8 := Fr.put (hM7.fr F7) (a := Str.ofString "hand") (v := .int hand thd) hm7
    clear F7
    iterate 1 walk1
    refine wpAny_mono (Q := fun f s' => f = .next ∧ s'.os = s₁.os ∧ AllBare s'.gens ∧ ∃ m' ah' ta' sc' ts', Fr s₁.heap s₁.heap.objs.size s'.heap m' ∧ News s₁.heap s₁.heap.objs.size s'.heap (led s₁.heap s₁.heap.objs.size s2.heap.objs.size s2.heap) ∧
      LM bl tb ls hv th now7 tn7 rd7 ah' ta' sc' ts' m' ∧ Inv bl now7 rd7 ah' sc' ∧ ah' ≤ i + 1 ∧ sc' ≤ i + 1) ?_ (fun f s' hq => ?_) (fun _ _ q => q)
    · rcases hnow with ⟨rfl, rfl, rfl⟩ | ⟨hpos, rfl, rfl⟩
      · iterate 21 walk1
        exact ⟨rfl, hos7, hb7, _, ah, ta, sc, ts, F8, N7, ⟨rfl, rfl, rfl, rfl, rfl, rfl, rfl⟩, hI.read, by omega, by omega⟩
      · cases rd7
        · iterate 32 walk1
          rename Fr _ _ _ _ => F9
          rename News _ _ _ _ => N9
          exact ⟨rfl, hos7, hb7, _, ah + 1, _, sc, ts, F9, N9, ⟨rfl, rfl, rfl, rfl, rfl, rfl, rfl⟩, hI.send, by omega, by omega⟩
        · iterate 23 walk1
          rename Fr _ _ _ _ => F9
          rename News _ _ _ _ => N9
          exact ⟨rfl, hos7, hb7, _, ah, ta, sc + 1, _, F9, N9, ⟨rfl, rfl, rfl, rfl, rfl, rfl, rfl⟩, hI.send, by omega, by omega⟩
    obtain ⟨rfl, hos8, hb8, m8, ah8, ta8, sc8, ts8, F9, N9, hM8, hI8, hah8, hsc8⟩ := hq
    clear F8 N7
    have F10 := hM8.fr F9
    clear F9
    iterate 18 walk1
    refine ⟨KX.keeps F10.keep, ?_⟩
    refine told_ok (x := ⟨bl.toArray⟩) (bs := ann false bl) (G0.keeps F10.keep) (by rfl) (by show callerA.depth + 1 < 880; decide) ⟨ol, hkeep _ _ F10 N9 ls ol hL5 hol, hlc, hld⟩ (by omega) (by omega) (Nat.le_trans hbz (by decide)) (by rw [ann_length]; show _ = bl.toArray.size; rw [List.size_toArray]) ?_
    intro t11 s11 x11
    rw [show ((⟨bl.toArray⟩ : Str).cps.toList) = bl from rfl, ← hI8.eq]
    have F11 := x11.fr F10
    have N11 := x11.news N9
    have os11 : s11.os = s₁.os := x11.os.trans hos8
    have bare11 : AllBare s11.gens := x11.gens hb8
    clear F10 N9 x11
    iterate 2 walk1
    rw [if_neg (by simp)]
    iterate 2 walk1
    exact ⟨⟨_, F11, os11, bare11, hkeep _ _ F11 N11 ls ol hL5 hol, now7, tn7, rd7, ah8, ta8, sc8, ts8, ⟨rfl, rfl, rfl, rfl, rfl, rfl, rfl⟩, hI8, hn7.1, hn7.2, hah8, hsc8⟩, fun o e => hkeep _ _ F11 N11 it o hitL e⟩
  · rintro m s2 F2 ⟨hos, hbare, hol9, now, tn, rd, ah, ta, sc, ts, hM, hI, hnl, hnc, _, _⟩
    have F3 := hM.fr F2
    have N3 := led_news s₁.heap s₁.heap.objs.size s2.heap.objs.size s2.heap
    clear F7 F8 J7 hol7 hit hol hk7 hits F2
    have hkeep : ∀ h' m', Fr s₁.heap s₁.heap.objs.size h' m' → News s₁.heap s₁.heap.objs.size h' (led s₁.heap s₁.heap.objs.size s2.heap.objs.size s2.heap) → ∀ b o, b ≠ s₁.heap.objs.size → s2.heap.get? b = some o → h'.get? b = some o := by
      intro h' m' F' N' b o hb e
      exact led_keep F3 F' N' b o (Heap.lt_size e) hb e
    have hnow27 : now.length ≤ 432 := by omega
    iterate 12 walk1
    refine newList_N F3 N3 (fun h4 F4 N4 => ?_)
    iterate 1 walk1
    refine ⟨KX.keeps F4.keep, ?_⟩
    refine pre_ok (xs := [(⟨bl.toArray⟩, tb), (⟨now.toArray⟩, tn)]) (G0.keeps F4.keep) (by rfl) (by show callerA.depth + 1 < 880; decide) ⟨_, (N4 _ (.head _)).1, rfl, ⟨_, rfl⟩⟩ ?_ (by show 2 ≤ 1000; decide) ?_
    · intro p hp
      rcases List.mem_cons.mp hp with rfl | hp
      · exact Nat.le_trans hbz (by decide)
      · rcases List.mem_cons.mp hp with rfl | hp
        · show now.toArray.size ≤ _
          rw [List.size_toArray]; omega
        · cases hp
    intro lr s5 vs n x5 hlr hvs hlrn
    obtain ⟨tv1, tv2, rfl⟩ := two_strs (a := letIn ⟨bl.toArray⟩) (b := letIn ⟨now.toArray⟩) hvs
    have hlrb : s₁.heap.get? lr = none := by
      cases hq : s₁.heap.get? lr with
      | none => rfl
      | some o => have := F4.keep lr o hq; dsimp only at hlrn; rw [this] at hlrn; cases hlrn
    have hlrL : lr ≠ s₁.heap.objs.size := by
      intro q
      obtain ⟨o, _, _, ho, _⟩ := F4.ns
      dsimp only at hlrn
      rw [q, ho] at hlrn
      cases hlrn
    have F5 := x5.fr F4
    have N5 : News s₁.heap s₁.heap.objs.size s5.heap ((lr, _) :: _) := List.forall_mem_cons.mpr ⟨⟨hlr, hlrL, hlrb⟩, x5.news N4⟩
    have os5 : s5.os = s₁.os := x5.os.trans hos
    have bare5 : AllBare s5.gens := x5.gens hbare
    clear F4 N4 x5
    iterate 12 walk1
    rename Fr _ _ _ _ => F6
    rename News _ _ _ _ => N6
    refine ⟨KX.keeps F6.keep, ?_⟩
    refine closed_ok (x := ⟨bl.toArray⟩) (bs := ann false bl) (G0.keeps F6.keep) (by rfl) (by show callerA.depth + 1 < 880; decide) ⟨ol, hkeep _ _ F6 (fun p hp => N6 p (.tail _ (.tail _ hp))) ls ol hL5 hol9, hlc, hld⟩ (Nat.le_trans hbz (by decide)) (by rw [ann_length]; show _ = bl.toArray.size; rw [List.size_toArray]) ?_
    intro s7 x7
    rw [show ((⟨bl.toArray⟩ : Str).cps.toList) = bl from rfl, closed_check]
    have F7 := x7.fr F6
    have N7 := x7.news N6
    have os7 : s7.os = s₁.os := x7.os.trans os5
    have bare7 : AllBare s7.gens := x7.gens bare5
    clear F6 N6 x7
    cases hck : check bl with
    | true =>
      have e1 : letIn ⟨bl.toArray⟩ = ⟨bl.toArray⟩ := by simp [letIn, hck]
      have e2 : letIn ⟨now.toArray⟩ = ⟨now.toArray⟩ := by simp [letIn, hI.check, hck]
      rw [e1, e2] at N7
      repeat walk1
      rename Fr _ _ _ _ => F8
      rename News _ _ _ _ => N8
      refine eq_two (N8 _ (.tail _ (.head _))).1 (N8 _ (.head _)).1 (by show _ < 9900; simp only [Around.deeper, callerA]; decide) ?_
      exact ⟨.inl ⟨_, _, [], rfl, fun _ => rfl, ReadsW.bool true, by wrow_post, fun _ => ⟨List.nodup_nil, fun _ hm => (nomatch hm)⟩⟩, .of_keep F8.keep, os7, bare7⟩
    | false =>
      have e1 : letIn ⟨bl.toArray⟩ = Str.ofString "('', '')" := by simp [letIn, hck]
      have e2 : letIn ⟨now.toArray⟩ = Str.ofString "('', '')" := by simp [letIn, hI.check, hck]
      rw [e1, e2] at N7
      repeat walk1
      rename Fr _ _ _ _ => F8
      exact ⟨.inl ⟨_, _, [], rfl, fun _ => rfl, ReadsW.bool true, by wrow_post, fun _ => ⟨List.nodup_nil, fun _ hm => (nomatch hm)⟩⟩, .of_keep F8.keep, os7, bare7⟩
end TLaw0
theorem PySem.Challenge.cw_pe0071_01_holds : PySem.Challenge.rw_pe0071_01.Holds := by
  exact Mine.law_walk
