import PyProof.Rows.All
import Wide.All
import OpenK.AllK
import Wide.FinOn
import PySem.Challenge.RW_ny0082_01
set_option Elab.async false
set_option rowWalk.seconds 0
set_option compiler.extract_closed false

section
set_option hygiene false
set_option compiler.extract_closed false
namespace Mine
open PySem PySem.W PySem.Calls PyProof.Rows
open Lean (MacroM TSyntax)
/-! Small cases, told once. -/
theorem nat6 {k : Nat} (h : k < 6) : k = 0 ∨ k = 1 ∨ k = 2 ∨ k = 3 ∨ k = 4 ∨ k = 5 :=
  match k, h with
  | 0, _ => .inl rfl
  | 1, _ => .inr (.inl rfl)
  | 2, _ => .inr (.inr (.inl rfl))
  | 3, _ => .inr (.inr (.inr (.inl rfl)))
  | 4, _ => .inr (.inr (.inr (.inr (.inl rfl))))
  | 5, _ => .inr (.inr (.inr (.inr (.inr rfl))))
theorem nat4 {k : Nat} (h : k < 4) : k = 0 ∨ k = 1 ∨ k = 2 ∨ k = 3 :=
  match k, h with
  | 0, _ => .inl rfl
  | 1, _ => .inr (.inl rfl)
  | 2, _ => .inr (.inr (.inl rfl))
  | 3, _ => .inr (.inr (.inr rfl))
theorem nat3 {k : Nat} (h : k < 3) : k = 0 ∨ k = 1 ∨ k = 2 :=
  match k, h with
  | 0, _ => .inl rfl
  | 1, _ => .inr (.inl rfl)
  | 2, _ => .inr (.inr rfl)
theorem intAt {x : Int} {n : Nat} (h0 : 0 ≤ x) (h : x < n) : ∃ k : Nat, x = k ∧ k < n := by
  obtain ⟨k, rfl⟩ := Int.eq_ofNat_of_zero_le h0
  exact ⟨k, rfl, Int.ofNat_lt.mp h⟩
theorem int4 {x : Int} (h : 0 ≤ x ∧ x < 4) : x = 0 ∨ x = 1 ∨ x = 2 ∨ x = 3 := by
  obtain ⟨k, rfl, hk⟩ := intAt (n := 4) h.1 h.2
  rcases nat4 hk with rfl | rfl | rfl | rfl
  · exact .inl rfl
  · exact .inr (.inl rfl)
  · exact .inr (.inr (.inl rfl))
  · exact .inr (.inr (.inr rfl))
theorem int3 {x : Int} (h : 0 ≤ x ∧ x < 3) : x = 0 ∨ x = 1 ∨ x = 2 := by
  obtain ⟨k, rfl, hk⟩ := intAt (n := 3) h.1 h.2
  rcases nat3 hk with rfl | rfl | rfl
  · exact .inl rfl
  · exact .inr (.inl rfl)
  · exact .inr (.inr rfl)
theorem turn_less {n i : Nat} (h : i < n) : n + 1 - (i + 1) < n + 1 - i := Nat.sub_lt_sub_left (Nat.lt_succ_of_lt h) (Nat.lt_succ_self i)
/-! The walk's own lines, put together from signs. -/
abbrev TT := TSyntax `tactic
abbrev TE := TSyntax `term
def qs (x : Lean.Unhygienic TT) : TT := Lean.Unhygienic.run x
def qe (x : Lean.Unhygienic TE) : TE := Lean.Unhygienic.run x
def firstT (a b : TT) : TT := qs `(tactic| first | $a:tactic | $b:tactic)
def thenT (a b : TT) : TT := qs `(tactic| ($a; $b))
def redT (a : TT) : TT := qs `(tactic| with_reducible $a:tactic)
def unfT (a : TT) : TT := qs `(tactic| with_unfolding_all $a:tactic)
def dfltT (a : TT) : TT := qs `(tactic| k_dflt $a:tactic)
def exT (e : TE) : TT := qs `(tactic| exact $e)
def refT (e : TE) : TT := qs `(tactic| refine' $e)
def byE (t : TT) : TE := qe `(term| by $t:tactic)
def idE (f : Lean.Name) : TE := Lean.mkIdent f
def apE (f : Lean.Name) (as : List TE) : TE := qe `(term| $(idE f) $as.toArray*)
def e_go : TE := qe `(term| ?_)
def e_un : TE := qe `(term| _)
def e_id : TE := qe `(term| fun _ h => h)
def t_k : TT := qs `(tactic| k_asm)
def t_m : TT := qs `(tactic| k_mem)
def t_a : TT := qs `(tactic| assumption)
def t_r : TT := qs `(tactic| exact rfl)
def t_q : TT := qs `(tactic| rfl)
def t_o : TT := qs `(tactic| omega)
def t_d : TT := qs `(tactic| decide)
def t_u : TT := qs `(tactic| k_upd)
def t_i : TT := qs `(tactic| k_is)
def t_s : TT := exT (apE `Nat.succ_pos [e_un])
def t_h : TT := refT (apE `Mine.Halt.out [e_go])
def t_c : TT := qs `(tactic| repeat' constructor)
def t_y : TT := qs `(tactic| try dsimp only)
def t_S : TT := qs `(tactic| kts_sub)
def t_l : TT := qs `(tactic| skip)
def t_W : TT := qs `(tactic| k_whole)
def t_H : TT := qs `(tactic| k_here)
def t_K : TT := qs `(tactic| decide +kernel)
def t_F : TT := qs `(tactic| k_fold)
def t_M : TT := qs `(tactic| (intro q9 hq9; repeat (first | exact hq9 | refine List.Mem.tail _ ?_)))
def t_8 : TT := qs `(tactic| exact Or.inr ⟨_, by k_mem, rfl, _, rfl⟩)
def t_O : TT := qs `(tactic| (rename (1 < _ → _ → Mine.NormOk _ _ _) => hq9; exact hq9 (by assumption) (by assumption)))
def t_Q : TT := qs `(tactic| (rename Mine.StraightOk _ _ _ => hz9; exact hz9))
def t_ne : TT := qs `(tactic| k_ne)
def t_all : TT := qs `(tactic| k_all)
def t_Z : TT := qs `(tactic| kmk_size)
def t_P : TT := qs `(tactic| first | exact .none | exact .int _ _)
def t_E : TT := qs `(tactic| (intro _; with_unfolding_all rfl))
def t_9 : TT := qs `(tactic| (simp only [List.length_append, List.length_cons, List.length_nil]; omega))
def t_sw : TT := qs `(tactic| try k_sweep)
def t_x : TT := qs `(tactic| (with_reducible rename Heap.NewExc _ _ _ _ => hx9; clear hx9))
def t_X : TT := qs `(tactic| (k_here; (with_reducible refine wpAny_execs_cons ?_); try dsimp only))
def t_w : TT := redT t_a
/-- a tactic by its sign -/
def tacOf (c : Char) : TT :=
  let l : List (Char × TT) := [('k', t_k), ('m', t_m), ('a', t_a), ('r', t_r), ('q', t_q), ('o', t_o), ('d', t_d), ('u', t_u), ('i', t_i), ('w', t_w), ('s', t_s), ('p', firstT t_a t_s), ('b', firstT t_a t_o), ('e', firstT t_a t_d), ('c', t_c),
    ('l', firstT t_a (exT (apE `Int.le_of_lt [byE t_a]))), ('t', firstT t_a (exT (apE `Nat.le_trans [byE t_a, byE t_a]))), ('T', exT (apE `News.isTup [byE t_k, byE t_m])), ('h', exT e_id), ('Z', t_Z), ('P', t_P), ('E', t_E), ('9', t_9), ('X', firstT t_a t_q), ('C', firstT t_a t_c), ('V', unfT t_a), ('8', t_8), ('O', t_O), ('Q', firstT t_a t_Q), ('1', t_ne), ('2', t_all),
    ('5', exT (apE `Mine.fr8_nz [byE t_a, byE t_a])), ('6', exT (apE `Mine.fr96_fin [byE t_a, byE t_a])), ('7', exT (apE `Mine.fr96_ov [byE t_a, byE t_a])),
    ('L', firstT t_a (firstT (exT (apE `Mine.len2 [byE t_a, byE t_a])) t_d)),
    ('z', firstT t_w t_a), ('f', thenT t_y (firstT t_w t_k)), ('U', unfT t_q), ('S', t_S), ('M', t_M),
    ('N', firstT t_a (firstT (exT (apE `Mine.norm_vs1 [byE t_a, byE t_a, byE (firstT t_a t_K)])) (exT (apE `Mine.norm_vs2 [byE t_a, byE t_a, byE t_a]))))]
  (l.lookup c).getD t_l
def seqT (l : List TT) (last : TT) : TT := l.foldr thenT last
def kId (sc i : Nat) : Lean.Ident := Lean.mkIdent (Lean.addMacroScope `m (Lean.Name.mkSimple ("k" ++ toString i)) sc)
def e_k (sc i : Nat) : TE := qe `(term| ?$(kId sc i))
/-- the holes of a rule: '!' the walk goes on, '_' left to unification -/
def holeE (sc : Nat) (c : Char × Nat) : TE := if c.1 == '!' then e_go else if c.1 == '_' then e_un else if c.1 == 'R' then idE `rfl else e_k sc c.2
def caseT (sc : Nat) (c : Char × Nat) : TT := qs `(tactic| case $(kId sc c.2):ident => $(tacOf c.1):tactic)
def isTac (c : Char × Nat) : Bool := c.1 != '!' && c.1 != '_' && c.1 != 'R'
/-- a rule by its name and the signs of its premises; `ord` the order in which they are met (none: as they stand) -/
def ruleM (lem : Lean.Name) (code : String) (ord : List Nat) (last : TT) : MacroM TT := do
  let sc ← Lean.MonadQuotation.getCurrMacroScope
  let cs := code.toList.zipIdx
  let ds := if ord.isEmpty then cs else ord.filterMap fun i => cs[i]?
  return seqT (refT (apE lem (cs.map (holeE sc))) :: (ds.filter isTac).map (caseT sc)) last
def introT (n : Nat) : TT := if n == 0 then t_l else qs `(tactic| intro $(Array.replicate n e_un)*)
def showT (sh : TE) : TT := qs `(tactic| show $(apE `wpAny [e_un, e_un, sh, e_un, e_un, e_un]):term)
def e_int : TE := apE `Value.int [e_un, e_un]
def e_str : TE := apE `Value.str [e_un, e_un]
def e_flt : TE := apE `Value.float [e_un, e_un]
def e_ref : TE := apE `Value.ref [e_un]
def e_ty (s : String) : TE := apE `Value.type [Lean.quote s]
def e_bi (s : String) : TE := apE `Value.builtin [Lean.quote s]
def e_re (n : Nat) : TE := apE `Value.ref [Lean.quote n]
/-- the values of a call by signs -/
def argOf (c : Char) : TE :=
  let l : List (Char × TE) := [('i', e_int), ('s', e_str), ('f', e_flt), ('r', e_ref), ('I', e_ty "int"), ('S', e_ty "str"), ('L', e_bi "len")]
  (l.lookup c).getD e_un
def callE (f : TE) (as : String) : TE := qe `(term| call $f [$((as.toList.map argOf).toArray),*])
def biE (n as : String) : TE := callE (e_bi n) as
def tyE (n as : String) : TE := callE (e_ty n) as
def reE (n : Nat) (as : String) : TE := callE (e_re n) as
/-- a line of the walk: the look, the rule, the count of the new names -/
def lineM (how : Char) (sh : TE) (lem : Lean.Name) (code : String) (n : Nat) (whole : Bool) (ord : List Nat) : MacroM TT := do
  let r ← ruleM lem code ord (if whole then t_W else t_l)
  return seqT [t_H, redT (showT sh), if how == 'u' then unfT r else if how == 'd' then dfltT r else r] (introT n)
/-- the same without a look -/
def bareM (how : Char) (lem : Lean.Name) (code : String) : MacroM TT := do
  let r ← ruleM lem code [] t_W
  return thenT t_H (if how == 'u' then unfT r else r)
def haltT : TT := thenT t_H t_h
def foldT : TT := thenT t_H t_F
def markM : MacroM TT := do
  let h := Lean.mkIdent (← Lean.MonadQuotation.addMacroScope `hm9)
  return seqT [t_H, redT (qs `(tactic| rename $(idE `Mine.HaltMark) => $h:ident))] t_h
/-- lists of new things, symbolic behind -/
def neT (none mine : Bool) : TT :=
  let w := byE t_w
  let last : TT := qs `(tactic| (left; refine neN ?_; (try dsimp only); omega))
  let l := (if mine then [t_w] else []) ++ [exT (apE `Or.inr [Lean.mkIdent `Mine.tuple_ne])] ++ (if none then [exT (apE `Or.inr [Lean.mkIdent `Mine.none_list])] else []) ++ [exT (apE `Or.inr [apE `Mine.iter_ne [w]]), exT (apE `Or.inl [w]), exT (apE `Or.inl [apE `Nat.ne_of_gt [w]]), exT (apE `Or.inl [apE `Nat.ne_of_lt [w]])]
  l.foldr firstT last
theorem all_cons {α : Type} {P : α → Prop} {a : α} {l : List α} (h : P a) (k : ∀ x ∈ l, P x) : ∀ x ∈ a :: l, P x := List.forall_mem_cons.mpr ⟨h, k⟩
def allM (mine : Bool) : MacroM TT := do
  let l ← ruleM `Mine.all_cons "12" [] t_l
  return firstT (exT (apE `Mine.rest_ne [byE t_w])) (firstT (exT (apE `List.forall_mem_nil [e_un])) (if mine then firstT t_w l else l))
def updM : MacroM TT := do return firstT (← ruleM `Mine.UpdS.head "2" [] t_l) (← ruleM `Mine.UpdS.tail "1u" [] t_l)
def e_div (n : Nat) : TE := apE `binaryOp [idE `Operator.Div, e_int, apE `Value.int [Lean.quote n, e_un]]
def e_add : TE := apE `binaryOp [idE `Operator.Add, e_str, e_str]
def e_sub (k : TE) : TE := apE `subscriptTail [e_un, e_un, e_ref, apE `Value.int [k, e_un]]
def e_4 : TE := apE `Int.fmod [e_un, Lean.quote (4 : Nat)]
def e_46 : TE := apE `Int.fmod [apE `Int.fdiv [e_un, Lean.quote (4 : Nat)], Lean.quote (6 : Nat)]
def e_subR : TE := apE `subscriptTail [e_un, e_un, e_ref, e_ref]
def e_addR : TE := apE `binaryOp [idE `Operator.Add, e_ref, e_ref]
def e_bA : TE := apE `Value.builtin [e_un]
/-- «append» to a list whose ledger is symbolic behind -/
def appM : MacroM TT := do return seqT [t_H, firstT (redT (showT (callE e_bA "r_"))) (showT (biE "list.append" "r_")), dfltT (← ruleM `Mine.append_S "kkuz!" [] t_W)] (introT 3)
/-- new things whose place in the ledger is kept under one name -/
def newQM (lem : Lean.Name) (code : String) (n : Nat) : MacroM TT := do
  let h := Lean.mkIdent (← Lean.MonadQuotation.addMacroScope `hq9)
  return seqT [t_H, redT (qs `(tactic| rename $(idE `Mine.QMark) => $h:ident)), dfltT (← ruleM lem code [] t_l), introT n] t_sw
def ltM : MacroM TT := do
  let h := Lean.mkIdent (← Lean.MonadQuotation.addMacroScope `l1)
  return qs `(tactic| (intro $h:ident; (try k_lt $h:ident)))
end Mine
end

section
set_option maxRecDepth 100000
namespace Mine
open PySem PySem.StrLaws PySem.Builtin PySem.Builtin.Str PyProof.Rows
noncomputable abbrev ls (x : Str) : List Nat := x.cps.toList
theorem ls_inj {x y : Str} (h : ls x = ls y) : x = y := by
  cases x with | mk a => cases y with | mk b => exact congrArg Str.mk (Array.toList_inj.mp h)
theorem ls_app (x y : Str) : ls (x ++ y) = ls x ++ ls y := by show (x.cps ++ y.cps).toList = _; simp
theorem ls_len (x : Str) : x.length = (ls x).length := by simp [ls, Str.length]
theorem takeWhile_pre (p : Nat → Bool) : ∀ (a b : List Nat), (∀ c ∈ a, p c = true) → (b = [] ∨ ∃ c r, b = c :: r ∧ p c = false) → (a ++ b).takeWhile p = a := by
  intro a
  induction a with
  | nil =>
    intro b _ h
    rcases h with rfl | ⟨c, r, rfl, hc⟩
    · rfl
    · simp [hc]
  | cons c r ih =>
    intro b h hb
    simp only [List.cons_append, List.takeWhile_cons, h c (.head _), if_true]
    rw [ih b (fun c hc => h c (.tail _ hc)) hb]
theorem strip_mid {x : Str} {pre mid post : List Nat} (hx : ls x = pre ++ mid ++ post) (h1 : ∀ c ∈ pre, Unicode.isSpace c = true) (h2 : ∀ c ∈ post, Unicode.isSpace c = true)
    (h3 : ∃ c r, mid = c :: r ∧ Unicode.isSpace c = false) (h4 : ∃ c r, mid = r ++ [c] ∧ Unicode.isSpace c = false) : ls (Txt.strip x) = mid := by
  unfold Txt.strip
  rw [stripBy_eq]
  have hlo : stripLo Unicode.isSpace true x = pre.length := by
    simp only [stripLo, if_true]
    show ((ls x).takeWhile _).length = _
    rw [hx, List.append_assoc, takeWhile_pre _ _ _ h1]
    obtain ⟨c, r, rfl, hc⟩ := h3
    exact .inr ⟨c, r ++ post, rfl, hc⟩
  rw [hlo]
  have hhi : stripHi Unicode.isSpace true x pre.length = pre.length + mid.length := by
    simp only [stripHi, if_true]
    have e1 : x.cps.toList.drop pre.length = mid ++ post := by
      show (ls x).drop _ = _
      rw [hx, List.append_assoc, List.drop_left]
    rw [e1, List.reverse_append, takeWhile_pre _ _ _ (fun c hc => h2 c (List.mem_reverse.mp hc))]
    · rw [ls_len, hx]; simp; omega
    · obtain ⟨c, r, rfl, hc⟩ := h4
      exact .inr ⟨c, r.reverse, by simp, hc⟩
  rw [hhi]
  show (strSub x _ _).cps.toList = mid
  rw [strSub_toList]
  show ((ls x).drop _).take _ = _
  rw [hx, List.append_assoc, List.drop_left, show pre.length + mid.length - pre.length = mid.length by omega, List.take_left]
theorem join_cons2 (z p q : Str) (r : List Str) : Str.join z (p :: q :: r) = p ++ z ++ Str.join z (q :: r) := rfl
theorem ls_join_cons (z p : Str) (r : List Str) (h : r ≠ []) : ls (Str.join z (p :: r)) = ls p ++ ls z ++ ls (Str.join z r) := by
  cases r with
  | nil => exact absurd rfl h
  | cons q r => rw [join_cons2, ls_app, ls_app]
theorem free_split {c : Nat} : ∀ {a b a' b' : List Nat}, c ∉ a → c ∉ a' → a ++ c :: b = a' ++ c :: b' → a = a' ∧ b = b' := by
  intro a
  induction a with
  | nil =>
    intro b a' b' _ h' e
    cases a' with
    | nil => simpa using e
    | cons d r => simp only [List.nil_append, List.cons_append, List.cons.injEq] at e; exact absurd (by rw [e.1]; exact .head _) h'
  | cons d r ih =>
    intro b a' b' h h' e
    cases a' with
    | nil => simp only [List.nil_append, List.cons_append, List.cons.injEq] at e; exact absurd (by rw [← e.1]; exact .head _) h
    | cons d' r' =>
      simp only [List.cons_append, List.cons.injEq] at e
      obtain ⟨h1, h2⟩ := ih (fun hh => h (.tail _ hh)) (fun hh => h' (.tail _ hh)) e.2
      exact ⟨by rw [e.1, h1], h2⟩
theorem join_unique {c : Nat} : ∀ {xs ys : List Str}, xs ≠ [] → ys ≠ [] → (∀ x ∈ xs, c ∉ ls x) → (∀ y ∈ ys, c ∉ ls y) → ls (Str.join ⟨#[c]⟩ xs) = ls (Str.join ⟨#[c]⟩ ys) → xs = ys := by
  intro xs
  induction xs with
  | nil => intro ys h; exact absurd rfl h
  | cons x xr ih =>
    intro ys _ hy hx hy2 e
    cases ys with
    | nil => exact absurd rfl hy
    | cons y yr =>
      have hx0 := hx x (.head _)
      have hy0 := hy2 y (.head _)
      by_cases h1 : xr = []
      · subst h1
        by_cases h2 : yr = []
        · subst h2; rw [show x = y from ls_inj e]
        · rw [ls_join_cons _ _ _ h2] at e
          exfalso; apply hx0
          show c ∈ ls (Str.join ⟨#[c]⟩ [x])
          rw [e]; simp
      · rw [ls_join_cons _ _ _ h1] at e
        by_cases h2 : yr = []
        · subst h2
          exfalso; apply hy0
          show c ∈ ls (Str.join ⟨#[c]⟩ [y])
          rw [← e]; simp
        · rw [ls_join_cons _ _ _ h2] at e
          have e' : ls x ++ c :: ls (Str.join ⟨#[c]⟩ xr) = ls y ++ c :: ls (Str.join ⟨#[c]⟩ yr) := by
            have e1 : ls ⟨#[c]⟩ = [c] := rfl
            rw [e1, List.append_assoc, List.append_assoc] at e; exact e
          obtain ⟨a1, a2⟩ := free_split hx0 hy0 e'
          rw [ls_inj a1, ih h1 h2 (fun z hz => hx z (.tail _ hz)) (fun z hz => hy2 z (.tail _ hz)) a2]
theorem txt_join (z : Str) (l : List Str) : Txt.join z l = Str.join z l := glued_eq_join z l
theorem split_join {c : Nat} {xs : List Str} (h : xs ≠ []) (hx : ∀ x ∈ xs, c ∉ ls x) : Txt.split (Txt.join ⟨#[c]⟩ xs) ⟨#[c]⟩ = xs := by
  rw [txt_join]
  refine join_unique (c := c) ?_ h (split_free _ c) hx (congrArg ls (join_split _ _))
  intro e
  have := split_pos (Str.join ⟨#[c]⟩ xs) ⟨#[c]⟩
  rw [e] at this; exact absurd this (by decide)
theorem join_snoc (z : Str) : ∀ (l : List Str) (x : Str), l ≠ [] → Str.join z (l ++ [x]) = Str.join z l ++ z ++ x := by
  intro l
  induction l with
  | nil => intro x h; exact absurd rfl h
  | cons p r ih =>
    intro x _
    cases r with
    | nil => rfl
    | cons q r =>
      have := ih x (List.cons_ne_nil _ _)
      show p ++ z ++ Str.join z ((q :: r) ++ [x]) = _
      rw [this, join_cons2]
      exact ls_inj (by simp [ls_app])
theorem str_assoc (a b c : Str) : a ++ b ++ c = a ++ (b ++ c) := ls_inj (by simp [ls_app])
end Mine
end

section
set_option maxRecDepth 100000
namespace Mine
open PySem PySem.StrLaws PySem.Builtin PySem.Builtin.Str PyProof.Rows
noncomputable def digs (l : List Nat) : Bool := !l.isEmpty && decide (l.length ≤ 2) && l.all fun c => decide (48 ≤ c ∧ c ≤ 57)
theorem tabDig : ∀ n : Fin 100, digs (ls (Str.ofString (toString ((n.val : Nat) : Int)))) = true := by decide +kernel
noncomputable def aheads4 : List Str := [Str.ofString "", Str.ofString "00", Str.ofString "+", Str.ofString " "]
theorem tabInt : ∀ k : Fin 4, ∀ n : Fin 100, PySem.intText? (aheads4.getD k.val Str.empty ++ Str.ofString (toString ((n.val : Nat) : Int))) = some ((n.val : Nat) : Int) := by decide +kernel
theorem tabBad : ∀ k : Fin 4, ∀ n : Fin 100, PySem.intText? (aheads4.getD k.val Str.empty ++ Str.ofString (toString ((n.val : Nat) : Int)) ++ Str.ofString "b") = none := by decide +kernel
theorem tabBad0 : PySem.intText? (Str.ofString "") = none := by decide +kernel
end Mine
end

section
open PySem PySem.W PyProof.Rows
set_option maxRecDepth 100000
set_option maxHeartbeats 8000000
namespace Mine
open_top hd for PySem.Challenge.rw_ny0082_01
end Mine
end

section
set_option maxRecDepth 100000
namespace Mine
open PySem PySem.W PySem.Calls PyProof.Rows

/-- the top as the walks know it: its names alone (no table of a def's code is told of) -/
noncomputable def vw : Program := { hd.view_39 with main := { hd.view_39.main with body := [] } }
noncomputable def lo : List Str := [Str.ofString "_norm_version", Str.ofString "_platform", Str.ofString "rgb_to_hsv", Str.ofString "hsv_to_rgb", Str.ofString "_law_wheel", Str.ofString "_law_straight", Str.ofString "_law_read", Str.ofString "law"]
/-- one heap by another name -/
structure Same (g h : Heap) : Prop where
  at_ : ∀ b, g.get? b = h.get? b
  size : g.objs.size = h.objs.size
/-- a plain def entered from a heap that is kept whole -/
theorem enterP {prog : Program} {w : World} {A : Around} {s : Shared} {base : Heap} {outer : List Env} {K : Frag} {p : Program} {loose : List Str} {mean : ExcName → Option Value} {mg mb : Str → Option Value}
    {R : Result → Shared → Prop} {name qual : Str} {params : Arguments} {body : List Stmt} {scope : Scope} {dV kV doc pm cdv ct oc : Value} {an od : Option Addr} {osl : Array (Option Value)} {f : Addr} {args : Args} {binds : List (Str × Value)}
    (B : Below A base outer s.heap) (X : K.In s.heap) (T : Top p loose mean mg mb s.heap)
    (ho : K.lookup f = some ⟨oc, od, .func (fnOf name qual params body scope dV kV doc pm an cdv ct), osl⟩) (hcd : codeIn K cdv qual = true) (hroom : A.depth < recursionLimit)
    (hbind : BindsTo s (fnOf name qual params body scope dV kV doc pm an cdv ct) args binds) (hloc : ∀ y ∈ binds, scope.names.lookup y.1 = some .local)
    (h : ∀ g L' h₁, Same g s.heap → Fr g L' h₁ (fun y => binds.reverse.lookup y) → News g L' h₁ [] → Below A base outer g → K.In g → Top p loose mean mg mb g →
      wpAny (model prog w) (A.deeper (envOf qual scope L' f cdv)) (execs body (envOf qual scope L' f cdv))
        (fun fl s' => R (.ok (.ret (match fl with | .ret v => v | _ => .none))) s')
        (fun e s' => wpAny (model prog w) (A.deeper (envOf qual scope L' f cdv)) (leaving (envOf qual scope L' f cdv) e) (fun _ s'' => R (.error e) s'') (fun e' s'' => R (.error e') s'') s')
        { s with heap := h₁, toks := s.toks + binds.length })
    (hco : scope.isCoroutine = false) (hgen : scope.isGenerator = false) (hk : scope.kind = .function)
    (hcell : ∀ x ∈ scope.names, x.2 ≠ .cell) : codeAny (model prog w) A (.call (.ref f) args) R s := by
  refine codeAny_call_def (fd := fnOf name qual params body scope dV kV doc pm an cdv ct) (body := body) (binds := binds) hroom (X _ _ ho) rfl T.nolimit (codeRec_of X hcd) rfl hbind hcell hloc (fun h₁ hns hk₁ => ?_) hco hgen hk
  exact h s.heap s.heap.objs.size h₁ ⟨fun _ => rfl, rfl⟩ ⟨hns, hk₁, Nat.le_refl _⟩ News.nil B X T
end Mine
end

section
set_option maxRecDepth 100000
namespace Mine
open PySem PySem.W PySem.Calls PyProof.Rows

noncomputable def wayI (a k : Int) : Int := if (a - k + 48).fmod 96 - 48 < 0 then -((a - k + 48).fmod 96 - 48) else (a - k + 48).fmod 96 - 48
noncomputable def clipI (v : Int) : Int := if (if v - 16 > 0 then v - 16 else 0) < 16 then (if v - 16 > 0 then v - 16 else 0) else 16
noncomputable def numI (a b c k : Int) : Int := c * (128 - b * clipI (wayI a k))
noncomputable def partF (a b c k : Int) : UInt64 := Float64.ofFrac (decide (numI a b c k < 0) != decide ((1024 : Int) < 0)) (numI a b c k).natAbs (Int.natAbs 1024)

theorem clip_bd (v : Int) : 0 ≤ clipI v ∧ clipI v ≤ 16 := by
  unfold clipI; split <;> split <;> omega
theorem num_bd {a b c : Int} (k : Int) (hb : 0 ≤ b) (hb' : b < 9) (hc : 0 ≤ c) (hc' : c < 9) : 0 ≤ numI a b c k ∧ numI a b c k ≤ 1024 := by
  have h := clip_bd (wayI a k)
  unfold numI
  generalize clipI (wayI a k) = u at h
  have h1 : 0 ≤ b * u := Int.mul_nonneg hb h.1
  have h2 : b * u ≤ 8 * 16 := Int.mul_le_mul (by omega) h.2 h.1 (by omega)
  generalize b * u = v at h1 h2
  have h3 : 0 ≤ c * (128 - v) := Int.mul_nonneg hc (by omega)
  have h4 : c * (128 - v) ≤ 8 * 128 := Int.mul_le_mul (by omega) (by omega) (by omega) (by omega)
  omega
theorem frac_all : ∀ n : Fin 1025, Float64.isInf (Float64.ofFrac false n.val 1024) = false := by decide +kernel
theorem part_eq {a b c : Int} (k : Int) (hb : 0 ≤ b) (hb' : b < 9) (hc : 0 ≤ c) (hc' : c < 9) : partF a b c k = Float64.ofFrac false (numI a b c k).toNat 1024 := by
  have h := num_bd (a := a) k hb hb' hc hc'
  have e1 : decide (numI a b c k < 0) = false := decide_eq_false (by omega)
  have e2 : (numI a b c k).natAbs = (numI a b c k).toNat := by
    obtain ⟨j, hj⟩ := Int.eq_ofNat_of_zero_le h.1
    rw [hj]; rfl
  unfold partF
  rw [e1, e2]
  rfl
theorem part_fin {a b c : Int} (k : Int) (hb : 0 ≤ b) (hb' : b < 9) (hc : 0 ≤ c) (hc' : c < 9) : Float64.isInf (partF a b c k) = false := by
  rw [part_eq k hb hb' hc hc']
  have h := num_bd (a := a) k hb hb' hc hc'
  exact frac_all ⟨(numI a b c k).toNat, by omega⟩
end Mine
end

section
set_option maxRecDepth 100000
namespace Mine
open PySem PySem.W PySem.Calls PyProof.Rows
noncomputable abbrev tupF (x y z : UInt64) (t u v : Tok) : Obj := { cls := .type "tuple", data := .seq #[.float x t, .float y u, .float z v] }
theorem divW {prog : Program} {w : World} {A : Around} {E : Value → Shared → Prop} {s : Shared} {Q : Value → Shared → Prop} {a b c k : Int} {t u : Tok} (hb : 0 ≤ b) (hb' : b < 9) (hc : 0 ≤ c) (hc' : c < 9) (ht : 0 < s.toks)
    (h : ∀ t' k', 0 < t' → Q (.float (partF a b c k) t') { s with toks := k' }) : wpAny (model prog w) A (binaryOp .Div (.int (numI a b c k) t) (.int 1024 u)) Q E s :=
  AutoIntOps.truediv_2 (by decide) (fun e => Bool.noConfusion ((part_fin (a := a) k hb hb' hc hc').symm.trans e)) (h _ _ ht)
noncomputable def overlay : List (Str × Value) → (Str → Option Value) → Str → Option Value
  | [], m => m
  | (x, v) :: l, m => fun y => if y = x then some v else overlay l m y
theorem overlay_eq {m : Str → Option Value} : ∀ {l : List (Str × Value)}, (∀ p ∈ l, m p.1 = some p.2) → overlay l m = m
  | [], _ => rfl
  | (x, v) :: l, h => by
    funext y
    show (if y = x then some v else overlay l m y) = m y
    rw [overlay_eq fun p hp => h p (.tail _ hp)]
    by_cases e : y = x
    · rw [if_pos e, e]; exact (h _ (.head _)).symm
    · rw [if_neg e]
noncomputable def Halt (p : Prop) : Prop := p
theorem Halt.out {p : Prop} (h : Halt p) : p := h
noncomputable def HaltMark : Prop := True
/-- one turn of the wheel's loop -/
noncomputable def TurnW (M : Model) (A : Around) (E : Value → Shared → Prop) (body : List Stmt) (env : Env) (g : Heap) (L P : Addr) (a b c : Int) : Prop :=
  ∀ (k : Int) (t1 t2 t3 t4 : Tok) (m : Str → Option Value) (its : Array Value) (n : Nat) (q1 q2 : Addr × Obj) (s : Shared) (Q : Flow → Shared → Prop),
    m (Str.ofString "place") = some (.int a t1) → m (Str.ofString "share") = some (.int b t2) → m (Str.ofString "level") = some (.int c t3) → m (Str.ofString "corner") = some (.int k t4) → m (Str.ofString "parts") = some (.ref P) →
    Fr g L s.heap m → News g L s.heap [q1, q2, (P, W.listOf its n)] → q1.1 ≠ P → q2.1 ≠ P → its.size ≤ 100 →
    (∀ h' tk' t' v, 0 < t' → Fr g L h' (fun y => if y = Str.ofString "way" then some v else m y) → News g L h' [q1, q2, (P, W.listOf (its.push (.float (partF a b c k) t')) (n + 1))] → Q .next { s with heap := h', toks := tk' }) →
    wpAny M A (execs body env) Q E s
theorem cutW {M : Model} {A : Around} {E : Value → Shared → Prop} {body : List Stmt} {env : Env} {Q : Flow → Shared → Prop} {s : Shared} (g : Heap) (L P : Addr) (a b c : Int) (turn : TurnW M A E body env g L P a b c)
    (use : TurnW M A E body env g L P a b c → wpAny M A (execs body env) Q E s) : wpAny M A (execs body env) Q E s := use turn
theorem append_W {prog : Program} {w : World} {A : Around} {E : Value → Shared → Prop} {s : Shared} {g : Heap} {L P : Addr} {m : Str → Option Value} {its : Array Value} {n : Nat} {x : Value} {q1 q2 : Addr × Obj} {Q : Value → Shared → Prop} (F : Fr g L s.heap m) (N : News g L s.heap [q1, q2, (P, W.listOf its n)]) (h1 : q1.1 ≠ P) (h2 : q2.1 ≠ P) (hz : its.size ≤ 100)
    (h : ∀ h', Fr g L h' m → News g L h' [q1, q2, (P, W.listOf (its.push x) (n + 1))] → Q .none { s with heap := h' }) : wpAny (model prog w) A (call (.builtin "list.append") [.ref P, x]) Q E s :=
  append_K (hsz := Nat.le_trans hz (by size_fits)) F N (.tail h1 (.tail h2 (.head (fun _ hq => (nomatch hq))))) h
local macro_rules | `(tactic| walk_at "execs cons") => markM
local macro_rules | `(tactic| walk_at "binaryOp Div int int") => lineM 'd' (e_div 1024) `Mine.divW "aaaas!" 3 true []
local macro_rules | `(tactic| walk_at "call builtin:list.append") => lineM 'd' (callE e_bA "r_") `Mine.append_W "kkaaa!" 3 true []
set_option maxHeartbeats 8000000 in
theorem wheel_code : ∀ (w : World) (mean : ExcName → Option Value) (mg mb : Str → Option Value) (a b c : Int) (t1 t2 t3 : Tok)
   (_ : 0 ≤ b) (_ : b < 9) (_ : 0 ≤ c) (_ : c < 9)
    (dp un : Nat) (gd : Option (List Code)) (outer : List Env) (base : Heap) (s : Shared) (R : Result → Shared → Prop)
    (_ : Below { handled := none, depth := dp, frames := some outer, guards := gd, units := un } base outer s.heap) (_ : (hd.heap_39 w.params).In s.heap) (_ : Top vw lo mean mg mb s.heap)
    (_ : dp + 4 < recursionLimit) (_ : un + 40 < cLine)
   (_ : ∀ D h' tk' t u v, (∀ b o, s.heap.get? b = some o → h'.get? b = some o) → s.heap.get? D = none → h'.get? D = some (tupF (partF a b c 0) (partF a b c 32) (partF a b c 64) t u v) → 0 < t → 0 < u → 0 < v → R (.ok (.ret (.ref D))) { s with heap := h', toks := tk' }),
      codeAny (model Challenge.rw_ny0082_01.row.prog w) { handled := none, depth := dp, frames := some outer, guards := gd, units := un } (.call (.ref 50) ⟨[.int a t1, .int b t2, .int c t3], []⟩) R s := by
  w_top off
  k_fill
  intro w mean mg mb a b c t1 t2 t3 hb hb' hc hc' dp un gd outer base s R B KI T hdp hun hR
  (refine' enterP (binds := [(Str.ofString "place", .int a t1), (Str.ofString "share", .int b t2), (Str.ofString "level", .int c t3)]) ?kB ?kX ?kT ?k6 ?k7 ?k8 ?k9 ?kL ?_ ?c2 ?c3 ?c4 ?c5; (case kB => assumption); (case kX => assumption); (case kT => assumption); (case k6 => k_is); (case k7 => k_is); (case k8 => ktr_room); (case k9 => exact BindsTo.of_eq rfl); (case c5 => decide); (case kL => exact locs rfl); (case c2 => exact rfl); (case c3 => exact rfl); (case c4 => exact rfl); k_whole; intro g' L' h' hG F' N' B' X' T'; (try dsimp only); (try k_lift B'); (try k_fold))
  refine wpAny_execs_cons ?_
  have hm9 : HaltMark := trivial
  k_steps
  unfold Halt
  dsimp only
  refine wpAny_execs_cons ?_
  k_steps
  unfold Halt
  rename_i P _ _ _ TU _ lT IT lI _ _ _ _ _ _ _ _ _
  rename News _ _ _ _ => NN
  rename Fr _ _ _ _ => FF
  refine cutW g' L' P a b c ?turn ?use
  case turn =>
    clear NN FF
    with_reducible rename HaltMark => hx
    clear hx
    rintro k t1 t2 t3 t4 m its n q1 q2 ⟨hp, gens, dr, tk, os⟩ Q h1 h2 h3 h4 h5 F N e1 e2 hz next
    dsimp only at F N next
    have hm : ∀ p ∈ [(Str.ofString "place", Value.int a t1), (Str.ofString "share", Value.int b t2), (Str.ofString "level", Value.int c t3), (Str.ofString "corner", Value.int k t4), (Str.ofString "parts", Value.ref P)], m p.1 = some p.2 :=
      List.forall_mem_cons.mpr ⟨h1, List.forall_mem_cons.mpr ⟨h2, List.forall_mem_cons.mpr ⟨h3, List.forall_mem_cons.mpr ⟨h4, List.forall_mem_cons.mpr ⟨h5, List.forall_mem_nil _⟩⟩⟩⟩⟩
    rw [← overlay_eq hm] at F next
    dsimp only [overlay] at F next
    clear hm h1 h2 h3 h4 h5
    k_steps
    rename News _ _ _ _ => NN
    rename Fr _ _ _ _ => FF
    exact next _ _ _ _ (by assumption) FF NN
  case use =>
    intro tw
    have hI : IT ≠ P := Nat.ne_of_gt lI.2
    have hT : TU ≠ P := Nat.ne_of_gt lT
    refine tw 0 _ _ _ _ _ #[] 0 _ _ _ _ rfl rfl rfl rfl rfl FF NN hI hT (by decide) ?_
    intro h1 k1 u1 v1 p1 F1 N1
    clear FF NN
    k_steps
    unfold Halt
    rename News _ _ _ _ => NN
    rename Fr _ _ _ _ => FF
    refine tw 32 _ _ _ _ _ _ _ _ _ _ _ rfl rfl rfl rfl rfl FF NN hI hT (Nat.le_of_ble_eq_true rfl) ?_
    intro h2 k2 u2 v2 p2 F2 N2
    clear FF NN
    k_steps
    unfold Halt
    rename News _ _ _ _ => NN
    rename Fr _ _ _ _ => FF
    refine tw 64 _ _ _ _ _ _ _ _ _ _ _ rfl rfl rfl rfl rfl FF NN hI hT (Nat.le_of_ble_eq_true rfl) ?_
    intro h3 k3 u3 v3 p3 F3 N3
    clear FF NN tw
    k_steps
    with_reducible rename HaltMark => hx
    clear hx
    unfold Halt
    k_steps
    rename News _ _ _ _ => NN
    rename Fr _ _ _ _ => FF
    exact hR _ _ _ _ _ _ (fun b o e => FF.keep b o ((hG.at_ b).trans e)) ((hG.at_ _).symm.trans (NN _ (.head _)).2.2) (NN _ (.head _)).1 p1 p2 p3
end Mine
end

section
set_option maxRecDepth 100000
namespace Mine
open PySem PySem.W PySem.Calls PyProof.Rows
noncomputable def hI (h : UInt64) : Int := Flt.toInt Float64.truncOf (Float64.mul h 4618441417868443648)
noncomputable def hFr (h : UInt64) : UInt64 := Float64.sub (Float64.mul h 4618441417868443648) (Float64.ofInt (hI h))
noncomputable def pF (s v : UInt64) : UInt64 := Float64.mul v (Float64.sub 4607182418800017408 s)
noncomputable def qF (h s v : UInt64) : UInt64 := Float64.mul v (Float64.sub 4607182418800017408 (Float64.mul s (hFr h)))
noncomputable def tF (h s v : UInt64) : UInt64 := Float64.mul v (Float64.sub 4607182418800017408 (Float64.mul s (Float64.sub 4607182418800017408 (hFr h))))
noncomputable def hsvOut (h s v : UInt64) : UInt64 × UInt64 × UInt64 :=
  if (hI h).fmod 6 = 0 then (v, tF h s v, pF s v) else if (hI h).fmod 6 = 1 then (qF h s v, v, pF s v) else if (hI h).fmod 6 = 2 then (pF s v, v, tF h s v)
  else if (hI h).fmod 6 = 3 then (pF s v, qF h s v, v) else if (hI h).fmod 6 = 4 then (tF h s v, pF s v, v) else (v, pF s v, qF h s v)
theorem out0 {h s v : UInt64} (e : (hI h).fmod 6 = 0) : hsvOut h s v = (v, tF h s v, pF s v) := by unfold hsvOut; rw [e]; rfl
theorem out1 {h s v : UInt64} (e : (hI h).fmod 6 = 1) : hsvOut h s v = (qF h s v, v, pF s v) := by unfold hsvOut; rw [e]; rfl
theorem out2 {h s v : UInt64} (e : (hI h).fmod 6 = 2) : hsvOut h s v = (pF s v, v, tF h s v) := by unfold hsvOut; rw [e]; rfl
theorem out3 {h s v : UInt64} (e : (hI h).fmod 6 = 3) : hsvOut h s v = (pF s v, qF h s v, v) := by unfold hsvOut; rw [e]; rfl
theorem out4 {h s v : UInt64} (e : (hI h).fmod 6 = 4) : hsvOut h s v = (tF h s v, pF s v, v) := by unfold hsvOut; rw [e]; rfl
theorem out5 {h s v : UInt64} (e : (hI h).fmod 6 = 5) : hsvOut h s v = (v, pF s v, qF h s v) := by unfold hsvOut; rw [e]; rfl
theorem six_all {x : Int} (h0 : ¬ x.fmod 6 = 0) (h1 : ¬ x.fmod 6 = 1) (h2 : ¬ x.fmod 6 = 2) (h3 : ¬ x.fmod 6 = 3) (h4 : ¬ x.fmod 6 = 4) (h5 : ¬ x.fmod 6 = 5) : False := by
  obtain ⟨k, e, hk⟩ := intAt (n := 6) (x := x.fmod 6) (Int.fmod_nonneg_of_pos x (by decide)) (Int.fmod_lt_of_pos x (by decide))
  rw [e] at h0 h1 h2 h3 h4 h5
  rcases nat6 hk with rfl | rfl | rfl | rfl | rfl | rfl
  · exact h0 rfl
  · exact h1 rfl
  · exact h2 rfl
  · exact h3 rfl
  · exact h4 rfl
  · exact h5 rfl
set_option maxHeartbeats 8000000 in
theorem hsv_code : ∀ (w : World) (mean : ExcName → Option Value) (mg mb : Str → Option Value) (a b c : UInt64) (t1 t2 t3 : Tok)
   (_ : 0 < t3) (_ : (Float64.cmp b 0 == some Ordering.eq) = false) (_ : Float64.isFinite (Float64.mul a 4618441417868443648) = true) (_ : (hI a).natAbs < 2 ^ 1024 - 2 ^ 970)
    (dp un : Nat) (gd : Option (List Code)) (outer : List Env) (base : Heap) (s : Shared) (R : Result → Shared → Prop)
    (_ : Below { handled := none, depth := dp, frames := some outer, guards := gd, units := un } base outer s.heap) (_ : (hd.heap_39 w.params).In s.heap) (_ : Top vw lo mean mg mb s.heap)
    (_ : dp + 4 < recursionLimit) (_ : un + 40 < cLine)
   (_ : ∀ D h' tk' t u v, (∀ b o, s.heap.get? b = some o → h'.get? b = some o) → s.heap.get? D = none → h'.get? D = some (tupF (hsvOut a b c).1 (hsvOut a b c).2.1 (hsvOut a b c).2.2 t u v) → 0 < t → 0 < u → 0 < v → R (.ok (.ret (.ref D))) { s with heap := h', toks := tk' }),
      codeAny (model Challenge.rw_ny0082_01.row.prog w) { handled := none, depth := dp, frames := some outer, guards := gd, units := un } (.call (.ref 43) ⟨[.float a t1, .float b t2, .float c t3], []⟩) R s := by
  w_top off
  k_fill
  intro w mean mg mb a b c t1 t2 t3 ht3 hb hfin hov dp un gd outer base s R B KI T hdp hun hR
  have hR0 : ∀ x y z, hsvOut a b c = (x, y, z) → ∀ D h' tk' t u v, (∀ b o, s.heap.get? b = some o → h'.get? b = some o) → s.heap.get? D = none → h'.get? D = some (tupF x y z t u v) → 0 < t → 0 < u → 0 < v → R (.ok (.ret (.ref D))) { s with heap := h', toks := tk' } := by
    intro x y z e
    rw [e] at hR
    exact hR
  clear hR
  have hov' := PySem.Flt.Hid.mk hov
  clear hov
  (refine' enterP (binds := [(Str.ofString "h", .float a t1), (Str.ofString "s", .float b t2), (Str.ofString "v", .float c t3)]) ?kB ?kX ?kT ?k6 ?k7 ?k8 ?k9 ?kL ?_ ?c2 ?c3 ?c4 ?c5; (case kB => assumption); (case kX => assumption); (case kT => assumption); (case k6 => k_is); (case k7 => k_is); (case k8 => ktr_room); (case k9 => exact BindsTo.of_eq rfl); (case c5 => decide); (case kL => exact locs rfl); (case c2 => exact rfl); (case c3 => exact rfl); (case c4 => exact rfl); k_whole; intro g' L' h' hG F' N' B' X' T'; (try dsimp only); (try k_lift B'); (try k_fold))
  k_steps
  all_goals first
    | (rename News _ _ _ _ => NN; rename Fr _ _ _ _ => FF; (have hk := fun b o (e : s.heap.get? b = some o) => FF.keep b o ((hG.at_ b).trans e)); first
      | exact hR0 _ _ _ (out0 (by assumption)) _ _ _ _ _ _ hk ((hG.at_ _).symm.trans (NN _ (.head _)).2.2) (NN _ (.head _)).1 (by first | assumption | exact Nat.succ_pos _) (by first | assumption | exact Nat.succ_pos _) (by first | assumption | exact Nat.succ_pos _)
      | exact hR0 _ _ _ (out1 (by assumption)) _ _ _ _ _ _ hk ((hG.at_ _).symm.trans (NN _ (.head _)).2.2) (NN _ (.head _)).1 (by first | assumption | exact Nat.succ_pos _) (by first | assumption | exact Nat.succ_pos _) (by first | assumption | exact Nat.succ_pos _)
      | exact hR0 _ _ _ (out2 (by assumption)) _ _ _ _ _ _ hk ((hG.at_ _).symm.trans (NN _ (.head _)).2.2) (NN _ (.head _)).1 (by first | assumption | exact Nat.succ_pos _) (by first | assumption | exact Nat.succ_pos _) (by first | assumption | exact Nat.succ_pos _)
      | exact hR0 _ _ _ (out3 (by assumption)) _ _ _ _ _ _ hk ((hG.at_ _).symm.trans (NN _ (.head _)).2.2) (NN _ (.head _)).1 (by first | assumption | exact Nat.succ_pos _) (by first | assumption | exact Nat.succ_pos _) (by first | assumption | exact Nat.succ_pos _)
      | exact hR0 _ _ _ (out4 (by assumption)) _ _ _ _ _ _ hk ((hG.at_ _).symm.trans (NN _ (.head _)).2.2) (NN _ (.head _)).1 (by first | assumption | exact Nat.succ_pos _) (by first | assumption | exact Nat.succ_pos _) (by first | assumption | exact Nat.succ_pos _)
      | exact hR0 _ _ _ (out5 (by assumption)) _ _ _ _ _ _ hk ((hG.at_ _).symm.trans (NN _ (.head _)).2.2) (NN _ (.head _)).1 (by first | assumption | exact Nat.succ_pos _) (by first | assumption | exact Nat.succ_pos _) (by first | assumption | exact Nat.succ_pos _))
    | (exfalso; exact six_all (by assumption) (by assumption) (by assumption) (by assumption) (by assumption) (by assumption))
    | (exfalso; exact absurd hov'.out (Nat.not_lt.mpr (by assumption)))
end Mine
end

section
set_option maxRecDepth 100000
namespace Mine
open PySem PySem.W PySem.Calls PyProof.Rows PySem.Flt
noncomputable def ltF (x y : UInt64) : Bool := Float64.cmp x y == some .lt
noncomputable def mx3 (x y z : UInt64) : UInt64 := if ltF x y then (if ltF y z then z else y) else (if ltF x z then z else x)
noncomputable def mn3 (x y z : UInt64) : UInt64 := if ltF y x then (if ltF z y then z else y) else (if ltF z x then z else x)
section
variable {prog : Program} {w : World} {A : Around} {E : Value → Shared → Prop} {s : Shared} {Q : Value → Shared → Prop} {x y z : UInt64} {t u r : Tok} {h₀ : Heap} {L : Addr} {m : Str → Option Value} {news : List (Addr × Obj)}
theorem max_three_num {a b c : Value} (hh : A.handled = none) (ha : NumV a) (hb : NumV b) (hc : NumV c)
    (h : ∀ v h' tk, (∀ c o, s.heap.get? c = some o → h'.get? c = some o) → #[a, b, c][argBest (fun i j => ltV (#[a, b, c].getD j .none) (#[a, b, c].getD i .none)) 2]? = some v → Q v { s with heap := h', toks := tk }) :
    wpAny (model prog w) A (call (.builtin "max") [a, b, c]) Q E s := by
  have hT : (s.heap.push { cls := .type "tuple", data := .seq #[a, b, c] }).IsTuple s.heap.objs.size #[a, b, c] := ⟨_, Heap.get?_push_size _ rfl, rfl, 0, rfl⟩
  refine call_max_three (wpAny_pyIter_tuple hT ?_)
  have hsz : (s.heap.push { cls := .type "tuple", data := .seq #[a, b, c] }).objs.size = s.heap.objs.size + 1 := Heap.size_push ..
  refine ⟨_, [_, s.heap.objs.size], [_], _, _, _, _, rfl, Walks.tuple (A := A.in1) hh _ s.heap.objs.size (by rw [hsz]; exact Nat.ne_of_lt (Nat.lt_succ_self _)) #[a, b, c],
    ⟨⟨_, Heap.get?_push_size _ rfl, rfl, rfl⟩, hT.push _⟩, fun c hc => ?_, by simp, cmpOf_gt #[a, b, c] (by simp [ha, hb, hc]), fun v h' tk hP hk => ?_⟩
  · show c < ((s.heap.push _).push _).objs.size
    rw [Heap.size_push, hsz]
    rcases List.mem_cons.mp hc with rfl | hc
    · rw [hsz]; exact Nat.lt_succ_self _
    · rcases List.mem_cons.mp hc with rfl | hc
      · exact Nat.lt_succ_of_lt (Nat.lt_succ_self _)
      · cases hc
  · have hold : ∀ c o, s.heap.get? c = some o → h'.get? c = some o := fun c o e => by
      refine hk c o (fun hm => ?_) (Heap.get?_push_of_some _ (Heap.get?_push_of_some _ e))
      rcases List.mem_cons.mp hm with e1 | hm
      · have := Heap.lt_size e; rw [e1, hsz] at this; exact Nat.lt_irrefl _ (Nat.lt_of_succ_lt this)
      · cases hm
    exact h v h' tk hold hP
theorem min_three_num {a b c : Value} (hh : A.handled = none) (ha : NumV a) (hb : NumV b) (hc : NumV c)
    (h : ∀ v h' tk, (∀ c o, s.heap.get? c = some o → h'.get? c = some o) → #[a, b, c][argBest (fun i j => ltV (#[a, b, c].getD i .none) (#[a, b, c].getD j .none)) 2]? = some v → Q v { s with heap := h', toks := tk }) :
    wpAny (model prog w) A (call (.builtin "min") [a, b, c]) Q E s := by
  have hT : (s.heap.push { cls := .type "tuple", data := .seq #[a, b, c] }).IsTuple s.heap.objs.size #[a, b, c] := ⟨_, Heap.get?_push_size _ rfl, rfl, 0, rfl⟩
  refine call_min_three (wpAny_pyIter_tuple hT ?_)
  have hsz : (s.heap.push { cls := .type "tuple", data := .seq #[a, b, c] }).objs.size = s.heap.objs.size + 1 := Heap.size_push ..
  refine ⟨_, [_, s.heap.objs.size], [_], _, _, _, _, rfl, Walks.tuple (A := A.in1) hh _ s.heap.objs.size (by rw [hsz]; exact Nat.ne_of_lt (Nat.lt_succ_self _)) #[a, b, c],
    ⟨⟨_, Heap.get?_push_size _ rfl, rfl, rfl⟩, hT.push _⟩, fun c hc => ?_, by simp, cmpOf_lt #[a, b, c] (by simp [ha, hb, hc]), fun v h' tk hP hk => ?_⟩
  · show c < ((s.heap.push _).push _).objs.size
    rw [Heap.size_push, hsz]
    rcases List.mem_cons.mp hc with rfl | hc
    · rw [hsz]; exact Nat.lt_succ_self _
    · rcases List.mem_cons.mp hc with rfl | hc
      · exact Nat.lt_succ_of_lt (Nat.lt_succ_self _)
      · cases hc
  · have hold : ∀ c o, s.heap.get? c = some o → h'.get? c = some o := fun c o e => by
      refine hk c o (fun hm => ?_) (Heap.get?_push_of_some _ (Heap.get?_push_of_some _ e))
      rcases List.mem_cons.mp hm with e1 | hm
      · have := Heap.lt_size e; rw [e1, hsz] at this; exact Nat.lt_irrefl _ (Nat.lt_of_succ_lt this)
      · cases hm
    exact h v h' tk hold hP
theorem max3_ff (hh : A.handled = none) (F : Fr h₀ L s.heap m) (N : News h₀ L s.heap news)
    (h : ∀ h' tk v, Fr h₀ L h' m → News h₀ L h' news → Q (.float (mx3 x y z) v) { s with heap := h', toks := tk }) :
    wpAny (model prog w) A (call (.builtin "max") [.float x t, .float y u, .float z r]) Q E s := by
  refine max_three_num hh (.float _ _) (.float _ _) (.float _ _) fun v h' tk kp hP => ?_
  have key : ∃ q, v = .float (mx3 x y z) q := by
    cases h1 : ltF x y <;> cases h2 : ltF y z <;> cases h3 : ltF x z <;>
      simp [argBest, ltV, show ∀ a b, (Float64.cmp a b == some Ordering.lt) = ltF a b from fun _ _ => rfl, h1, h2, h3] at hP <;> simp [mx3, h1, h2, h3, ← hP]
  obtain ⟨q, rfl⟩ := key
  exact h h' tk q (F.grownK kp) (N.grown kp)
theorem min3_ff (hh : A.handled = none) (F : Fr h₀ L s.heap m) (N : News h₀ L s.heap news)
    (h : ∀ h' tk v, Fr h₀ L h' m → News h₀ L h' news → Q (.float (mn3 x y z) v) { s with heap := h', toks := tk }) :
    wpAny (model prog w) A (call (.builtin "min") [.float x t, .float y u, .float z r]) Q E s := by
  refine min_three_num hh (.float _ _) (.float _ _) (.float _ _) fun v h' tk kp hP => ?_
  have key : ∃ q, v = .float (mn3 x y z) q := by
    cases h1 : ltF y x <;> cases h2 : ltF z y <;> cases h3 : ltF z x <;>
      simp [argBest, ltV, show ∀ a b, (Float64.cmp a b == some Ordering.lt) = ltF a b from fun _ _ => rfl, h1, h2, h3] at hP <;> simp [mn3, h1, h2, h3, ← hP]
  obtain ⟨q, rfl⟩ := key
  exact h h' tk q (F.grownK kp) (N.grown kp)
end
end Mine
end

section
set_option maxRecDepth 100000
namespace Mine
open PySem PySem.W PySem.Calls PyProof.Rows PySem.Flt
noncomputable def eqF (x y : UInt64) : Bool := Float64.cmp x y == some .eq
noncomputable def rgF (a b c : UInt64) : UInt64 := Float64.sub (mx3 a b c) (mn3 a b c)
noncomputable def arF (a b c x : UInt64) : UInt64 := Float64.div (Float64.sub (mx3 a b c) x) (rgF a b c)
noncomputable def hueF (a b c : UInt64) : UInt64 := if eqF a (mx3 a b c) then Float64.sub (arF a b c c) (arF a b c b) else if eqF b (mx3 a b c) then Float64.sub (Float64.add 4611686018427387904 (arF a b c a)) (arF a b c c) else Float64.sub (Float64.add 4616189618054758400 (arF a b c b)) (arF a b c a)
noncomputable def rgbOut (a b c : UInt64) : UInt64 × UInt64 × UInt64 := if eqF (mn3 a b c) (mx3 a b c) then (0, 0, mx3 a b c) else ((Float64.divmod (Float64.div (hueF a b c) 4618441417868443648) 4607182418800017408).2, Float64.div (rgF a b c) (mx3 a b c), mx3 a b c)
theorem rgb_g {a b c : UInt64} (h : eqF (mn3 a b c) (mx3 a b c) = true) : rgbOut a b c = (0, 0, mx3 a b c) := by unfold rgbOut; rw [if_pos h]
theorem rgb_1 {a b c : UInt64} (h : eqF (mn3 a b c) (mx3 a b c) = false) (h1 : eqF a (mx3 a b c) = true) : rgbOut a b c = ((Float64.divmod (Float64.div (Float64.sub (arF a b c c) (arF a b c b)) 4618441417868443648) 4607182418800017408).2, Float64.div (rgF a b c) (mx3 a b c), mx3 a b c) := by
  unfold rgbOut hueF; rw [if_neg (by rw [h]; decide), if_pos h1]
theorem rgb_2 {a b c : UInt64} (h : eqF (mn3 a b c) (mx3 a b c) = false) (h1 : eqF a (mx3 a b c) = false) (h2 : eqF b (mx3 a b c) = true) : rgbOut a b c = ((Float64.divmod (Float64.div (Float64.sub (Float64.add 4611686018427387904 (arF a b c a)) (arF a b c c)) 4618441417868443648) 4607182418800017408).2, Float64.div (rgF a b c) (mx3 a b c), mx3 a b c) := by
  unfold rgbOut hueF; rw [if_neg (by rw [h]; decide), if_neg (by rw [h1]; decide), if_pos h2]
theorem rgb_3 {a b c : UInt64} (h : eqF (mn3 a b c) (mx3 a b c) = false) (h1 : eqF a (mx3 a b c) = false) (h2 : eqF b (mx3 a b c) = false) : rgbOut a b c = ((Float64.divmod (Float64.div (Float64.sub (Float64.add 4616189618054758400 (arF a b c b)) (arF a b c a)) 4618441417868443648) 4607182418800017408).2, Float64.div (rgF a b c) (mx3 a b c), mx3 a b c) := by
  unfold rgbOut hueF; rw [if_neg (by rw [h]; decide), if_neg (by rw [h1]; decide), if_neg (by rw [h2]; decide)]
local macro_rules | `(tactic| walk_at "call builtin:max") => lineM 'u' (biE "max" "fff") `Mine.max3_ff "rkk!" 5 true []
local macro_rules | `(tactic| walk_at "call builtin:min") => lineM 'u' (biE "min" "fff") `Mine.min3_ff "rkk!" 5 true []
set_option maxHeartbeats 8000000 in
theorem rgb_code : ∀ (w : World) (mean : ExcName → Option Value) (mg mb : Str → Option Value) (a b c : UInt64) (t1 t2 t3 : Tok)
    (_ : eqF (mn3 a b c) (mx3 a b c) = false → Float64.isZero (mx3 a b c) = false ∧ Float64.isZero (rgF a b c) = false)
    (dp un : Nat) (gd : Option (List Code)) (outer : List Env) (base : Heap) (s : Shared) (R : Result → Shared → Prop)
    (_ : Below { handled := none, depth := dp, frames := some outer, guards := gd, units := un } base outer s.heap) (_ : (hd.heap_39 w.params).In s.heap) (_ : Top vw lo mean mg mb s.heap)
    (_ : dp + 4 < recursionLimit) (_ : un + 40 < cLine)
   (_ : ∀ D h' tk' t u v, (∀ b o, s.heap.get? b = some o → h'.get? b = some o) → s.heap.get? D = none → h'.get? D = some (tupF (rgbOut a b c).1 (rgbOut a b c).2.1 (rgbOut a b c).2.2 t u v) → R (.ok (.ret (.ref D))) { s with heap := h', toks := tk' }),
      codeAny (model Challenge.rw_ny0082_01.row.prog w) { handled := none, depth := dp, frames := some outer, guards := gd, units := un } (.call (.ref 36) ⟨[.float a t1, .float b t2, .float c t3], []⟩) R s := by
  w_top off
  k_fill
  intro w mean mg mb a b c t1 t2 t3 hz dp un gd outer base s R B KI T hdp hun hR
  have hR0 : ∀ x y z, rgbOut a b c = (x, y, z) → ∀ D h' tk' t u v, (∀ b o, s.heap.get? b = some o → h'.get? b = some o) → s.heap.get? D = none → h'.get? D = some (tupF x y z t u v) → R (.ok (.ret (.ref D))) { s with heap := h', toks := tk' } := by
    intro x y z e
    rw [e] at hR
    exact hR
  clear hR
  (refine' enterP (binds := [(Str.ofString "r", .float a t1), (Str.ofString "g", .float b t2), (Str.ofString "b", .float c t3)]) ?kB ?kX ?kT ?k6 ?k7 ?k8 ?k9 ?kL ?_ ?c2 ?c3 ?c4 ?c5; (case kB => assumption); (case kX => assumption); (case kT => assumption); (case k6 => k_is); (case k7 => k_is); (case k8 => ktr_room); (case k9 => exact BindsTo.of_eq rfl); (case c5 => decide); (case kL => exact locs rfl); (case c2 => exact rfl); (case c3 => exact rfl); (case c4 => exact rfl); k_whole; intro g' L' h' hG F' N' B' X' T'; (try dsimp only); (try k_lift B'); (try k_fold))
  k_steps
  all_goals first
    | (rename News _ _ _ _ => NN; rename Fr _ _ _ _ => FF; (have hk := fun b o (e : s.heap.get? b = some o) => FF.keep b o ((hG.at_ b).trans e)); first
      | exact hR0 _ _ _ (rgb_g (by assumption)) _ _ _ _ _ _ hk ((hG.at_ _).symm.trans (NN _ (.head _)).2.2) (NN _ (.head _)).1
      | exact hR0 _ _ _ (rgb_1 (by assumption) (by assumption)) _ _ _ _ _ _ hk ((hG.at_ _).symm.trans (NN _ (.head _)).2.2) (NN _ (.head _)).1
      | exact hR0 _ _ _ (rgb_2 (by assumption) (by assumption) (by assumption)) _ _ _ _ _ _ hk ((hG.at_ _).symm.trans (NN _ (.head _)).2.2) (NN _ (.head _)).1
      | exact hR0 _ _ _ (rgb_3 (by assumption) (by assumption) (by assumption)) _ _ _ _ _ _ hk ((hG.at_ _).symm.trans (NN _ (.head _)).2.2) (NN _ (.head _)).1)
    | (exfalso; rename Float64.isZero _ = true => hZ; have hz' := hz (by assumption); first | exact Bool.noConfusion (hz'.1.symm.trans hZ) | exact Bool.noConfusion (hz'.2.symm.trans hZ))
end Mine
end

section
set_option maxRecDepth 100000
namespace Mine
open PySem PySem.W PySem.Calls PyProof.Rows PySem.Flt
theorem zero_is : (Float64.cmpInt 0 0 == some Ordering.eq) = true := by decide +kernel
theorem eq_zero {prog : Program} {w : World} {A : Around} {E : Value → Shared → Prop} {s : Shared} {Q : Value → Shared → Prop} {t u : Tok} (h : Q (.bool true) s) : wpAny (model prog w) A (compareOp .Eq (.int 0 u) (.float 0 t)) Q E s := eq_if (by rw [zero_is]; exact h)
local macro_rules | `(tactic| walk_at "compareOp Eq int float") => bareM 'u' `Mine.eq_zero "!"
set_option maxHeartbeats 8000000 in
theorem hsvg_code : ∀ (w : World) (mean : ExcName → Option Value) (mg mb : Str → Option Value) (c : UInt64) (t1 t2 t3 : Tok) (_ : 0 < t3)
    (dp un : Nat) (gd : Option (List Code)) (outer : List Env) (base : Heap) (s : Shared) (R : Result → Shared → Prop)
    (_ : Below { handled := none, depth := dp, frames := some outer, guards := gd, units := un } base outer s.heap) (_ : (hd.heap_39 w.params).In s.heap) (_ : Top vw lo mean mg mb s.heap)
    (_ : dp + 4 < recursionLimit) (_ : un + 40 < cLine)
   (_ : ∀ D h' tk' t u v, (∀ b o, s.heap.get? b = some o → h'.get? b = some o) → s.heap.get? D = none → h'.get? D = some (tupF c c c t u v) → 0 < t → 0 < u → 0 < v → R (.ok (.ret (.ref D))) { s with heap := h', toks := tk' }),
      codeAny (model Challenge.rw_ny0082_01.row.prog w) { handled := none, depth := dp, frames := some outer, guards := gd, units := un } (.call (.ref 43) ⟨[.int 0 t1, .int 0 t2, .float c t3], []⟩) R s := by
  w_top off
  k_fill
  intro w mean mg mb c t1 t2 t3 ht3 dp un gd outer base s R B KI T hdp hun hR
  (refine' enterP (binds := [(Str.ofString "h", .int 0 t1), (Str.ofString "s", .int 0 t2), (Str.ofString "v", .float c t3)]) ?kB ?kX ?kT ?k6 ?k7 ?k8 ?k9 ?kL ?_ ?c2 ?c3 ?c4 ?c5; (case kB => assumption); (case kX => assumption); (case kT => assumption); (case k6 => k_is); (case k7 => k_is); (case k8 => ktr_room); (case k9 => exact BindsTo.of_eq rfl); (case c5 => decide); (case kL => exact locs rfl); (case c2 => exact rfl); (case c3 => exact rfl); (case c4 => exact rfl); k_whole; intro g' L' h' hG F' N' B' X' T'; (try dsimp only); (try k_lift B'); (try k_fold))
  k_steps
  all_goals first
    | (rename News _ _ _ _ => NN; rename Fr _ _ _ _ => FF; (have hk := fun b o (e : s.heap.get? b = some o) => FF.keep b o ((hG.at_ b).trans e)); exact hR _ _ _ _ _ _ hk ((hG.at_ _).symm.trans (NN _ (.head _)).2.2) (NN _ (.head _)).1 (by first | assumption | exact Nat.succ_pos _) (by first | assumption | exact Nat.succ_pos _) (by first | assumption | exact Nat.succ_pos _))
    | skip
end Mine
end

section
set_option maxRecDepth 100000
namespace Mine.MF
open PySem
theorem owner_map : Manifest.owners.lookup (String.ofList ['p', 'a', 'm'].reverse) = some Manifest.sig_map := by kernel_rfl
theorem owner_filter : Manifest.owners.lookup (String.ofList ['r', 'e', 't', 'l', 'i', 'f'].reverse) = some Manifest.sig_filter := by kernel_rfl
theorem map_init : Slot "map" "__init__" "object.__init__" :=
  .of (owner := "object") (n := "__init__") (by rw [typeLookup_type, builtinLookup_eq_fast]; kernel_rfl) (by decide +kernel) (by decide +kernel) (by decide +kernel)
    (by first | exact .inl (by decide +kernel) | exact .inr (by decide +kernel)) (by rw [isSubtype_type]; kernel_rfl)
theorem map_iter : Slot "map" "__iter__" "map.__iter__" :=
  .of (owner := "map") (n := "__iter__") (by rw [typeLookup_type, builtinLookup_eq_fast]; kernel_rfl) (by decide +kernel) (by decide +kernel) (by decide +kernel)
    (by first | exact .inl (by decide +kernel) | exact .inr (by decide +kernel)) (by rw [isSubtype_type]; kernel_rfl)
theorem map_iter_args (a : Value) : argsOk "map.__iter__" ⟨[a], []⟩ := by
  unfold argsOk; rw [signature?_of (id := "map.__iter__") (n := ['_', '_', 'r', 'e', 't', 'i', '_', '_']) (o := ['p', 'a', 'm']) (by kernel_rfl) owner_map]; kernel_rfl
theorem map_iter_entry : entryFor table "map.__iter__" = some Builtin.«dict_keyiterator.__iter__» :=
  entryFor_alias (id' := "dict_keyiterator.__iter__") (by rw [fastTable_eq_tree]; kernel_rfl) (by first | rfl | decide +kernel | (unfold String.splitOn; simp +decide [String.splitOnAux])) (by decide +kernel) (by rw [fastTable_eq_tree]; kernel_rfl)
theorem map_next : Slot "map" "__next__" "map.__next__" :=
  .of (owner := "map") (n := "__next__") (by rw [typeLookup_type, builtinLookup_eq_fast]; kernel_rfl) (by decide +kernel) (by decide +kernel) (by decide +kernel)
    (by first | exact .inl (by decide +kernel) | exact .inr (by decide +kernel)) (by rw [isSubtype_type]; kernel_rfl)
theorem map_next_entry : entryFor table "map.__next__" = some Builtin.«map.__next__» := entryFor_of_tree (by kernel_rfl)
theorem map_next_args (a : Value) : argsOk "map.__next__" ⟨[a], []⟩ := by
  unfold argsOk; rw [signature?_of (id := "map.__next__") (n := ['_', '_', 't', 'x', 'e', 'n', '_', '_']) (o := ['p', 'a', 'm']) (by kernel_rfl) owner_map]; kernel_rfl
theorem mro_map : mroOf (.type "map") = pure [.type "map", .type "object"] := by rw [mroOf_type]; kernel_rfl
theorem lookup_map_new : typeLookup (.type "map") "__new__" = pure (some (.builtin "map.__new__")) := by rw [typeLookup_type, builtinLookup_eq_fast]; kernel_rfl
theorem sub_map : isSubtype (.type "map") (.type "map") = pure true := by rw [isSubtype_type]; kernel_rfl
theorem called_map : TypeCalled "map" "map.__new__" "object.__init__" :=
  ⟨by decide +kernel, by decide +kernel, ⟨_, _, mro_map⟩, madeBy_type mro_map lookup_map_new (by decide +kernel), by decide +kernel, sub_map, map_init⟩
theorem typeCall_map (a b : Value) : checkTypeCall "map" ⟨[a, b], []⟩ = pure () := by kernel_rfl
theorem newCall_map (a b : Value) : checkBuiltinCall "map.__new__" ⟨[.type "map", a, b], []⟩ = pure () := by
  unfold checkBuiltinCall; rw [signature?_of (id := "map.__new__") (n := ['_', '_', 'w', 'e', 'n', '_', '_']) (o := ['p', 'a', 'm']) (by kernel_rfl) owner_map]; kernel_rfl
theorem entry_map_new : entryFor table "map.__new__" = some Builtin.«map.__new__» := entryFor_of_tree (by kernel_rfl)
theorem map_no_len : typeLookup (.type "map") "__len__" = pure none := by rw [typeLookup_type, builtinLookup_eq_fast]; kernel_rfl
theorem map_no_hint : typeLookup (.type "map") "__length_hint__" = pure none := by rw [typeLookup_type, builtinLookup_eq_fast]; kernel_rfl
theorem filter_init : Slot "filter" "__init__" "object.__init__" :=
  .of (owner := "object") (n := "__init__") (by rw [typeLookup_type, builtinLookup_eq_fast]; kernel_rfl) (by decide +kernel) (by decide +kernel) (by decide +kernel)
    (by first | exact .inl (by decide +kernel) | exact .inr (by decide +kernel)) (by rw [isSubtype_type]; kernel_rfl)
theorem filter_iter : Slot "filter" "__iter__" "filter.__iter__" :=
  .of (owner := "filter") (n := "__iter__") (by rw [typeLookup_type, builtinLookup_eq_fast]; kernel_rfl) (by decide +kernel) (by decide +kernel) (by decide +kernel)
    (by first | exact .inl (by decide +kernel) | exact .inr (by decide +kernel)) (by rw [isSubtype_type]; kernel_rfl)
theorem filter_iter_args (a : Value) : argsOk "filter.__iter__" ⟨[a], []⟩ := by
  unfold argsOk; rw [signature?_of (id := "filter.__iter__") (n := ['_', '_', 'r', 'e', 't', 'i', '_', '_']) (o := ['r', 'e', 't', 'l', 'i', 'f']) (by kernel_rfl) owner_filter]; kernel_rfl
theorem filter_iter_entry : entryFor table "filter.__iter__" = some Builtin.«dict_keyiterator.__iter__» :=
  entryFor_alias (id' := "dict_keyiterator.__iter__") (by rw [fastTable_eq_tree]; kernel_rfl) (by first | rfl | decide +kernel | (unfold String.splitOn; simp +decide [String.splitOnAux])) (by decide +kernel) (by rw [fastTable_eq_tree]; kernel_rfl)
theorem filter_next : Slot "filter" "__next__" "filter.__next__" :=
  .of (owner := "filter") (n := "__next__") (by rw [typeLookup_type, builtinLookup_eq_fast]; kernel_rfl) (by decide +kernel) (by decide +kernel) (by decide +kernel)
    (by first | exact .inl (by decide +kernel) | exact .inr (by decide +kernel)) (by rw [isSubtype_type]; kernel_rfl)
theorem filter_next_entry : entryFor table "filter.__next__" = some Builtin.«filter.__next__» := entryFor_of_tree (by kernel_rfl)
theorem filter_next_args (a : Value) : argsOk "filter.__next__" ⟨[a], []⟩ := by
  unfold argsOk; rw [signature?_of (id := "filter.__next__") (n := ['_', '_', 't', 'x', 'e', 'n', '_', '_']) (o := ['r', 'e', 't', 'l', 'i', 'f']) (by kernel_rfl) owner_filter]; kernel_rfl
theorem mro_filter : mroOf (.type "filter") = pure [.type "filter", .type "object"] := by rw [mroOf_type]; kernel_rfl
theorem lookup_filter_new : typeLookup (.type "filter") "__new__" = pure (some (.builtin "filter.__new__")) := by rw [typeLookup_type, builtinLookup_eq_fast]; kernel_rfl
theorem sub_filter : isSubtype (.type "filter") (.type "filter") = pure true := by rw [isSubtype_type]; kernel_rfl
theorem called_filter : TypeCalled "filter" "filter.__new__" "object.__init__" :=
  ⟨by decide +kernel, by decide +kernel, ⟨_, _, mro_filter⟩, madeBy_type mro_filter lookup_filter_new (by decide +kernel), by decide +kernel, sub_filter, filter_init⟩
theorem typeCall_filter (a b : Value) : checkTypeCall "filter" ⟨[a, b], []⟩ = pure () := by kernel_rfl
theorem newCall_filter (a b : Value) : checkBuiltinCall "filter.__new__" ⟨[.type "filter", a, b], []⟩ = pure () := by
  unfold checkBuiltinCall; rw [signature?_of (id := "filter.__new__") (n := ['_', '_', 'w', 'e', 'n', '_', '_']) (o := ['r', 'e', 't', 'l', 'i', 'f']) (by kernel_rfl) owner_filter]; kernel_rfl
theorem entry_filter_new : entryFor table "filter.__new__" = some Builtin.«filter.__new__» := entryFor_of_tree (by kernel_rfl)
theorem plain_map_next : plainId "map.__next__" = true := by decide +kernel
theorem plain_filter_next : plainId "filter.__next__" = true := by decide +kernel
end Mine.MF
end

section
set_option maxRecDepth 100000
namespace Mine
open PySem PySem.W PySem.Calls PyProof.Rows
open Sem (wp)

noncomputable abbrev mapObj (T : Addr) (f : Value) : Obj := { cls := .type "map", data := .fields #[.ref T, f] }
noncomputable abbrev oneTup (v : Value) : Obj := { cls := .type "tuple", data := .seq #[v] }
noncomputable abbrev lstIt (l : Addr) : Obj := { cls := .type "list_iterator", data := .fields #[.ref l, .int 0 0] }

theorem meets_map_list (f : Value) (l : Addr) (xs : Array Value) :
    Meets (Builtin.«map.__new__» ⟨[.type "map", f, .ref l], []⟩) (fun _ R s => s.heap.IsList l xs ∧
      R (.ok (.ret (.ref ((s.heap.push (lstIt l)).push (oneTup (.ref s.heap.objs.size))).objs.size))) { s with heap := ((s.heap.push (lstIt l)).push (oneTup (.ref s.heap.objs.size))).push (mapObj (s.heap.push (lstIt l)).objs.size f) }) :=
  .of_wp fun prog w A R s h => by
    obtain ⟨hp, g, d, tk, os⟩ := s; obtain ⟨hl1, h⟩ := h
    have hsub := MF.sub_map
    have hL1 : Heap.IsList (Shared.heap ⟨hp, g, d, tk, os⟩) l xs := hl1
    wp_walk using wpAny_pyIter_list hL1
    exact ⟨_, rfl, h⟩

section
variable {prog : Program} {w : World} {A : Around} {E : Value → Shared → Prop} {s : Shared}
theorem pyIter_map {z T : Addr} {f : Value} {Q : Value → Shared → Prop} (hz : s.heap.get? z = some (mapObj T f)) (h : Q (.ref z) s) : wpAny (model prog w) A (pyIter (.ref z)) Q E s := by
  have hT : s.TypeIs (.ref z) "map" := ⟨_, hz, rfl⟩
  refine wpAny_pyIter_slot hT MF.map_iter (wpAny_call_entry MF.map_iter hT MF.map_iter_entry ?_ (MF.map_iter_args _))
  show wpAny _ _ (ret (.ref z)) _ _ s
  exact wpAny_pure ⟨_, rfl, "map", _, hT, MF.map_next.lookup, h⟩
end
theorem meets_map_map (f g : Value) (z T : Addr) :
    Meets (Builtin.«map.__new__» ⟨[.type "map", f, .ref z], []⟩) (fun _ R s => s.heap.get? z = some (mapObj T g) ∧
      R (.ok (.ret (.ref (s.heap.push (oneTup (.ref z))).objs.size))) { s with heap := (s.heap.push (oneTup (.ref z))).push (mapObj s.heap.objs.size f) }) :=
  .of_wp fun prog w A R s h => by
    obtain ⟨hp, gn, d, tk, os⟩ := s; obtain ⟨hl1, h⟩ := h
    have hsub := MF.sub_map
    have hL1 : (Shared.heap ⟨hp, gn, d, tk, os⟩).get? z = some (mapObj T g) := hl1
    wp_walk using pyIter_map hL1
    exact ⟨_, rfl, h⟩
section
variable {prog : Program} {w : World} {A : Around} {E : Value → Shared → Prop} {s : Shared}
theorem call_map_list {f : Value} {l : Addr} {xs : Array Value} {Q : Value → Shared → Prop} (hl : s.heap.IsList l xs)
    (h : ∀ h', h'.get? s.heap.objs.size = some (lstIt l) → h'.get? (s.heap.objs.size + 1) = some (oneTup (.ref s.heap.objs.size)) → h'.get? (s.heap.objs.size + 2) = some (mapObj (s.heap.objs.size + 1) f) →
      h'.objs.size = s.heap.objs.size + 3 → (∀ c o, s.heap.get? c = some o → h'.get? c = some o) → Q (.ref (s.heap.objs.size + 2)) { s with heap := h' }) :
    wpAny (model prog w) A (call (.type "map") [f, .ref l]) Q E s := by
  refine callType_new MF.called_map (by decide) (MF.typeCall_map _ _) (MF.newCall_map _ _) (fun obj => F.args_object_init_3 obj _ _) MF.entry_map_new (meets_map_list f l xs) ⟨hl, ?_⟩
  have z1 : (s.heap.push (lstIt l)).objs.size = s.heap.objs.size + 1 := Heap.size_push ..
  have z2 : ((s.heap.push (lstIt l)).push (oneTup (.ref s.heap.objs.size))).objs.size = s.heap.objs.size + 2 := by rw [Heap.size_push, z1]
  have g1 : (((s.heap.push (lstIt l)).push (oneTup (.ref s.heap.objs.size))).push (mapObj (s.heap.push (lstIt l)).objs.size f)).get? s.heap.objs.size = some (lstIt l) := Heap.get?_push_of_some _ (Heap.get?_push_of_some _ (Heap.get?_push_size _ rfl))
  have g2 : (((s.heap.push (lstIt l)).push (oneTup (.ref s.heap.objs.size))).push (mapObj (s.heap.push (lstIt l)).objs.size f)).get? (s.heap.push (lstIt l)).objs.size = some _ := Heap.get?_push_of_some _ (Heap.get?_push_size _ rfl)
  have g3 : (((s.heap.push (lstIt l)).push (oneTup (.ref s.heap.objs.size))).push (mapObj (s.heap.push (lstIt l)).objs.size f)).get? ((s.heap.push (lstIt l)).push (oneTup (.ref s.heap.objs.size))).objs.size = some _ := Heap.get?_push_size _ rfl
  rw [z1] at g1 g2
  rw [z1, z2] at g3
  show _ ∧ _
  rw [z1, z2]
  exact ⟨⟨_, g3, rfl⟩, h _ g1 g2 g3 (by rw [Heap.size_push, z2]) fun c o x => Heap.get?_push_of_some _ (Heap.get?_push_of_some _ (Heap.get?_push_of_some _ x))⟩
theorem call_map_map {f g : Value} {z T : Addr} {Q : Value → Shared → Prop} (hz : s.heap.get? z = some (mapObj T g))
    (h : ∀ h', h'.get? s.heap.objs.size = some (oneTup (.ref z)) → h'.get? (s.heap.objs.size + 1) = some (mapObj s.heap.objs.size f) →
      h'.objs.size = s.heap.objs.size + 2 → (∀ c o, s.heap.get? c = some o → h'.get? c = some o) → Q (.ref (s.heap.objs.size + 1)) { s with heap := h' }) :
    wpAny (model prog w) A (call (.type "map") [f, .ref z]) Q E s := by
  refine callType_new MF.called_map (by decide) (MF.typeCall_map _ _) (MF.newCall_map _ _) (fun obj => F.args_object_init_3 obj _ _) MF.entry_map_new (meets_map_map f g z T) ⟨hz, ?_⟩
  have z1 : (s.heap.push (oneTup (.ref z))).objs.size = s.heap.objs.size + 1 := Heap.size_push ..
  have g1 : ((s.heap.push (oneTup (.ref z))).push (mapObj s.heap.objs.size f)).get? s.heap.objs.size = some _ := Heap.get?_push_of_some _ (Heap.get?_push_size _ rfl)
  have g2 : ((s.heap.push (oneTup (.ref z))).push (mapObj s.heap.objs.size f)).get? (s.heap.push (oneTup (.ref z))).objs.size = some _ := Heap.get?_push_size _ rfl
  rw [z1] at g2
  show _ ∧ _
  rw [z1]
  exact ⟨⟨_, g2, rfl⟩, h _ g1 g2 (by rw [Heap.size_push, z1]) fun c o x => Heap.get?_push_of_some _ (Heap.get?_push_of_some _ x)⟩
end
end Mine
end

section
set_option maxRecDepth 100000
set_option maxHeartbeats 1000000
namespace Mine
open PySem PySem.W PySem.Calls PyProof.Rows
open Sem (wp)
theorem typeCall_eq (v : Value) : ∃ K, Builtin.«type.__call__» ⟨[.type "int", v], []⟩ = (holding [.builtin "int.__new__"] (call (.builtin "int.__new__") [.type "int", v] [])) >>= K := by
  have h1 := F.called_int.notType
  have h2 := F.called_int.canCreate
  have h3 := F.typeCall_int_1 v
  have h4 := F.mro_int
  have h5 := F.called_int.made
  apply Exists.intro
  unfold Builtin.«type.__call__»
  simp only [h1, h2, h3, h4, h5, pure_bind, Bool.false_eq_true, if_false]
  rfl
theorem intObj_eq (x : Str) (u : Tok) : (int_private% "intFromObject") (.str x u) = (int_private% "intFromText") (.str x u) (PySem.numTextOf x) 10 := by
  have f3 := KIN.str_int
  have f4 := KIN.str_idx
  have f5 := KIN.str_trunc
  have f6 : typeOf (.str x u) = pure (.type "str") := rfl
  have g1 : specialOf (.str x u) "__int__" = pure none := by unfold specialOf; rw [f6, pure_bind, f3]
  have g2 : specialOf (.str x u) "__index__" = pure none := by unfold specialOf; rw [f6, pure_bind, f4]
  have g3 : specialOf (.str x u) "__trunc__" = pure none := by unfold specialOf; rw [f6, pure_bind, f5]
  have g4 : callSpecial? (.str x u) "__int__" = pure none := by unfold callSpecial?; rw [g1]; rfl
  k_delta "intFromObject"
  simp only [g2, g3, g4, pure_bind, Option.isSome_none, Bool.false_eq_true, if_false]
  rfl
noncomputable def badMsg (shown : Str) : Str := ((s!"invalid literal for int() with base {10}: " : String) ++ ⟨shown.cps.extract 0 200⟩ : Str)
theorem intText_bad {x : Str} {u : Tok} (hl : x.length ≤ 640) (hn : PySem.intText? x = none) : (int_private% "intFromText") (.str x u) (PySem.numTextOf x) 10 =
    (do rule "int.__new__.invalid-literal"
        let shown ← pyRepr (.str x u)
        let refusal ← newExc (.type "ValueError") [← mkStr (badMsg shown)]
        markTheRefusal ["int.__new__"] refusal
        raiseNew refusal) := by
  have hs : (numSeenOf x).length ≤ 640 := Nat.le_trans (seen_length x) hl
  have h0 := (read0 x hs).resolve_left (by rintro ⟨m, h1, _⟩; rw [hn] at h1; cases h1)
  have hb : (int_private% "bytesOf?") (.str x u) = pure none := rfl
  unfold badMsg
  k_delta "intFromText"
  rcases h0.2 with h | ⟨i, h, hne⟩
  · simp only [hs, h, hb, if_true, pure_bind, Option.isSome_none, Bool.false_and, Bool.false_eq_true, if_false]
  · simp only [hs, h, hb, if_true, pure_bind, hne, Bool.false_eq_true, if_false]
theorem badMsg_len (shown : Str) : (badMsg shown).length ≤ 260 := by
  unfold badMsg
  rw [Str.length_append]
  have h2 : (⟨shown.cps.extract 0 200⟩ : Str).length ≤ 200 := by
    show (shown.cps.extract 0 200).size ≤ 200
    rw [Array.size_extract]; omega
  have h1 : (Str.ofString s!"invalid literal for int() with base {10}: ").length ≤ 60 := by decide +kernel
  omega
theorem intNew_eq (x : Str) (u : Tok) : ∃ K, Builtin.«int.__new__» ⟨[.type "int", .str x u], []⟩ = (int_private% "intFromObject") (.str x u) >>= K := by
  have f0 : isType (.type "int") = pure true := rfl
  have f1 := F.conv_sub_int
  have f2 := F.madeHere_int
  apply Exists.intro
  unfold Builtin.«int.__new__»
  simp only [f0, f1, f2, pure_bind, Bool.not_true, Bool.false_eq_true, if_false, List.forIn_nil]
  rfl

/-- some built-in other than int's own making stands between here and the last frame -/
noncomputable def refOk (c : Code) : Bool := match c with
    | .call .. => true
    | .builtin id a => (["int.__new__"] : List String).contains id || (id == "type.__call__" && (match a.pos.head? with
      | some (.ref _) => true
      | some (.type n) => (["int.__new__"] : List String).contains (n ++ ".__new__")
      | _ => false))
    | _ => false
noncomputable def Blk (l : List (Code × Pos)) : Prop := ((l.map (·.1)).takeWhile (·.env?.isNone)).all refOk = false
theorem Blk.push {c : Code} {p : Pos} {l : List (Code × Pos)} (hc : c.env? = none) (h : Blk l) : Blk ((c, p) :: l) := by
  unfold Blk at *
  rw [List.map_cons, List.takeWhile_cons, hc]
  show (c :: _).all refOk = false
  rw [List.all_cons, h, Bool.and_false]
theorem Blk.at {c : Code} {p : Pos} {l : List (Code × Pos)} (hc : c.env? = none) (hr : refOk c = false) : Blk ((c, p) :: l) := by
  unfold Blk
  rw [List.map_cons, List.takeWhile_cons, hc]
  show (c :: _).all refOk = false
  rw [List.all_cons, hr, Bool.false_and]
theorem made_eq (codes : List Code) (h : (codes.takeWhile (·.env?.isNone)).all refOk = false) : pythonCodeMadeTheCall ["int.__new__"] codes = false := by
  have e : pythonCodeMadeTheCall ["int.__new__"] codes = (!(codes.any fun c => match c with | .builtin "claim.caller" _ => true | _ => false) && codes.any (·.env?.isSome) && (codes.takeWhile (·.env?.isNone)).all refOk) := rfl
  rw [e, h, Bool.and_false]
noncomputable def wpB {α : Type} (M : Model) (A : Around) (t : Sem α) (Q : α → Shared → Prop) (E : Value → Shared → Prop) (s : Shared) : Prop :=
  ∀ Γ p, Γ.In A → Γ.code.env? = none → Blk Γ.below → wp M Γ t (fun a _ s' => Q a s') (fun e _ s' => E e s') p s
noncomputable def codeB (M : Model) (A : Around) (c : Code) (R : Result → Shared → Prop) (s : Shared) : Prop :=
  ∀ Γ p, Γ.code = c → Γ.Below A → Blk Γ.below → wpCode M Γ R p s
section
variable {α β : Type} {M : Model} {A : Around} {E : Value → Shared → Prop} {s : Shared}
theorem wpB_of {t : Sem α} {Q : α → Shared → Prop} (h : wpAny M A t Q E s) : wpB M A t Q E s := fun Γ p hΓ _ _ => h Γ p hΓ
theorem wpB_mono {t : Sem α} {Q Q' : α → Shared → Prop} {E' : Value → Shared → Prop} (h : wpB M A t Q E s) (hQ : ∀ a s, Q a s → Q' a s) (hE : ∀ e s, E e s → E' e s) : wpB M A t Q' E' s :=
  fun Γ p hΓ he hb => Sem.wp_mono M Γ t (fun a _ s => hQ a s) (fun e _ s => hE e s) p s (h Γ p hΓ he hb)
theorem wpB_bind {m : Sem α} {f : α → Sem β} {Q : β → Shared → Prop} (h : wpB M A m (fun a s' => wpB M A (f a) Q E s') E s) : wpB M A (m >>= f) Q E s := fun Γ p hΓ he hb => by
  rw [Sem.wp_bind']
  exact Sem.wp_mono M Γ m (fun a p' s' h' => h' Γ p' hΓ he hb) (fun _ _ _ h' => h') p s (h Γ p hΓ he hb)
theorem wpB_holding {vs : List Value} {m : Sem α} {Q : α → Shared → Prop} (h : wpB M A m Q E s) : wpB M A (holding vs m) Q E s := fun Γ p hΓ he hb => by rw [Sem.wp_holding]; exact h Γ p hΓ he hb
theorem wpB_mark {e : Value} {Q : Unit → Shared → Prop} (h : Q () s) : wpB M A (markTheRefusal ["int.__new__"] e) Q E s := fun Γ p _ he hb => by
  show wp M Γ (if pythonCodeMadeTheCall ["int.__new__"] (((Γ.code, p) :: Γ.below).map (·.1)) then _ else _) _ _ p s
  rw [if_neg (by rw [made_eq _ (Blk.push (p := p) he hb)]; exact Bool.false_ne_true)]
  exact h
theorem wpB_call {f : Value} {pos : List Value} {kw : List (Str × Value)} {Q : Value → Shared → Prop} (hc : codeB M A (.call f ⟨pos, kw⟩) (wants Q E) s) : wpB M A (call f pos kw) Q E s := fun Γ p hΓ he hb => by
  show wp M Γ (runValue _) _ _ p s
  rw [Sem.wp_runValue]
  exact hc _ p rfl (hΓ.enter _ none p (by intro x; cases x)) (Blk.push he hb)
theorem codeB_of_tree {c : Code} {R : Result → Shared → Prop} (hc0 : c.env? = none)
    (h : wpB M (A.under c) (M.den c) (fun fin s' => match fin with | .done f => R (.ok f) s' | .again c' => c'.quiet = true ∧ codeB M A c' R s') (fun e s' => R (.error e) s') s) : codeB M A c R s := fun Γ p hc hΓ hb => by
  rw [wpCode_iff_wp, hc]
  refine Sem.wp_mono M Γ _ (fun fin p' s' h' => ?_) (fun _ _ _ h' => h') p s (h Γ p (hc ▸ hΓ.in) (hc ▸ hc0) hb)
  cases fin with
  | done f => exact h'
  | again c' => exact ⟨h'.1, h'.2 (Γ.goto c') p' rfl (hΓ.goto c') hb⟩
end
section
variable {prog : Program} {w : World} {A : Around} {E : Value → Shared → Prop} {s : Shared} {R : Result → Shared → Prop}
theorem codeB_builtin {id : String} {args : Args} {b : Builtin} (hb : entryFor table id = some b)
    (h : wpB (model prog w) (A.under (.builtin id args)) (b args) (fun fin s' => match fin with | .done f => R (.ok f) s' | .again c' => c'.quiet = true ∧ codeB (model prog w) A c' R s') (fun e s' => R (.error e) s') s) :
    codeB (model prog w) A (.builtin id args) R s := by
  refine codeB_of_tree rfl ?_
  show wpB _ _ (match entryFor table id with | some b => b args | none => unsupported ((withoutEnding? id "#data").getD id)) _ _ s
  rw [hb]; exact h
/-- int of a text that is no number, called by a built-in: it raises -/
theorem int_badB {x : Str} {u : Tok} {Q : Value → Shared → Prop} (hh : A.handled = none) (hl : x.length ≤ 640) (hn : PySem.intText? x = none) (hr : (reprText x).length ≤ sizeLine)
    (hE : ∀ h' tk e, Heap.NewExc s.heap h' e "ValueError" → E (.ref e) { s with heap := h', toks := tk }) : codeB (model prog w) A (.call (.type "int") ⟨[.str x u], []⟩) (wants Q E) s := by
  refine codeB_of_tree rfl ?_
  show wpB _ _ (callAny (.type "int") _) _ _ _
  refine wpB_of (wpAny_pure ⟨Code.quiet_builtin _ (by decide +kernel), codeB_builtin F.entry_type_call ?_⟩)
  obtain ⟨K, hK⟩ := typeCall_eq (.str x u)
  rw [hK]
  refine wpB_bind (wpB_holding (wpB_call (codeB_of_tree rfl ?_)))
  show wpB _ _ (do checkBuiltinCall "int.__new__" ⟨[.type "int", .str x u], []⟩; again (.builtin "int.__new__" ⟨[.type "int", .str x u], []⟩)) _ _ s
  rw [F.newCall_int_1, pure_bind]
  refine wpB_of (wpAny_pure ⟨Code.quiet_builtin _ (by decide +kernel), codeB_builtin F.entry_int_new ?_⟩)
  obtain ⟨K2, hK2⟩ := intNew_eq x u
  rw [hK2, intObj_eq, intText_bad hl hn]
  refine wpB_bind ?_
  refine wpB_bind (wpB_of (wpAny_rule ?_))
  refine wpB_bind (wpB_of (wpAny_pyRepr_str ?_ hr))
  have hml : (badMsg (reprText x)).length ≤ sizeLine := Nat.le_trans (badMsg_len _) (by decide)
  generalize badMsg (reprText x) = msg at hml ⊢
  refine wpB_bind (wpB_of (wpAny_mkStr ?_ hml))
  refine wpB_bind (wpB_of ?_)
  unfold newExc newTuple
  refine wpAny_bind (wpAny_newObj_type ?_)
  refine wpAny_bind (m := firstArgMember _ _) (wpAny_of_eq (a := Value.none) (by simp only [firstArgMember, plainExc_ValueError.first]; rfl) ?_)
  rw [plainExc_ValueError.own]
  refine wpAny_newObj_type ?_
  refine wpB_bind (wpB_mark (wpB_of ?_))
  unfold raiseNew
  refine wpAny_bind (wpAny_handled ?_)
  have hh' : ∀ c d, ((A.under c).under d).handled = none := fun _ _ => hh
  rw [hh']
  first
    | refine wpAny_throw ?_
    | refine wpAny_bind (wpAny_pure (wpAny_throw ?_))
  exact hE _ _ _ ⟨fun b o hb => Heap.get?_push_of_some _ (Heap.get?_push_of_some _ hb), Heap.get?_none_of_le (by simp), _, .ref s.heap.objs.size, Heap.get?_push_size _ rfl, rfl, by simp⟩
end
end Mine
end

section
set_option maxRecDepth 100000
namespace Mine
open PySem PySem.W PySem.Calls
open Sem (wp)
section
variable {prog : Program} {w : World} {A : Around} {E : Value → Shared → Prop} {s : Shared}

theorem map_tree (z : Addr) : Builtin.«map.__next__» ⟨[.ref z], []⟩ = (do
    let some its ← seqItems? (← field (.ref z) 0) | unsupported "internal:map.__next__"
    let mut items : Array Value := #[]
    for it in its do
      items := items.push (← holding items.toList (Builtin.SmallTypes.nextOf it))
    let result ← holding items.toList (call (← field (.ref z) 1) items.toList)
    letGo items.toList [result]
    ret result) := by
  rfl
/-- one step of a map: an item drawn, the function called -/
theorem map_next_any {z T it : Addr} {f : Value} {Q : Value → Shared → Prop} (hz : s.heap.get? z = some (mapObj T f)) (hT : s.heap.get? T = some (oneTup (.ref it)))
    (h : wpAny (model prog w) A (Builtin.SmallTypes.nextOf (.ref it)) (fun x s₁ => s₁.heap.get? z = some (mapObj T f) ∧ wpAny (model prog w) A (call f [x]) Q E s₁) E s) :
    wpAny (model prog w) A (Builtin.«map.__next__» ⟨[.ref z], []⟩) (fun fin s' => ∃ v, fin = .done (.ret v) ∧ Q v s') E s := by
  rw [map_tree]
  refine wpAny_bind (wpAny_field hz rfl (x := .ref T) rfl ?_)
  refine wpAny_bind (wpAny_seqItems hT rfl ?_)
  show wpAny _ _ (forIn #[Value.ref it] #[] _ >>= _) _ _ _
  refine wpAny_bind ?_
  simp only [List.forIn_toArray, List.forIn_cons, List.forIn_nil]
  refine wpAny_bind (wpAny_bind (wpAny_holding (wpAny_mono h (fun x s₁ h₁ => ?_) fun _ _ e => e)))
  obtain ⟨hz₁, hc⟩ := h₁
  refine wpAny_pure (wpAny_pure ?_)
  refine wpAny_bind (wpAny_field hz₁ rfl (x := f) rfl ?_)
  refine wpAny_bind (wpAny_holding (wpAny_mono hc (fun r s₂ hr => ?_) fun _ _ e => e))
  exact wpAny_bind (wpAny_letGo (wpAny_pure ⟨_, rfl, hr⟩))
/-- the same, the function's call seen from the map's own frame -/
theorem map_next_at {z T it : Addr} {f : Value} {Q : Value → Shared → Prop} {c : Code} (hz : s.heap.get? z = some (mapObj T f)) (hT : s.heap.get? T = some (oneTup (.ref it)))
    (h : wpAny (model prog w) A (Builtin.SmallTypes.nextOf (.ref it)) (fun x s₁ => s₁.heap.get? z = some (mapObj T f) ∧ wpAt (model prog w) A c (call f [x]) Q E s₁) E s) :
    wpAt (model prog w) A c (Builtin.«map.__next__» ⟨[.ref z], []⟩) (fun fin s' => ∃ v, fin = .done (.ret v) ∧ Q v s') E s := by
  rw [map_tree]
  refine wpAt_bind (wpAt_of_wpAny (wpAny_field hz rfl (x := .ref T) rfl ?_))
  refine wpAt_bind (wpAt_of_wpAny (wpAny_seqItems hT rfl ?_))
  show wpAt _ _ _ (forIn #[Value.ref it] #[] _ >>= _) _ _ _
  refine wpAt_bind ?_
  simp only [List.forIn_toArray, List.forIn_cons, List.forIn_nil]
  refine wpAt_of_wpAny (wpAny_bind (wpAny_bind (wpAny_holding (wpAny_mono h (fun x s₁ h₁ => ?_) fun _ _ e => e))))
  obtain ⟨hz₁, hc⟩ := h₁
  refine wpAny_pure (wpAny_pure ?_)
  refine wpAt_bind (wpAt_of_wpAny (wpAny_field hz₁ rfl (x := f) rfl ?_))
  refine wpAt_bind (fun Γ p hc' hΓ => ?_)
  rw [Sem.wp_holding]
  refine Sem.wp_mono _ Γ _ (fun r _ s₂ hr => ?_) (fun _ _ _ e => e) p s₁ (hc Γ p hc' hΓ)
  exact wpAt_bind (wpAt_of_wpAny (wpAny_letGo (wpAt_of_wpAny (wpAny_pure ⟨_, rfl, hr⟩))))
/-- int of a bad text, called by map -/
theorem int_bad_at {x : Str} {u : Tok} {a : Args} {Q : Value → Shared → Prop} (hh : A.handled = none) (hl : x.length ≤ 640) (hn : PySem.intText? x = none) (hr : (reprText x).length ≤ sizeLine)
    (hE : ∀ h' tk e, Heap.NewExc s.heap h' e "ValueError" → E (.ref e) { s with heap := h', toks := tk }) : wpAt (model prog w) A (.builtin "map.__next__" a) (call (.type "int") [.str x u]) Q E s := fun Γ p hc hΓ => by
  show wp _ Γ (runValue _) _ _ p s
  rw [Sem.wp_runValue]
  exact int_badB (prog := prog) (w := w) (A := A) (Q := Q) (u := u) hh hl hn hr hE _ p rfl (hΓ.enter _ none p (by intro x; cases x)) (Blk.at (by rw [hc]; rfl) (by rw [hc]; simp [refOk]))
end
end Mine
end

section
set_option maxRecDepth 100000
namespace Mine
open PySem PySem.W PySem.Calls
open Sem (wp)

/-- two maps, one over the other, over a list's iterator -/
structure Two (h : Heap) (vs : Array Value) (l I T1 M1 T2 M2 : Addr) (i : Nat) : Prop where
  it : h.IsListIter I l i
  ls : h.IsList l vs
  t1 : h.get? T1 = some (oneTup (.ref I))
  m1 : h.get? M1 = some (mapObj T1 (.type "int"))
  t2 : h.get? T2 = some (oneTup (.ref M1))
  m2 : h.get? M2 = some (mapObj T2 (.type "str"))
  n1 : T1 ≠ I
  n2 : M1 ≠ I
  n3 : T2 ≠ I
  n4 : M2 ≠ I
  n5 : l ≠ I
theorem Two.step {h h' : Heap} {vs : Array Value} {l I T1 M1 T2 M2 : Addr} {i : Nat} (W : Two h vs l I T1 M1 T2 M2 i) (hi : h'.IsListIter I l (i + 1)) (hs : Heap.SameBut I h h') : Two h' vs l I T1 M1 T2 M2 (i + 1) :=
  ⟨hi, W.ls.extBut hs.extBut W.n5, hs.extBut _ _ W.n1 W.t1, hs.extBut _ _ W.n2 W.m1, hs.extBut _ _ W.n3 W.t2, hs.extBut _ _ W.n4 W.m2, W.n1, W.n2, W.n3, W.n4, W.n5⟩
theorem Two.keep {h h' : Heap} {vs : Array Value} {l I T1 M1 T2 M2 : Addr} {i : Nat} (W : Two h vs l I T1 M1 T2 M2 i) (hk : ∀ b o, h.get? b = some o → h'.get? b = some o) : Two h' vs l I T1 M1 T2 M2 i :=
  ⟨(let ⟨o, ho, r⟩ := W.it; ⟨o, hk _ _ ho, r⟩), (let ⟨o, ho, r⟩ := W.ls; ⟨o, hk _ _ ho, r⟩), hk _ _ W.t1, hk _ _ W.m1, hk _ _ W.t2, hk _ _ W.m2, W.n1, W.n2, W.n3, W.n4, W.n5⟩
theorem sub_valueStop : isSubtype (.type "ValueError") (.type "StopIteration") = pure false := by rw [isSubtype_type]; kernel_rfl
section
variable {prog : Program} {w : World} {A : Around} {E : Value → Shared → Prop} {s : Shared} {vs : Array Value} {l I T1 M1 T2 M2 : Addr} {i : Nat}

theorem inner_item {x : Str} {t : Tok} {n : Int} {Q : Value → Shared → Prop} (W : Two s.heap vs l I T1 M1 T2 M2 i) (hx : vs[i]? = some (.str x t)) (hl : x.length ≤ 640) (hn : PySem.intText? x = some n)
    (hQ : ∀ h' tk u, Two h' vs l I T1 M1 T2 M2 (i + 1) → Heap.SameBut I s.heap h' → Q (.int n u) { s with heap := h', toks := tk }) :
    wpAny (model prog w) A (Builtin.SmallTypes.nextOf (.ref M1)) Q E s := by
  have hT : s.TypeIs (.ref M1) "map" := ⟨_, W.m1, rfl⟩
  unfold Builtin.SmallTypes.nextOf
  refine wpAny_bind (wpAny_callSpecial?_slot (name := Str.ofString "__next__") hT MF.map_next (wpAny_call_entry MF.map_next hT MF.map_next_entry (map_next_any W.m1 W.t1 ?_) (MF.map_next_args _)))
  refine wpAny_nextOf_list_item W.it W.ls hx fun h' hi' hs' => ⟨hs'.extBut _ _ W.n2 W.m1, ?_⟩
  exact KIN.call_text hn hl (wpAny_pure (hQ _ _ _ (W.step hi' hs') hs'))
theorem inner_end {Q : Value → Shared → Prop} (hh : A.handled = none) (W : Two s.heap vs l I T1 M1 T2 M2 i) (hx : vs[i]? = none)
    (hE : ∀ h' e, Heap.ExtBut I s.heap h' → (∃ o, h'.get? e = some o ∧ o.cls = .type "StopIteration") → E (.ref e) { s with heap := h' }) :
    wpAny (model prog w) A (Builtin.SmallTypes.nextOf (.ref M1)) Q E s := by
  have hT : s.TypeIs (.ref M1) "map" := ⟨_, W.m1, rfl⟩
  unfold Builtin.SmallTypes.nextOf
  refine wpAny_bind (wpAny_callSpecial?_slot (name := Str.ofString "__next__") hT MF.map_next (wpAny_call_entry MF.map_next hT MF.map_next_entry (map_next_any W.m1 W.t1 ?_) (MF.map_next_args _)))
  exact wpAny_nextOf_list_end hh W.it W.ls hx hE
theorem inner_bad {x : Str} {t : Tok} {Q : Value → Shared → Prop} (hh : A.handled = none) (W : Two s.heap vs l I T1 M1 T2 M2 i) (hx : vs[i]? = some (.str x t)) (hl : x.length ≤ 640) (hn : PySem.intText? x = none) (hr : (reprText x).length ≤ sizeLine)
    (hE : ∀ h' tk e, Heap.ExtBut I s.heap h' → s.heap.get? e = none → (∃ ob t, h'.get? e = some ob ∧ ob.cls = .type "ValueError" ∧ ob.data = .fields #[t, .none, .none, .none, .bool false, .none]) → E (.ref e) { s with heap := h', toks := tk }) :
    wpAny (model prog w) A (Builtin.SmallTypes.nextOf (.ref M1)) Q E s := by
  have hT : s.TypeIs (.ref M1) "map" := ⟨_, W.m1, rfl⟩
  unfold Builtin.SmallTypes.nextOf
  refine wpAny_bind (wpAny_callSpecial?_slot (name := Str.ofString "__next__") hT MF.map_next (wpAny_call (codeAny_call_builtin_code (plainId_quiet MF.plain_map_next _) (MF.map_next.check _ _ _ _ _ _ _ _ hT (MF.map_next_args _) (codeAny_builtinAt MF.map_next_entry ?_)))))
  rw [Around.under_plainId MF.plain_map_next]
  refine wpAt_mono (map_next_at (Q := fun _ _ => False) W.m1 W.t1 ?_) (fun fin s' h' => by obtain ⟨_, _, h⟩ := h'; exact h.elim) fun _ _ e => e
  refine wpAny_nextOf_list_item W.it W.ls hx fun h' hi' hs' => ⟨hs'.extBut _ _ W.n2 W.m1, ?_⟩
  refine int_bad_at hh hl hn hr fun h'' tk e hx' => hE h'' tk e (fun b o hb e' => hx'.keeps b o (hs'.extBut _ _ hb e')) ?_ hx'.there
  cases he : s.heap.get? e with
  | none => rfl
  | some o =>
    by_cases hI : e = I
    · obtain ⟨oi, hoi, _⟩ := hi'
      have := hx'.new
      rw [hI] at this
      rw [hoi] at this; cases this
    · have := hx'.new
      rw [hs'.extBut _ _ hI he] at this; cases this
theorem outer_item {x : Str} {t : Tok} {n : Int} {Q : Option Value → Shared → Prop} (W : Two s.heap vs l I T1 M1 T2 M2 i) (hx : vs[i]? = some (.str x t)) (hl : x.length ≤ 640) (hn : PySem.intText? x = some n) (hn2 : n.natAbs.log2 < 1920)
    (hQ : ∀ h' tk u, Two h' vs l I T1 M1 T2 M2 (i + 1) → Heap.SameBut I s.heap h' → Q (some (.str (Str.ofString (toString n)) u)) { s with heap := h', toks := tk }) :
    wpAny (model prog w) A (pyNext (.ref M2)) Q E s := by
  have hT : s.TypeIs (.ref M2) "map" := ⟨_, W.m2, rfl⟩
  unfold pyNext
  refine wpAny_bind (wpAny_attempt (wpAny_callSpecial?_slot (name := Str.ofString "__next__") hT MF.map_next (wpAny_call_entry MF.map_next hT MF.map_next_entry (map_next_any W.m2 W.t2 ?_) (MF.map_next_args _))))
  refine inner_item W hx hl hn fun h' tk u W' hs' => ⟨W'.m2, ?_⟩
  exact P.str_of_int hn2 (wpAny_pure (hQ _ _ _ W' hs'))
theorem outer_end {Q : Option Value → Shared → Prop} (hh : A.handled = none) (W : Two s.heap vs l I T1 M1 T2 M2 i) (hx : vs[i]? = none)
    (hQ : ∀ h', Heap.ExtBut I s.heap h' → Q none { s with heap := h' }) :
    wpAny (model prog w) A (pyNext (.ref M2)) Q E s := by
  have hT : s.TypeIs (.ref M2) "map" := ⟨_, W.m2, rfl⟩
  unfold pyNext
  refine wpAny_bind (wpAny_attempt (wpAny_callSpecial?_slot (name := Str.ofString "__next__") hT MF.map_next (wpAny_call_entry MF.map_next hT MF.map_next_entry (map_next_any W.m2 W.t2 ?_) (MF.map_next_args _))))
  refine inner_end hh W hx fun h' e hs' he => ?_
  obtain ⟨o, ho, hc⟩ := he
  refine wpAny_bind (wpAny_isInstance (T := "StopIteration") (b := true) ⟨o, ho, hc⟩ isSubtype_stop ?_)
  exact wpAny_pure (hQ _ hs')
theorem outer_bad {x : Str} {t : Tok} {Q : Option Value → Shared → Prop} (hh : A.handled = none) (W : Two s.heap vs l I T1 M1 T2 M2 i) (hx : vs[i]? = some (.str x t)) (hl : x.length ≤ 640) (hn : PySem.intText? x = none) (hr : (reprText x).length ≤ sizeLine)
    (hE : ∀ h' tk e, Heap.ExtBut I s.heap h' → s.heap.get? e = none → (∃ ob t, h'.get? e = some ob ∧ ob.cls = .type "ValueError" ∧ ob.data = .fields #[t, .none, .none, .none, .bool false, .none]) → E (.ref e) { s with heap := h', toks := tk }) :
    wpAny (model prog w) A (pyNext (.ref M2)) Q E s := by
  have hT : s.TypeIs (.ref M2) "map" := ⟨_, W.m2, rfl⟩
  unfold pyNext
  refine wpAny_bind (wpAny_attempt (wpAny_callSpecial?_slot (name := Str.ofString "__next__") hT MF.map_next (wpAny_call_entry MF.map_next hT MF.map_next_entry (map_next_any W.m2 W.t2 ?_) (MF.map_next_args _))))
  refine inner_bad hh W hx hl hn hr fun h' tk e hs' hnew he => ?_
  have he' := he
  obtain ⟨o, u, ho, hc, hd⟩ := he
  refine wpAny_bind (wpAny_isInstance (T := "ValueError") (b := false) ⟨o, ho, hc⟩ sub_valueStop ?_)
  exact wpAny_throw (hE _ _ _ hs' hnew he')
end
end Mine
end

section
set_option maxRecDepth 100000
namespace Mine
open PySem PySem.W PySem.Calls PyProof.Rows
open Sem (wp)
noncomputable abbrev lstObj (vs : Array Value) (c : Nat) : Obj := { cls := .type "list", dict := none, data := .seq vs c, slots := #[] }
theorem strs_snoc {vs : List Value} {ys : List Str} (h : StrsAre vs ys) (y : Str) (t : Tok) : StrsAre (vs ++ [.str y t]) (ys ++ [y]) := by
  induction h with
  | nil => exact .cons y t .nil
  | cons z u _ ih => exact .cons z u ih
noncomputable abbrev Bad (y : Str) : Prop := PySem.intText? y = none ∧ y.length ≤ 640 ∧ (reprText y).length ≤ sizeLine
noncomputable abbrev Good (p : Str × Int) : Prop := PySem.intText? p.1 = some p.2 ∧ p.1.length ≤ 640 ∧ p.2.natAbs.log2 < 1920
noncomputable abbrev IsBadExc (h : Heap) (e : Addr) : Prop := ∃ ob t, h.get? e = some ob ∧ ob.cls = .type "ValueError" ∧ ob.data = .fields #[t, .none, .none, .none, .bool false, .none]
section
variable {prog : Program} {w : World} {A : Around} {R : Result → Shared → Prop} {vs : Array Value} {l I T1 M1 T2 M2 : Addr}
theorem ext_loop (hh : A.handled = none) (S : Addr) (hSI : S ≠ I) (hSl : S ≠ l) (hS1 : S ≠ T1) (hS2 : S ≠ M1) (hS3 : S ≠ T2) (hS4 : S ≠ M2) (res : Value) (tl : List Str) (htl : ∀ y r, tl = y :: r → Bad y) : ∀ (rest : List (Str × Int)) (i : Nat) (s : Shared) (acc : Array Value) (c : Nat) (ts : List Str),
    StrsAre (vs.toList.drop i) (rest.map (·.1) ++ tl) → (∀ p ∈ rest, Good p) → Two s.heap vs l I T1 M1 T2 M2 i → s.heap.get? S = some (lstObj acc c) → StrsAre acc.toList ts → acc.size + rest.length ≤ sizeLine →
    (tl = [] → ∀ h' tk acc' c', (∀ b o, b ≠ I → b ≠ S → s.heap.get? b = some o → h'.get? b = some o) → h'.get? S = some (lstObj acc' c') → StrsAre acc'.toList (ts ++ rest.map fun p => Str.ofString (toString p.2)) → R (.ok (.ret res)) { s with heap := h', toks := tk }) →
    (tl ≠ [] → ∀ h' tk e, (∀ b o, b ≠ I → b ≠ S → s.heap.get? b = some o → h'.get? b = some o) → s.heap.get? e = none → IsBadExc h' e → R (.error (.ref e)) { s with heap := h', toks := tk }) →
    codeAny (model prog w) A (.builtin "list.extend.loop" ⟨[.ref S, .ref M2, res], []⟩) R s := by
  intro rest
  induction rest with
  | nil =>
    intro i s acc c ts hvs _ W hS hacc hsz hok hbad
    refine codeAny_builtin F.entry_extend_loop ?_
    rw [Around.under_plainId F.plain_extend_loop _]
    show wpAny _ A.in1 (pyNext (.ref M2) >>= _) _ _ s
    cases tl with
    | nil =>
      have hnone : vs[i]? = none := by
        have h1 := hvs.len_eq
        simp at h1
        exact Array.getElem?_eq_none (by omega)
      refine wpAny_bind (outer_end hh W hnone fun h' hs' => ?_)
      exact wpAny_pure (hok rfl h' _ acc c (fun b o hb _ e => hs' b o hb e) (hs' _ _ hSI hS) (by simpa using hacc))
    | cons y r =>
      obtain ⟨t, ht⟩ := hvs.at (j := 0) (y := y) (by simp)
      have hx : vs[i]? = some (.str y t) := by
        rw [List.getElem?_drop] at ht
        simpa using ht
      obtain ⟨h1, h2, h3⟩ := htl y r rfl
      refine wpAny_bind (outer_bad hh W hx h2 h1 h3 fun h' tk e hs' hnew he => ?_)
      exact hbad (by simp) h' tk e (fun b o hb _ e => hs' b o hb e) hnew he
  | cons p rest ih =>
    intro i s acc c ts hvs hg W hS hacc hsz hok hbad
    refine codeAny_builtin F.entry_extend_loop ?_
    rw [Around.under_plainId F.plain_extend_loop _]
    show wpAny _ A.in1 (pyNext (.ref M2) >>= _) _ _ s
    obtain ⟨t, ht⟩ := hvs.at (j := 0) (y := p.1) (by simp)
    have hx : vs[i]? = some (.str p.1 t) := by
      rw [List.getElem?_drop] at ht
      simpa using ht
    obtain ⟨h1, h2, h3⟩ := hg p (by simp)
    refine wpAny_bind (outer_item W hx h2 h1 h3 fun h' tk u W' hs' => ?_)
    have hS' := hs'.extBut _ _ hSI hS
    show wpAny _ A.in1 (updateSeq S (·.push _) >>= _) _ _ _
    refine wpAny_bind ?_
    have hlen : acc.size + (rest.length + 1) ≤ sizeLine := by simpa using hsz
    have up : ∀ b o, b ≠ S → h'.get? b = some o → (h'.update S (Obj.mapSeq (·.push (.str (Str.ofString (toString p.2)) u)))).get? b = some o := fun b o hb e => (Heap.get?_update_other _ _ (Ne.symm hb)).trans e
    refine wpAny_updateSeq hS' rfl (wpAny_pure ⟨plainId_quiet F.plain_extend_loop _, ih (i + 1) _ (acc.push (.str (Str.ofString (toString p.2)) u)) _ (ts ++ [Str.ofString (toString p.2)]) ?_ (fun q hq => hg q (by simp [hq])) ?_ (Heap.get?_update_self _ hS' rfl) ?_ ?_ ?_ ?_⟩)
      (by omega) (by show (acc.push _).size ≤ sizeLine + 1; rw [Array.size_push]; omega)
    · have hd : vs.toList.drop i = .str p.1 t :: vs.toList.drop (i + 1) := by
        have : vs.toList[i]? = some (.str p.1 t) := by simpa using hx
        obtain ⟨hlt, he⟩ := List.getElem?_eq_some_iff.mp this
        rw [List.drop_eq_getElem_cons hlt, he]
      rw [hd] at hvs
      cases hvs with
      | cons _ _ h => exact h
    · exact ⟨(let ⟨o, ho, r⟩ := W'.it; ⟨o, up _ _ (Ne.symm hSI) ho, r⟩), (let ⟨o, ho, r⟩ := W'.ls; ⟨o, up _ _ (Ne.symm hSl) ho, r⟩), up _ _ (Ne.symm hS1) W'.t1, up _ _ (Ne.symm hS2) W'.m1, up _ _ (Ne.symm hS3) W'.t2, up _ _ (Ne.symm hS4) W'.m2, W'.n1, W'.n2, W'.n3, W'.n4, W'.n5⟩
    · rw [Array.toList_push]; exact strs_snoc hacc _ _
    · rw [Array.size_push]; omega
    · intro htl' h2' tk2 acc' c' hk hS2' hacc'
      refine hok htl' h2' tk2 acc' c' (fun b o hb hb' e => hk b o hb hb' (up b o hb' (hs'.extBut _ _ hb e))) hS2' ?_
      rw [List.append_assoc] at hacc'
      exact hacc'
    · intro htl' h2' tk2 e hk hnew he
      refine hbad htl' h2' tk2 e (fun b o hb hb' e => hk b o hb hb' (up b o hb' (hs'.extBut _ _ hb e))) ?_ he
      cases hq : s.heap.get? e with
      | none => rfl
      | some o =>
        by_cases hI : e = I
        · obtain ⟨oi, hoi, _⟩ := W'.it
          have h3 := up I oi (Ne.symm hSI) hoi
          rw [← hI] at h3
          exact absurd (hnew.symm.trans h3) (by simp)
        · by_cases hE : e = S
          · have h3 := Heap.get?_update_self (Obj.mapSeq (·.push (.str (Str.ofString (toString p.2)) u))) hS' rfl
            have h4 := (congrArg _ hE).symm.trans hnew
            exact absurd (h4.symm.trans h3) (by simp)
          · have h3 := up e o hE (hs'.extBut _ _ hI hq)
            exact absurd (hnew.symm.trans h3) (by simp)
end
section
variable {prog : Program} {w : World} {A : Around} {s : Shared} {R : Result → Shared → Prop} {vs : Array Value} {l I T1 M1 T2 M2 : Addr}
/-- what a list made of the two maps ends in -/
structure Ends (R : Result → Shared → Prop) (s : Shared) (I S : Addr) (res : Value) (rest : List (Str × Int)) (tl : List Str) : Prop where
  ok : tl = [] → ∀ h' tk acc' c', (∀ b o, b ≠ I → b ≠ S → s.heap.get? b = some o → h'.get? b = some o) → h'.get? S = some (lstObj acc' c') → StrsAre acc'.toList (rest.map fun p => Str.ofString (toString p.2)) → R (.ok (.ret res)) { s with heap := h', toks := tk }
  bad : tl ≠ [] → ∀ h' tk e, (∀ b o, b ≠ I → b ≠ S → s.heap.get? b = some o → h'.get? b = some o) → s.heap.get? e = none → IsBadExc h' e → R (.error (.ref e)) { s with heap := h', toks := tk }
theorem new_back {h h' : Heap} {S : Addr} {e : Addr} {f : Obj → Obj} (hu : h' = h.update S f) {oS : Obj} (hS : h'.get? S = some oS) (hn : h'.get? e = none) : h.get? e = none := by
  cases hq : h.get? e with
  | none => rfl
  | some o =>
    by_cases hE : e = S
    · rw [hE, hS] at hn; cases hn
    · subst hu
      have := (Heap.get?_update_other _ f (Ne.symm hE)).trans hq
      rw [hn] at this; cases this
theorem extend_two (hh : A.handled = none) (S : Addr) (hSI : S ≠ I) (hSl : S ≠ l) (hS1 : S ≠ T1) (hS2 : S ≠ M1) (hS3 : S ≠ T2) (hS4 : S ≠ M2) (res : Value) (c₀ : Nat) (rest : List (Str × Int)) (tl : List Str) (htl : ∀ y r, tl = y :: r → Bad y)
    (hvs : StrsAre vs.toList (rest.map (·.1) ++ tl)) (hg : ∀ p ∈ rest, Good p) (W : Two s.heap vs l I T1 M1 T2 M2 0) (hS : s.heap.get? S = some (lstObj #[] c₀)) (hsz : rest.length ≤ 1000) (hR : Ends R s I S res rest tl) :
    wpAny (model prog w) A.in1 (Builtin.List.listExtendWith (.ref S) (.ref M2) res)
      (fun fin s' => match fin with | .done f => R (.ok f) s' | .again c' => c'.quiet = true ∧ codeAny (model prog w) A c' R s') (fun e s' => R (.error e) s') s := by
  have hT : s.TypeIs (.ref M2) "map" := ⟨_, W.m2, rfl⟩
  unfold Builtin.List.listExtendWith
  refine wpAny_bind (wpAny_typeOf hT ?_)
  have h1 : Builtin.List.listSameRef (.ref S) (.ref M2) = false := by simp [Builtin.List.listSameRef, hS4]
  have h2 : (Value.type "map" == Value.type "list") = false := by decide
  have h3 : (Value.type "map" == Value.type "tuple") = false := by decide
  simp only [h1, h2, h3, Bool.or_false, Bool.false_eq_true, if_false]
  refine wpAny_bind (pyIter_map W.m2 ?_)
  refine wpAny_bind (wpAny_holding ?_)
  unfold Builtin.List.listLengthHint
  refine wpAny_bind (wpAny_specialOf hT MF.map_no_len ?_)
  show wpAny _ A.in1 (specialOf (Value.ref M2) (Str.ofString "__length_hint__") >>= _) _ _ _
  refine wpAny_bind (wpAny_specialOf hT MF.map_no_hint ?_)
  refine wpAny_pure ?_
  show wpAny _ A.in1 (rule "list.extend.makes-room" >>= fun _ => Builtin.List.listTouch (.ref S) >>= fun _ =>
    again (.builtin "list.extend.loop" ⟨[.ref S, .ref M2, res], []⟩)) _ _ _
  refine wpAny_bind (wpAny_rule ?_)
  refine wpAny_bind ?_
  show wpAny _ A.in1 (updateSeq S (·.push .none) >>= fun _ => updateSeq S (·.pop)) _ _ _
  refine wpAny_bind (wpAny_updateSeq hS rfl ?_)
  have hS₂ := Heap.get?_update_self (Obj.mapSeq (·.push Value.none)) hS rfl
  refine wpAny_updateSeq (hz := by seq_fits) hS₂ rfl ?_
  have hS₃ := Heap.get?_update_self (Obj.mapSeq (·.pop)) hS₂ rfl
  have oth : ∀ b o, b ≠ S → s.heap.get? b = some o → ((s.heap.update S (Obj.mapSeq (·.push Value.none))).update S (Obj.mapSeq (·.pop))).get? b = some o :=
    fun b o hb e => (Heap.get?_update_other _ _ (Ne.symm hb)).trans ((Heap.get?_update_other _ _ (Ne.symm hb)).trans e)
  refine wpAny_pure ⟨plainId_quiet F.plain_extend_loop _, ext_loop hh S hSI hSl hS1 hS2 hS3 hS4 res tl htl rest 0 _ #[] _ [] (by simpa using hvs) hg ?_ hS₃ .nil ?_ ?_ ?_⟩
  · exact ⟨(let ⟨o, ho, r⟩ := W.it; ⟨o, oth _ _ (Ne.symm hSI) ho, r⟩), (let ⟨o, ho, r⟩ := W.ls; ⟨o, oth _ _ (Ne.symm hSl) ho, r⟩), oth _ _ (Ne.symm hS1) W.t1, oth _ _ (Ne.symm hS2) W.m1, oth _ _ (Ne.symm hS3) W.t2, oth _ _ (Ne.symm hS4) W.m2, W.n1, W.n2, W.n3, W.n4, W.n5⟩
  · rw [sizeLine_eq]; simp; omega
  · intro h0 h' tk acc' c' hk hS' hacc
    exact hR.ok h0 h' tk acc' c' (fun b o hb hb' e => hk b o hb hb' (oth b o hb' e)) hS' (by simpa using hacc)
  · intro h0 h' tk e hk hnew he
    exact hR.bad h0 h' tk e (fun b o hb hb' e => hk b o hb hb' (oth b o hb' e)) (new_back rfl hS₂ (new_back rfl hS₃ hnew)) he
theorem list_init_two (hh : A.handled = none) (S : Addr) (hSI : S ≠ I) (hSl : S ≠ l) (hS1 : S ≠ T1) (hS2 : S ≠ M1) (hS3 : S ≠ T2) (hS4 : S ≠ M2) (rest : List (Str × Int)) (tl : List Str) (htl : ∀ y r, tl = y :: r → Bad y)
    (hvs : StrsAre vs.toList (rest.map (·.1) ++ tl)) (hg : ∀ p ∈ rest, Good p) (W : Two s.heap vs l I T1 M1 T2 M2 0) (hS : s.heap.get? S = some (lstObj #[] 0)) (hsz : rest.length ≤ 1000) (hR : Ends R s I S .none rest tl) :
    wpAny (model prog w) A.in1 (Builtin.«list.__init__» ⟨[.ref S, .ref M2], []⟩)
      (fun fin s' => match fin with | .done f => R (.ok f) s' | .again c' => c'.quiet = true ∧ codeAny (model prog w) A c' R s') (fun e s' => R (.error e) s') s := by
  show wpAny _ A.in1 (do let old ← Builtin.List.listItems (.ref S); Builtin.List.listUpdate (.ref S) (fun _ => #[]); letGo old.toList.reverse; Builtin.List.listExtendWith (.ref S) (.ref M2) .none) _ _ s
  refine wpAny_bind ?_
  unfold Builtin.List.listItems
  refine wpAny_bind (wpAny_seqItems hS rfl (wpAny_pure ?_))
  show wpAny _ A.in1 (updateSeq S (fun _ => #[]) >>= fun _ => letGo (#[] : Array Value).toList.reverse >>= fun _ => Builtin.List.listExtendWith (.ref S) (.ref M2) .none) _ _ s
  refine wpAny_bind (wpAny_updateSeq hS rfl ?_)
  have hS₂ := Heap.get?_update_self (Obj.mapSeq (fun _ => (#[] : Array Value))) hS rfl
  have oth : ∀ b o, b ≠ S → s.heap.get? b = some o → (s.heap.update S (Obj.mapSeq (fun _ => (#[] : Array Value)))).get? b = some o :=
    fun b o hb e => (Heap.get?_update_other _ _ (Ne.symm hb)).trans e
  refine wpAny_bind (wpAny_letGo ?_)
  refine extend_two hh S hSI hSl hS1 hS2 hS3 hS4 .none _ rest tl htl hvs hg ?_ hS₂ hsz ⟨?_, ?_⟩
  · exact ⟨(let ⟨o, ho, r⟩ := W.it; ⟨o, oth _ _ (Ne.symm hSI) ho, r⟩), (let ⟨o, ho, r⟩ := W.ls; ⟨o, oth _ _ (Ne.symm hSl) ho, r⟩), oth _ _ (Ne.symm hS1) W.t1, oth _ _ (Ne.symm hS2) W.m1, oth _ _ (Ne.symm hS3) W.t2, oth _ _ (Ne.symm hS4) W.m2, W.n1, W.n2, W.n3, W.n4, W.n5⟩
  · intro h0 h' tk acc' c' hk hS' hacc
    exact hR.ok h0 h' tk acc' c' (fun b o hb hb' e => hk b o hb hb' (oth b o hb' e)) hS' hacc
  · intro h0 h' tk e hk hnew he
    exact hR.bad h0 h' tk e (fun b o hb hb' e => hk b o hb hb' (oth b o hb' e)) (new_back rfl hS₂ hnew) he
end
section
variable {prog : Program} {w : World} {A : Around} {E : Value → Shared → Prop} {s : Shared} {vs : Array Value} {l I T1 M1 T2 M2 : Addr}
theorem call_list_two {Q : Value → Shared → Prop} (hh : A.handled = none) (rest : List (Str × Int)) (tl : List Str) (htl : ∀ y r, tl = y :: r → Bad y)
    (hvs : StrsAre vs.toList (rest.map (·.1) ++ tl)) (hg : ∀ p ∈ rest, Good p) (W : Two s.heap vs l I T1 M1 T2 M2 0) (hsz : rest.length ≤ 1000)
    (hok : tl = [] → ∀ D h' tk acc' c', (∀ b o, b ≠ I → s.heap.get? b = some o → h'.get? b = some o) → s.heap.get? D = none → h'.get? D = some (lstObj acc' c') → StrsAre acc'.toList (rest.map fun p => Str.ofString (toString p.2)) → Q (.ref D) { s with heap := h', toks := tk })
    (hbad : tl ≠ [] → ∀ h' tk e, (∀ b o, b ≠ I → s.heap.get? b = some o → h'.get? b = some o) → s.heap.get? e = none → IsBadExc h' e → E (.ref e) { s with heap := h', toks := tk }) :
    wpAny (model prog w) A (call (.type "list") [.ref M2]) Q E s := by
  have lt : ∀ {a : Addr} {o : Obj}, s.heap.get? a = some o → s.heap.objs.size ≠ a := fun e => Nat.ne_of_gt (Heap.lt_size e)
  have lI : s.heap.objs.size ≠ I := by obtain ⟨o, ho, _⟩ := W.it; exact lt ho
  have ll : s.heap.objs.size ≠ l := by obtain ⟨o, ho, _⟩ := W.ls; exact lt ho
  have up : ∀ b o, s.heap.get? b = some o → (s.heap.push { cls := .type "list", data := .seq #[] }).get? b = some o := fun b o e => Heap.get?_push_of_some _ e
  refine callType_codes (Q₁ := fun obj s₁ => obj = .ref s.heap.objs.size ∧ s₁ = { s with heap := s.heap.push { cls := .type "list", data := .seq #[] } }) F.called_list (F.typeCall_list_1 _) F.entry_list_init
    (code_list_new _ ⟨rfl, rfl⟩) fun obj s₁ h₁ => ?_
  obtain ⟨rfl, rfl⟩ := h₁
  have hS : (s.heap.push { cls := .type "list", data := .seq #[] }).get? s.heap.objs.size = some { cls := .type "list", data := .seq #[] } := Heap.get?_push_size _ rfl
  refine ⟨⟨_, hS, rfl⟩, F.args_list_init_2 _ _, list_init_two (A := A.in1) hh _ lI ll (lt W.t1) (lt W.m1) (lt W.t2) (lt W.m2) rest tl htl hvs hg (W.keep up) hS hsz ⟨?_, ?_⟩⟩
  · intro h0 h' tk acc' c' hk hS' hacc
    exact ⟨rfl, hok h0 _ h' tk acc' c' (fun b o hb e => hk b o hb (Ne.symm (lt e)) (up b o e)) (Heap.get?_none_of_le (Nat.le_refl _)) hS' hacc⟩
  · intro h0 h' tk e hk hnew he
    refine hbad h0 h' tk e (fun b o hb e => hk b o hb (Ne.symm (lt e)) (up b o e)) ?_ he
    cases hq : s.heap.get? e with
    | none => rfl
    | some o => exact absurd (hnew.symm.trans (up e o hq)) (by simp)
end
end Mine
end

section
set_option maxRecDepth 100000
namespace Mine
open PySem PySem.W PySem.Calls PyProof.Rows PySem.Spec
section
variable {prog : Program} {w : World} {A₀ : Around} {E : Value → Shared → Prop} {s' : Shared} {base g h : Heap} {outer : List Env} {L a e : Addr} {m : Str → Option Value} {name : Str} {scope : Scope} {cd : Value}
  {KF : Frag} {p : Program} {loose : List Str} {mean : ExcName → Option Value} {mg mb : Str → Option Value} {news : List (Addr × Obj)} {X : String} {np pos : Pos} {b₀ : Stmt} {suite : List Stmt} {rest : List ExceptHandler} {Q : Flow → Shared → Prop}
theorem note_new {M : Model} {A : Around} {E : Value → Shared → Prop} {s : Shared} {base : Heap} {env : Env} {outer : List Env} {L e : Addr} {oe : Obj} {vs : Array Value} {a0 : Value} {Q : Unit → Shared → Prop}
    (hfr : A.frames = some (env :: outer)) (hl : s.heap.FunFrames base (env :: outer)) (hf : env.frame = some L) (he : s.heap.get? e = some oe) (hkb : base.StaysIn s.heap) (hen : base.get? e = none) (hd : oe.data = .fields vs) (h1 : vs[1]? = some .none) (h0 : vs[0]? = some a0)
    (hQ : ∀ h', Heap.HeldW base (env :: outer) e oe.cls a0 L h' → s.heap.UpToSlots h' → Q () { s with heap := h' }) : wpAny M A (noteFrame (.ref e) env) Q E s := by
  unfold noteFrame
  simp only [hf]
  refine wpAny_bind (wpAny_field he hd h1 ?_)
  rw [if_neg (by decide)]
  refine wpAny_entryW hfr hl hf he hkb hen hd (Array.getElem?_eq_some_iff.mp h1).1 h0 fun h' hN => ?_
  obtain ⟨k1, k2, k3, k4⟩ := hN
  exact hQ h' ⟨k1, hen, k2, k3⟩ k4
/-- an exception that a built-in has raised in this very frame, taken by the frame's own first clause; the frames below turn by their slots -/
theorem caught_V (hx : Heap.NewExc h s'.heap e X) (F : Fr g L h m) (N : News g L h news) (K : Below A₀ base outer g) (XB : KF.In base) (TB : Top p loose mean mg mb base)
    (hsub : isSubtype (.type X) (.type "ValueError") = pure true) (ex : nsIn KF mainGlobals (Str.ofString "ValueError") = some none) (hn' : Str.ofString "ValueError" ≠ "__name__")
    (k : ∀ h' g', KtsTurn (outer.filterMap (·.frame)) g g' → Fr g' L h' m → News g' L h' news → Below A₀ base outer g' → KF.In g' → Top p loose mean mg mb g' →
      wpAny (model prog w) ((A₀.deeper (envOf name scope L a cd)).mark (some (.ref e))) (execs (b₀ :: suite) (envOf name scope L a cd)) Q E { s' with heap := h' })
    (hk : scope.kind = .function := by rfl) (hxk : (envOf name scope L a cd).kindOf (Str.ofString "ValueError") = some .globalImplicit := by rfl)
    (hE : PassesOwnAt (model prog w) ((A₀.deeper (envOf name scope L a cd)).mark (some (.ref e))) (A₀.deeper (envOf name scope L a cd)) (envOf name scope L a cd) E := by passes_own) :
    wpAny (model prog w) (A₀.deeper (envOf name scope L a cd)) (noteFrame (.ref e) (envOf name scope L a cd))
      (fun _ s₂ => wpAny (model prog w) (A₀.deeper (envOf name scope L a cd)) (setFlight (.ref e) none) (fun _ s₃ =>
        wpAny (model prog w) (A₀.deeper (envOf name scope L a cd)) (handleBy (.ref e) (envOf name scope L a cd) (.ExceptHandler (some (.Name (Str.ofString "ValueError") np)) none (b₀ :: suite) pos :: rest)) Q E s₃) E s₂) E s' := by
  obtain ⟨hkeep, hnew, ob, t0, hob, hobc, hobd⟩ := hx
  have K' := K.push (name := name) (a := a) (cd := cd) F hk
  have hfs : ∀ b ∈ (envOf name scope L a cd :: outer).filterMap (·.frame), ∃ o, h.get? b = some o ∧ ∀ vs, o.data ≠ .fields vs := fun b hb => (K'.frames.mem hb).2
  -- the ground: all that stood, the frames hidden
  have hBG : ∀ b o, h.get? b = some o → b ∉ (envOf name scope L a cd :: outer).filterMap (·.frame) → (hideAll h ((envOf name scope L a cd :: outer).filterMap (·.frame))).get? b = some o := fun b o e nm => hideAll_get _ e nm
  have hst : (hideAll h ((envOf name scope L a cd :: outer).filterMap (·.frame))).StaysIn s'.heap := fun b o e => hkeep b o (of_hideAll _ e)
  have hff : s'.heap.FunFrames (hideAll h ((envOf name scope L a cd :: outer).filterMap (·.frame))) (envOf name scope L a cd :: outer) := by
    have h1 := funFrames_hide (as := (envOf name scope L a cd :: outer).filterMap (·.frame)) K'.frames (fun env he a hf => List.mem_filterMap.mpr ⟨env, he, hf⟩)
    exact h1.of_keeps fun b o e _ => ⟨o, hkeep b o e, rfl⟩
  have hen : (hideAll h ((envOf name scope L a cd :: outer).filterMap (·.frame))).get? e = none := by
    cases q : (hideAll h ((envOf name scope L a cd :: outer).filterMap (·.frame))).get? e with
    | none => rfl
    | some o => rw [of_hideAll _ q] at hnew; cases hnew
  refine note_new (Around.frames_deeper K.stack) hff rfl hob hst hen hobd rfl (a0 := t0) rfl fun h₄ hheld₄ hsm₄ => ?_
  refine wpAny_landsW hheld₄ fun h₅ hheld hsm₅' => ?_
  have hsm : h.UpToSlots s'.heap := Heap.UpToSlots.of_keeps hkeep
  have hsm₅ := hsm.trans (hsm₄.trans hsm₅')
  obtain ⟨g₅, T₅, F₅, K₅⟩ := kts_ground (name := name) (scope := scope) (a := a) (cd := cd) K F hBG hheld.1 hsm₅
  have X₅ : KF.In g₅ := XB.keeps K₅.stays
  have P₅ : TopRead p loose mg mb g₅ := topRead_of (TB.keeps K₅.stays)
  obtain ⟨ob', hob', hobc'⟩ := hheld.there
  refine wpAny_handleBy_builtin (X := X) (T := "ValueError") (b := true) PySem.F.isExc_ValueError PySem.F.notTuple_ValueError hsub (name_B F₅ X₅ P₅ ex PyProof.Rows.Boot.«ValueError» hn' ⟨rfl, ⟨ob', hob', hobc'.trans hobc⟩, ?_⟩ hk hxk (by decide))
  refine lands_againW hheld fun h₆ hfl₆ hsm₆ => ?_
  obtain ⟨g₆, T₆, F₆, K₆⟩ := kts_ground (name := name) (scope := scope) (a := a) (cd := cd) K F hBG hfl₆.1 (hsm₅.trans hsm₆)
  have X₆ : KF.In g₆ := XB.keeps K₆.stays
  have P₆ : Top p loose mean mg mb g₆ := TB.keeps K₆.stays
  have Nl : News g₆ L h₆ news := fun q hq => ⟨hfl₆.1 _ _ (hBG _ _ (N q hq).1 (fun hm => by
      rcases kts_mem hm with z | z
      · exact (N q hq).2.1 z
      · obtain ⟨_, o, ho, _⟩ := K.frames.mem z
        rw [(N q hq).2.2] at ho; cases ho)), (N q hq).2.1, T₆.none_ _ (N q hq).2.2⟩
  exact wpAny_passesOwnAt hE (k h₆ g₆ T₆ F₆ Nl K₆ X₆ P₆)
end
section
variable {prog : Program} {w : World} {A : Around} {E : Value → Shared → Prop} {s : Shared} {h₀ : Heap} {L : Addr} {m : Str → Option Value} {news : List (Addr × Obj)} {Q : Value → Shared → Prop}
theorem news_fresh {h : Heap} (F : Fr h₀ L h m) {b : Addr} (hb : h.objs.size ≤ b) : h₀.get? b = none := by
  cases q : h₀.get? b with
  | none => rfl
  | some o => exact absurd (Heap.lt_size (F.keep _ _ q)) (Nat.not_lt.mpr hb)
theorem map1_K {f : Value} {l : Addr} {vs : Array Value} {n : Nat} (F : Fr h₀ L s.heap m) (N : News h₀ L s.heap news) (hl : (l, ({ cls := .type "list", data := .seq vs n } : Obj)) ∈ news)
    (h : ∀ I T M h', Fr h₀ L h' m → News h₀ L h' ((M, mapObj T f) :: (T, oneTup (.ref I)) :: (I, lstIt l) :: news) → Q (.ref M) { s with heap := h' }) : wpAny (model prog w) A (call (.type "map") [f, .ref l]) Q E s := by
  have hL : s.heap.IsList l vs := ⟨_, (N _ hl).1, rfl, n, rfl⟩
  refine call_map_list hL fun h' g1 g2 g3 hsz hk => h s.heap.objs.size (s.heap.objs.size + 1) (s.heap.objs.size + 2) h' (F.grownK hk) fun p hp => ?_
  have lt := F.ns.lt
  rcases List.mem_cons.mp hp with rfl | hp
  · exact ⟨g3, Nat.ne_of_gt (Nat.lt_of_lt_of_le lt (by omega)), news_fresh F (by omega)⟩
  rcases List.mem_cons.mp hp with rfl | hp
  · exact ⟨g2, Nat.ne_of_gt (Nat.lt_of_lt_of_le lt (by omega)), news_fresh F (by omega)⟩
  rcases List.mem_cons.mp hp with rfl | hp
  · exact ⟨g1, Nat.ne_of_gt lt, news_fresh F (Nat.le_refl _)⟩
  · exact ⟨hk _ _ (N p hp).1, (N p hp).2⟩
theorem map2_K {f g : Value} {z T₀ : Addr} (F : Fr h₀ L s.heap m) (N : News h₀ L s.heap news) (hz : (z, mapObj T₀ g) ∈ news)
    (h : ∀ T M h', Fr h₀ L h' m → News h₀ L h' ((M, mapObj T f) :: (T, oneTup (.ref z)) :: news) → Q (.ref M) { s with heap := h' }) : wpAny (model prog w) A (call (.type "map") [f, .ref z]) Q E s := by
  refine call_map_map (N _ hz).1 fun h' g1 g2 hsz hk => h s.heap.objs.size (s.heap.objs.size + 1) h' (F.grownK hk) fun p hp => ?_
  have lt := F.ns.lt
  rcases List.mem_cons.mp hp with rfl | hp
  · exact ⟨g2, Nat.ne_of_gt (Nat.lt_of_lt_of_le lt (by omega)), news_fresh F (by omega)⟩
  rcases List.mem_cons.mp hp with rfl | hp
  · exact ⟨g1, Nat.ne_of_gt lt, news_fresh F (Nat.le_refl _)⟩
  · exact ⟨hk _ _ (N p hp).1, (N p hp).2⟩
theorem list_two_K {l I T1 M1 T2 M2 : Addr} {vs : Array Value} {n : Nat} (hh : A.handled = none) (F : Fr h₀ L s.heap m)
    (N : News h₀ L s.heap ((M2, mapObj T2 (.type "str")) :: (T2, oneTup (.ref M1)) :: (M1, mapObj T1 (.type "int")) :: (T1, oneTup (.ref I)) :: (I, lstIt l) :: [(l, { cls := .type "list", data := .seq vs n })]))
    (rest : List (Str × Int)) (tl : List Str) (htl : ∀ y r, tl = y :: r → Bad y) (hvs : StrsAre vs.toList (rest.map (·.1) ++ tl)) (hg : ∀ p ∈ rest, Good p) (hsz : rest.length ≤ 1000) (hsz2 : tl.length ≤ 1000)
    (hok : tl = [] → ∀ D h' tk acc' c', Fr h₀ L h' m → News h₀ L h' [(D, lstObj acc' c'), (l, { cls := .type "list", data := .seq vs n })] → StrsAre acc'.toList (rest.map fun p => Str.ofString (toString p.2)) → Q (.ref D) { s with heap := h', toks := tk })
    (hbad : tl ≠ [] → ∀ vs' n' h₁ h' tk e, StrsAre vs'.toList (rest.map (·.1) ++ tl) → vs'.size ≤ 2000 → Fr h₀ L h₁ m → News h₀ L h₁ [(l, lstObj vs' n')] → Heap.NewExc h₁ h' e "ValueError" → E (.ref e) { s with heap := h', toks := tk }) :
    wpAny (model prog w) A (call (.type "list") [.ref M2]) Q E s := by
  have g2 := (N _ (.head _)).1
  have gt2 := (N _ (.tail _ (.head _))).1
  have g1 := (N _ (.tail _ (.tail _ (.head _)))).1
  have gt1 := (N _ (.tail _ (.tail _ (.tail _ (.head _))))).1
  have gI := N _ (.tail _ (.tail _ (.tail _ (.tail _ (.head _)))))
  have gl := N _ (.tail _ (.tail _ (.tail _ (.tail _ (.tail _ (.head _))))))
  have ne : ∀ {a : Addr} {o : Obj}, s.heap.get? a = some o → o.cls ≠ .type "list_iterator" → a ≠ I := fun {a o} e hc q => by
    rw [q, gI.1] at e
    exact hc (by rw [← Option.some.inj e])
  have W : Two s.heap vs l I T1 M1 T2 M2 0 := ⟨⟨_, gI.1, rfl, rfl⟩, ⟨_, gl.1, rfl, n, rfl⟩, gt1, g1, gt2, g2, ne gt1 (by simp), ne g1 (by simp), ne gt2 (by simp), ne g2 (by simp), ne gl.1 (by simp)⟩
  have Fup : ∀ {h'}, (∀ b o, b ≠ I → s.heap.get? b = some o → h'.get? b = some o) → Fr h₀ L h' m := fun {h'} hk => by
    obtain ⟨oL, es, ep, hL, hLd, hLk, hLf⟩ := F.ns
    refine ⟨⟨oL, es, ep, hk L oL (Ne.symm gI.2.1) hL, hLd, hLk, hLf⟩, fun b o e => hk b o (fun q => ?_) (F.keep b o e), F.above⟩
    rw [q, gI.2.2] at e; cases e
  refine call_list_two hh rest tl htl hvs hg W hsz (fun h0 D h' tk acc' c' hk hD hD' hacc => ?_) (fun h0 h' tk e hk hnew he => ?_)
  · refine hok h0 D h' tk acc' c' (Fup hk) (fun p hp => ?_) hacc
    rcases List.mem_cons.mp hp with rfl | hp
    · refine ⟨hD', fun q => ?_, ?_⟩
      · obtain ⟨oL, es, ep, hL, _⟩ := F.ns
        have q' : D = L := q
        rw [q', hL] at hD; cases hD
      · cases q : h₀.get? D with
        | none => rfl
        | some o => rw [F.keep _ _ q] at hD; cases hD
    · obtain rfl := List.mem_singleton.mp hp
      exact ⟨hk _ _ W.n5 gl.1, gl.2⟩
  · have hide_I : ∀ b o, (s.heap.hide I).get? b = some o → b ≠ I ∧ s.heap.get? b = some o := fun b o e => by
      refine ⟨fun q => ?_, Heap.of_hide e⟩
      rw [q, Heap.hide_self] at e; cases e
    have back : ∀ b o, b ≠ I → s.heap.get? b = some o → (s.heap.hide I).get? b = some o := fun b o hb e => (Heap.hide_ne s.heap hb).trans e
    refine hbad h0 vs n (s.heap.hide I) h' tk e hvs (by have := hvs.len_eq; simp at this; omega) (Fup back) (fun p hp => ?_) ⟨fun b o e => hk b o (hide_I b o e).1 (hide_I b o e).2, ?_, he⟩
    · obtain rfl := List.mem_singleton.mp hp
      exact ⟨back _ _ W.n5 gl.1, gl.2⟩
    · cases q : (s.heap.hide I).get? e with
      | none => rfl
      | some o => rw [(hide_I e o q).2] at hnew; cases hnew
end
end Mine
end

section
set_option maxRecDepth 100000
namespace Mine
open PySem PySem.W PySem.Calls PyProof.Rows PySem.Spec
noncomputable def pieces (a b : Str) : List Str := Txt.split a (Str.ofString ".") ++ (if b.length = 0 then [] else [b])
theorem norm_vs1 {a b : Str} {l : List (Str × Tok)} {ys : List Str} (hl : List.map (fun x => x.1) l = Txt.split a (Str.ofString ".")) (hp : pieces a b = ys) (hb : (b.length : Int) = 0) : StrsAre (strValues l).toArray.toList ys := by
  subst hp
  have : b.length = 0 := by omega
  unfold pieces
  rw [if_pos this, List.append_nil, ← hl]
  exact strsAre_of_values l
theorem norm_vs2 {a b : Str} {t : Tok} {l : List (Str × Tok)} {ys : List Str} (hl : List.map (fun x => x.1) l = Txt.split a (Str.ofString ".")) (hp : pieces a b = ys) (hb : (b.length : Int) ≠ 0) : StrsAre ((strValues l).toArray.push (.str b t)).toList ys := by
  subst hp
  have : ¬ b.length = 0 := by omega
  unfold pieces
  rw [if_neg this, ← hl, Array.toList_push]
  exact strs_snoc (strsAre_of_values l) _ _
theorem strs_take {vs : List Value} {ys : List Str} (h : StrsAre vs ys) (k : Nat) : StrsAre (vs.take k) (ys.take k) := by
  induction h generalizing k with
  | nil => cases k <;> exact .nil
  | cons z u _ ih =>
    cases k with
    | zero => exact .nil
    | succ k => exact .cons z u (ih k)
theorem sum_le {ys : List Str} {B : Nat} (h : ∀ y ∈ ys, y.length ≤ B) : (ys.map (·.length)).sum ≤ ys.length * B := by
  induction ys with
  | nil => simp
  | cons y r ih =>
    have h1 := h y (by simp)
    have h2 := ih fun z hz => h z (by simp [hz])
    simp only [List.map_cons, List.sum_cons, List.length_cons, Nat.succ_mul]
    omega
theorem join3_K {prog : Program} {w : World} {A : Around} {E : Value → Shared → Prop} {s : Shared} {h₀ : Heap} {L : Addr} {news : List (Addr × Obj)} {Q : Value → Shared → Prop} {x : Str} {t : Tok} {D : Addr} {acc : Array Value} {n : Nat} {ys : List Str}
    (N : News h₀ L s.heap news) (hD : (D, ({ cls := .type "list", data := .seq (slicePick acc none (some 3) none) n } : Obj)) ∈ news) (hacc : StrsAre acc.toList ys) (hlen : ∀ y ∈ ys, y.length ≤ 1000) (hsep : x.length ≤ 16)
    (h : ∀ t' k, Q (.str (Txt.join x (ys.take 3)) t') { s with toks := k }) : wpAny (model prog w) A (call (.builtin "str.join") [.str x t, .ref D]) Q E s := by
  have e : slicePick acc none (some 3) none = (acc.toList.take 3).toArray := slicePick_upto' acc 3
  refine join_listW (s := s) (items := slicePick acc none (some 3) none) ⟨_, (N _ hD).1, rfl, n, rfl⟩ (ys := ys.take 3) (by rw [e]; exact strs_take hacc 3) hsep ?_ h
  have h1 := sum_le (ys := ys.take 3) (B := 1000) fun y hy => hlen y (List.mem_of_mem_take hy)
  have h2 : (ys.take 3).length ≤ 3 := by simp; omega
  have h3 : (ys.take 3).length * 1000 ≤ 3 * 1000 := Nat.mul_le_mul_right _ h2
  omega
noncomputable def normList (rest : List (Str × Int)) (tl : List Str) : List Str := if tl = [] then rest.map (fun p => Str.ofString (toString p.2)) else rest.map (·.1) ++ tl
theorem normList_ok {rest : List (Str × Int)} {tl : List Str} (h : tl = []) : normList rest tl = rest.map (fun p => Str.ofString (toString p.2)) := if_pos h
theorem normList_bad {rest : List (Str × Int)} {tl : List Str} (h : tl ≠ []) : normList rest tl = rest.map (·.1) ++ tl := if_neg h
local macro_rules | `(tactic| walk_at "execs cons") => return foldT
local macro_rules | `(tactic| walk_at "noteFrame ref") => do return thenT t_H (seqT [← ruleM `Mine.caught_V "aaaaaaSid!" [] t_W, t_x] (introT 8))
local macro_rules | `(tactic| walk_at "call builtin:str.join") => lineM 'u' (biE "str.join" "sr") `Mine.join3_K "kmNad!" 2 true []
local macro_rules | `(tactic| walk_at "call type:map") => lineM 'u' (tyE "map" "Ir") `Mine.map1_K "kkm!" 6 true []
local macro_rules | `(tactic| walk_at "call type:map") => lineM 'u' (tyE "map" "Sr") `Mine.map2_K "kkm!" 5 true []
local macro_rules | `(tactic| walk_at "call type:list") => do return seqT [t_H, redT (showT (tyE "list" "r")), unfT (← ruleM `Mine.list_two_K "rkk__aNaaa!!" [0, 1, 2, 5, 7, 8, 9, 6] t_l)] (firstT (introT 9) (introT 12))
/-- what holds of the def that stands at f holds of whatever is read there -/
theorem viaFn {K : Frag} {f : Addr} {P : FuncData → Prop} {fd : FuncData} {oc : Value} {od : Option Addr} {osl : Array (Option Value)} (ho : K.lookup f = some ⟨oc, od, .func fd, osl⟩) (h : P fd) :
    ∀ oc' od' fd' osl', K.lookup f = some ⟨oc', od', .func fd', osl'⟩ → P fd' := by
  intro oc' od' fd' osl' e
  rw [ho] at e
  cases Option.some.inj e
  exact h
set_option maxHeartbeats 8000000 in
theorem norm_any : ∀ (w : World) (mean : ExcName → Option Value) (mg mb : Str → Option Value) (a b : Str) (t1 t2 : Tok) (rest : List (Str × Int)) (tl : List Str)
    (_ : a.length < 100) (_ : b.length < 100) (_ : pieces a b = rest.map (·.1) ++ tl) (_ : ∀ y r, tl = y :: r → Bad y) (_ : ∀ p ∈ rest, Good p) (_ : rest.length ≤ 1000) (_ : tl.length ≤ 1000) (_ : ∀ y ∈ rest.map (fun p => Str.ofString (toString p.2)), y.length ≤ 1000) (_ : ∀ y ∈ rest.map (·.1) ++ tl, y.length ≤ 1000)
    (args : Args) (dp un : Nat) (gd : Option (List Code)) (outer : List Env) (base : Heap) (s : Shared) (R : Result → Shared → Prop)
    (_ : Below { handled := none, depth := dp, frames := some outer, guards := gd, units := un } base outer s.heap) (_ : (hd.heap_39 w.params).In base) (_ : Top vw lo mean mg mb base)
    (_ : dp + 4 < recursionLimit) (_ : un + 40 < cLine)
    (_ : ∀ oc od fd osl, (hd.heap_39 w.params).lookup 22 = some ⟨oc, od, .func fd, osl⟩ → BindsTo s fd args [(Str.ofString "version", .str a t1), (Str.ofString "build", .str b t2)])
   (_ : ∀ g' h' tk' t, KtsTurn (outer.filterMap (·.frame)) s.heap g' → (∀ b o, g'.get? b = some o → h'.get? b = some o) → R (.ok (.ret (.str (Txt.join (Str.ofString ".") ((normList rest tl).take 3)) t))) { s with heap := h', toks := tk' }),
      codeAny (model Challenge.rw_ny0082_01.row.prog w) { handled := none, depth := dp, frames := some outer, guards := gd, units := un } (.call (.ref 22) args) R s := by
  w_top off
  k_fill
  intro w mean mg mb a b t1 t2 rest tl ha hb hp htl hg hsz hsz2 hl1 hl2 args dp un gd outer base s R B XB TB hdp hun hb9 hR
  have KI : (hd.heap_39 w.params).In s.heap := XB.keeps B.stays
  have T : Top vw lo mean mg mb s.heap := TB.keeps B.stays
  (refine' enterP (binds := [(Str.ofString "version", .str a t1), (Str.ofString "build", .str b t2)]) ?kB ?kX ?kT ?k6 ?k7 ?k8 ?k9 ?kL ?_ ?c2 ?c3 ?c4 ?c5; (case kB => assumption); (case kX => exact KI); (case kT => exact T); (case k6 => k_is); (case k7 => k_is); (case k8 => ktr_room); (case k9 => exact hb9 _ _ _ _ (by k_is)); (case c5 => decide); (case kL => exact locs rfl); (case c2 => exact rfl); (case c3 => exact rfl); (case c4 => exact rfl); k_whole; intro g' L' h' hG F' N' B' X' T'; clear KI T hb9; (try dsimp only); (try k_lift B'); (try k_fold))
  k_steps
  all_goals (try dsimp only)
  all_goals (rename Fr _ _ _ _ => FF)
  all_goals first
    | (rw [← normList_ok (by assumption)]; exact hR _ _ _ _ KtsTurn.refl fun b o e => FF.keep b o ((hG.at_ b).trans e))
    | (rw [← normList_bad (by assumption)]; (rename KtsTurn _ _ _ => tu9); exact hR _ _ _ _ (KtsTurn.mk (tu9.size.trans hG.size) (fun b e => tu9.none_ b ((hG.at_ b).trans e)) (fun b o e => tu9.other b o ((hG.at_ b).trans e)) (fun b o e => tu9.frame b o ((hG.at_ b).trans e))) FF.keep)
    | trace_state
theorem norm_code : ∀ (w : World) (mean : ExcName → Option Value) (mg mb : Str → Option Value) (a b : Str) (t1 t2 : Tok) (rest : List (Str × Int)) (tl : List Str)
    (_ : a.length < 100) (_ : b.length < 100) (_ : pieces a b = rest.map (·.1) ++ tl) (_ : ∀ y r, tl = y :: r → Bad y) (_ : ∀ p ∈ rest, Good p) (_ : rest.length ≤ 1000) (_ : tl.length ≤ 1000) (_ : ∀ y ∈ rest.map (fun p => Str.ofString (toString p.2)), y.length ≤ 1000) (_ : ∀ y ∈ rest.map (·.1) ++ tl, y.length ≤ 1000)
    (dp un : Nat) (gd : Option (List Code)) (outer : List Env) (base : Heap) (s : Shared) (R : Result → Shared → Prop)
    (_ : Below { handled := none, depth := dp, frames := some outer, guards := gd, units := un } base outer s.heap) (_ : (hd.heap_39 w.params).In base) (_ : Top vw lo mean mg mb base)
    (_ : dp + 4 < recursionLimit) (_ : un + 40 < cLine)
   (_ : ∀ g' h' tk' t, KtsTurn (outer.filterMap (·.frame)) s.heap g' → (∀ b o, g'.get? b = some o → h'.get? b = some o) → R (.ok (.ret (.str (Txt.join (Str.ofString ".") ((normList rest tl).take 3)) t))) { s with heap := h', toks := tk' }),
      codeAny (model Challenge.rw_ny0082_01.row.prog w) { handled := none, depth := dp, frames := some outer, guards := gd, units := un } (.call (.ref 22) ⟨[.str a t1, .str b t2], []⟩) R s := by
  intro w mean mg mb a b t1 t2 rest tl ha hb hp htl hg hsz hsz2 hl1 hl2 dp un gd outer base s R B XB TB hdp hun hR
  w_top off
  k_fill
  refine' norm_any w mean mg mb a b t1 t2 rest tl ha hb hp htl hg hsz hsz2 hl1 hl2 _ dp un gd outer base s R B XB TB hdp hun (viaFn ?ho ?hb) hR
  case ho => k_is
  case hb => first | exact BindsTo.of_eq rfl | exact binds_K (XB.keeps B.stays) rfl (by k_is) rfl rfl rfl
set_option maxHeartbeats 8000000 in
theorem norm1_code : ∀ (w : World) (mean : ExcName → Option Value) (mg mb : Str → Option Value) (a : Str) (t1 : Tok) (rest : List (Str × Int)) (tl : List Str)
    (_ : a.length < 100) (_ : pieces a (Str.ofString "") = rest.map (·.1) ++ tl) (_ : ∀ y r, tl = y :: r → Bad y) (_ : ∀ p ∈ rest, Good p) (_ : rest.length ≤ 1000) (_ : tl.length ≤ 1000) (_ : ∀ y ∈ rest.map (fun p => Str.ofString (toString p.2)), y.length ≤ 1000) (_ : ∀ y ∈ rest.map (·.1) ++ tl, y.length ≤ 1000)
    (dp un : Nat) (gd : Option (List Code)) (outer : List Env) (base : Heap) (s : Shared) (R : Result → Shared → Prop)
    (_ : Below { handled := none, depth := dp, frames := some outer, guards := gd, units := un } base outer s.heap) (_ : (hd.heap_39 w.params).In base) (_ : Top vw lo mean mg mb base)
    (_ : dp + 4 < recursionLimit) (_ : un + 40 < cLine)
   (_ : ∀ g' h' tk' t, KtsTurn (outer.filterMap (·.frame)) s.heap g' → (∀ b o, g'.get? b = some o → h'.get? b = some o) → R (.ok (.ret (.str (Txt.join (Str.ofString ".") ((normList rest tl).take 3)) t))) { s with heap := h', toks := tk' }),
      codeAny (model Challenge.rw_ny0082_01.row.prog w) { handled := none, depth := dp, frames := some outer, guards := gd, units := un } (.call (.ref 22) ⟨[.str a t1], []⟩) R s := by
  intro w mean mg mb a t1 rest tl ha hp htl hg hsz hsz2 hl1 hl2 dp un gd outer base s R B XB TB hdp hun hR
  w_top off
  k_fill
  have KI : (hd.heap_39 w.params).In s.heap := XB.keeps B.stays
  refine' norm_any w mean mg mb a (Str.ofString "") t1 189 rest tl ha (by decide) hp htl hg hsz hsz2 hl1 hl2 _ dp un gd outer base s R B XB TB hdp hun (viaFn ?ho ?hb) hR
  case ho => k_is
  case hb => exact binds_K KI rfl (by k_is) rfl rfl rfl
end Mine
end

section
set_option maxRecDepth 100000
namespace Mine
open PySem PySem.W PySem.Calls PyProof.Rows PySem.Spec
/-- what _norm_version makes of a text and of a build, spelled out -/
structure NormOk (a b out : Str) : Prop where
  la : a.length < 100
  lb : b.length < 100
  ex : ∃ (rest : List (Str × Int)) (tl : List Str), pieces a b = rest.map (·.1) ++ tl ∧ (∀ y r, tl = y :: r → Bad y) ∧ (∀ p ∈ rest, Good p) ∧ rest.length ≤ 1000 ∧ tl.length ≤ 1000 ∧
    (∀ y ∈ rest.map (fun p => Str.ofString (toString p.2)), y.length ≤ 1000) ∧ (∀ y ∈ rest.map (·.1) ++ tl, y.length ≤ 1000) ∧ Txt.join (Str.ofString ".") ((normList rest tl).take 3) = out
section
variable {prog : Program} {w : World} {E : Value → Shared → Prop} {s : Shared} {base g : Heap} {outer : List Env} {L a₀ : Addr} {m : Str → Option Value} {name : Str} {scope : Scope} {cd : Value}
  {mean : ExcName → Option Value} {mg mb : Str → Option Value} {news : List (Addr × Obj)} {Q : Value → Shared → Prop} {dp un : Nat} {gd : Option (List Code)}
/-- behind a call whose frames below have turned by their slots alone: the caller's frame and ledger on a ground turned likewise -/
theorem back_K {A₀ : Around} {KF : Frag} {p : Program} {loose : List Str} {G g' h' : Heap} (K : Below A₀ base outer g) (F : Fr g L G m) (N : News g L G news) (XB : KF.In base) (TB : Top p loose mean mg mb base) (hk : scope.kind = .function)
    (tu : KtsTurn ((envOf name scope L a₀ cd :: outer).filterMap (·.frame)) G g') (hup : ∀ b o, g'.get? b = some o → h'.get? b = some o) :
    ∃ g₉, KtsTurn (outer.filterMap (·.frame)) g g₉ ∧ Fr g₉ L h' m ∧ News g₉ L h' news ∧ Below A₀ base outer g₉ ∧ KF.In g₉ ∧ Top p loose mean mg mb g₉ := by
  have K' := K.push (name := name) (a := a₀) (cd := cd) F hk
  obtain ⟨g₉, T₉, F₉, K₉⟩ := kts_ground (name := name) (scope := scope) (a := a₀) (cd := cd) (B := hideAll G ((envOf name scope L a₀ cd :: outer).filterMap (·.frame))) (h₅ := h') K F (fun b o e nm => hideAll_get _ e nm)
    (fun b o e => hup b o (tu.other b o (of_hideAll _ e) (fun hm => by rw [hideAll_none _ hm] at e; cases e)))
    (fun b o e _ => by obtain ⟨sl, hs⟩ := tu.up e; exact ⟨sl, hup _ _ hs⟩)
  refine ⟨g₉, T₉, F₉, fun q hq => ⟨hup _ _ (tu.other _ _ (N q hq).1 fun hm => ?_), (N q hq).2.1, T₉.none_ _ (N q hq).2.2⟩, K₉, XB.keeps K₉.stays, TB.keeps K₉.stays⟩
  rcases kts_mem hm with z | z
  · exact (N q hq).2.1 z
  · obtain ⟨_, o, ho, _⟩ := K.frames.mem z
    rw [(N q hq).2.2] at ho; cases ho
theorem norm2_K {a b out : Str} {t1 t2 : Tok} (K : Below { handled := none, depth := dp, frames := some outer, guards := gd, units := un } base outer g) (F : Fr g L s.heap m) (N : News g L s.heap news)
    (XB : (hd.heap_39 w.params).In base) (TB : Top vw lo mean mg mb base) (hk : scope.kind = .function) (hdp : dp + 5 < recursionLimit) (hun : un + 43 < cLine) (ho : NormOk a b out)
    (h : ∀ g₉ h' tk t, KtsTurn (outer.filterMap (·.frame)) g g₉ → Fr g₉ L h' m → News g₉ L h' news → Below { handled := none, depth := dp, frames := some outer, guards := gd, units := un } base outer g₉ → (hd.heap_39 w.params).In g₉ → Top vw lo mean mg mb g₉ → Q (.str out t) { s with heap := h', toks := tk }) :
    wpAny (model Challenge.rw_ny0082_01.row.prog w) (Around.deeper { handled := none, depth := dp, frames := some outer, guards := gd, units := un } (envOf name scope L a₀ cd)) (call (.ref 22) [.str a t1, .str b t2]) Q E s := by
  obtain ⟨rest, tl, h1, h2, h3, h4, h5, h6, h7, rfl⟩ := ho.ex
  refine wpAny_call (norm_code w mean mg mb a b t1 t2 rest tl ho.la ho.lb h1 h2 h3 h4 h5 h6 h7 (dp + 1) (un + 3) gd (envOf name scope L a₀ cd :: outer) base s _ (K.push F hk) XB TB (by omega) (by omega) fun g' h' tk t tu hup => ?_)
  obtain ⟨g₉, T₉, F₉, N₉, K₉, X₉, P₉⟩ := back_K (name := name) (a₀ := a₀) (cd := cd) K F N XB TB hk tu hup
  exact h g₉ h' tk t T₉ F₉ N₉ K₉ X₉ P₉
theorem norm1_K {a out : Str} {t1 : Tok} (K : Below { handled := none, depth := dp, frames := some outer, guards := gd, units := un } base outer g) (F : Fr g L s.heap m) (N : News g L s.heap news)
    (XB : (hd.heap_39 w.params).In base) (TB : Top vw lo mean mg mb base) (hk : scope.kind = .function) (hdp : dp + 5 < recursionLimit) (hun : un + 43 < cLine) (ho : NormOk a (Str.ofString "") out)
    (h : ∀ g₉ h' tk t, KtsTurn (outer.filterMap (·.frame)) g g₉ → Fr g₉ L h' m → News g₉ L h' news → Below { handled := none, depth := dp, frames := some outer, guards := gd, units := un } base outer g₉ → (hd.heap_39 w.params).In g₉ → Top vw lo mean mg mb g₉ → Q (.str out t) { s with heap := h', toks := tk }) :
    wpAny (model Challenge.rw_ny0082_01.row.prog w) (Around.deeper { handled := none, depth := dp, frames := some outer, guards := gd, units := un } (envOf name scope L a₀ cd)) (call (.ref 22) [.str a t1]) Q E s := by
  obtain ⟨rest, tl, h1, h2, h3, h4, h5, h6, h7, rfl⟩ := ho.ex
  refine wpAny_call (norm1_code w mean mg mb a t1 rest tl ho.la h1 h2 h3 h4 h5 h6 h7 (dp + 1) (un + 3) gd (envOf name scope L a₀ cd :: outer) base s _ (K.push F hk) XB TB (by omega) (by omega) fun g' h' tk t tu hup => ?_)
  obtain ⟨g₉, T₉, F₉, N₉, K₉, X₉, P₉⟩ := back_K (name := name) (a₀ := a₀) (cd := cd) K F N XB TB hk tu hup
  exact h g₉ h' tk t T₉ F₉ N₉ K₉ X₉ P₉
end
end Mine
end

section
set_option maxRecDepth 100000
namespace Mine
open PySem PySem.W PySem.Calls PyProof.Rows PySem.Spec
noncomputable abbrev rngIt (x left : Int) : Obj := { cls := .type "range_iterator", dict := none, data := .fields #[rawInt x, rawInt left, rawInt 1], slots := #[] }
/-- a turn's end: the walk goes on from a ground that has turned by the slots of the frames below -/
noncomputable def TurnT (base g₀ : Heap) (A₀ : Around) (outer : List Env) (L : Addr) (J : (Str → Option Value) → Prop) (keep : List (Addr × Obj)) (s : Shared) (Qr : Value → Shared → Prop) (f : Flow) (s₃ : Shared) : Prop :=
  match f with
  | .ret v => Qr v s₃
  | .brk => False
  | _ => ∃ h' tk' g' m', s₃ = { s with heap := h', toks := tk' } ∧ KtsTurn (outer.filterMap (·.frame)) g₀ g' ∧ Fr g' L h' m' ∧ News g' L h' keep ∧ Below A₀ base outer g' ∧ J m'
section
variable {prog : Program} {w : World} {A₀ : Around} {E : Value → Shared → Prop} {s : Shared} {base g₀ : Heap} {outer : List Env} {L a₀ : Addr} {m₀ : Str → Option Value} {name : Str} {scope : Scope} {cd : Value}
  {KF : Frag} {p : Program} {loose : List Str} {mean : ExcName → Option Value} {mg mb : Str → Option Value} {news : List (Addr × Obj)} {R : Result → Shared → Prop} {x : Str} {px : Pos} {body : List Stmt}
theorem loop_range_T {r : Addr} {a b : Int} {t u v : Tok} {n : Nat} (J : Int → (Str → Option Value) → Prop) (hh : A₀.handled = none) (hr : IsRange s.heap r a b 1 t u v) (hsmall : Builtin.Range.small a b 1 = true) (hn : Builtin.Range.rangeSize a b 1 = (n : Int))
    (K : Below A₀ base outer g₀) (F : Fr g₀ L s.heap m₀) (N : News g₀ L s.heap news) (XB : KF.In base) (TB : Top p loose mean mg mb base) (hJ : J a m₀)
    (turn : ∀ k t g h tk I o m, a ≤ k → k < a + n → KtsTurn (outer.filterMap (·.frame)) g₀ g → J k m → Fr g L h (fun y => if y = x then some (.int k t) else m y) → News g L h ((I, o) :: news) → Below A₀ base outer g → KF.In g → Top p loose mean mg mb g →
      wpAny (model prog w) (A₀.deeper (envOf name scope L a₀ cd)) (execs body (envOf name scope L a₀ cd)) (TurnT base g₀ A₀ outer L (J (k + 1)) ((I, o) :: news) { s with heap := h, toks := tk } (fun v s₃ => R (.ok (.ret v)) s₃)) (fun _ _ => False) { s with heap := h, toks := tk })
    (done : ∀ g h tk m, KtsTurn (outer.filterMap (·.frame)) g₀ g → J (a + n) m → Fr g L h m → News g L h news → Below A₀ base outer g → KF.In g → Top p loose mean mg mb g → R (.ok .next) { s with heap := h, toks := tk })
    (hk : scope.kind = .function := by rfl) (hx : (envOf name scope L a₀ cd).kindOf x = some .local := by rfl) :
    wpAny (model prog w) (A₀.deeper (envOf name scope L a₀ cd)) (pyIter (.ref r)) (fun it s₂ => codeAny (model prog w) (A₀.deeper (envOf name scope L a₀ cd)) (.forLoop (.Name x px) it body [] (envOf name scope L a₀ cd)) R s₂) E s := by
  refine wpAny_pyIter_range hr hsmall ?_
  rw [hn]
  have hI0 : (s.heap.push (rngIt a n)).get? s.heap.objs.size = some (rngIt a n) := Heap.get?_push_size _ rfl
  have hIL : s.heap.objs.size ≠ L := Nat.ne_of_gt F.ns.lt
  have hIg : g₀.get? s.heap.objs.size = none := news_fresh F (Nat.le_refl _)
  have hIn : ∀ q ∈ news, q.1 ≠ s.heap.objs.size := fun q hq => Nat.ne_of_lt (Heap.lt_size (N q hq).1)
  have hp : ((envOf name scope L a₀ cd).scope.kind == .class || ((envOf name scope L a₀ cd).scope.kind == .module && (envOf name scope L a₀ cd).locals != (envOf name scope L a₀ cd).globals)) = false := by
    show (scope.kind == .class || (scope.kind == .module && L != mainGlobals)) = false; rw [hk]; rfl
  have hh' : (A₀.deeper (envOf name scope L a₀ cd)).handled = none := hh
  refine codeAny_forLoop (fun k s' => ∃ i h tk g m, i ≤ n ∧ k = n + 1 - i ∧ s' = { s with heap := h, toks := tk } ∧ KtsTurn (outer.filterMap (·.frame)) g₀ g ∧ J (a + i) m ∧ Fr g L h m ∧ News g L h ((s.heap.objs.size, rngIt (a + i) ((n : Int) - i)) :: news) ∧ Below A₀ base outer g) ?_ (n + 1)
    ⟨0, _, s.toks, g₀, m₀, Nat.zero_le _, rfl, rfl, KtsTurn.refl, by simpa using hJ, F.push _, ?_, K⟩
  · rintro k s' ⟨i, h, tk, g, m, hi, rfl, rfl, tu, hJi, F', N', K'⟩
    have hIt : h.get? s.heap.objs.size = some (rngIt (a + i) ((n : Int) - i)) := (N' _ (.head _)).1
    by_cases hlt : i < n
    · refine wpAny_pyNext_range_item (s := { s with heap := h, toks := tk }) hIt (by omega) fun h₁ hit₁ hs₁ => ?_
      have F₁ : Fr g L h₁ m := ⟨F'.ns.at' fun o e => hs₁.extBut _ _ (Ne.symm hIL) e, fun b o e => hs₁.extBut _ _ (fun q => by rw [q, tu.none_ _ hIg] at e; cases e) (F'.keep b o e), F'.above⟩
      refine wpAny_assign_Name (wpAny_storeName_local hx F₁.ns (fun h₂ hn₂ hs₂ => ?_) hp)
      have F₂ := F₁.set hn₂ hs₂
      have N₂ : News g L h₂ ((s.heap.objs.size, rngIt (a + (i + 1 : Nat)) ((n : Int) - (i + 1 : Nat))) :: news) := fun q hq => by
        rcases List.mem_cons.mp hq with rfl | hq
        · have e1 : a + (i : Int) + 1 = a + ((i + 1 : Nat) : Int) := by omega
          have e2 : (n : Int) - (i : Int) - 1 = (n : Int) - ((i + 1 : Nat) : Int) := by omega
          rw [e1, e2] at hit₁
          exact ⟨hs₂.extBut _ _ hIL hit₁, hIL, tu.none_ _ hIg⟩
        · exact ⟨hs₂.extBut _ _ (N' q (.tail _ hq)).2.1 (hs₁.extBut _ _ (hIn q hq) (N' q (.tail _ hq)).1), (N' q (.tail _ hq)).2⟩
      refine wpAny_mono (turn (a + i) _ g h₂ _ _ _ m (by omega) (by omega) tu hJi F₂ N₂ K' (XB.keeps K'.stays) (TB.keeps K'.stays)) (fun f s₃ h₃ => ?_) fun _ _ e => e.elim
      cases f with
      | ret v => exact h₃
      | brk => exact h₃.elim
      | next =>
        obtain ⟨h', tk', g', m', rfl, tu', F₃, N₃, K₃, J₃⟩ := h₃
        exact ⟨n + 1 - (i + 1), turn_less hlt, i + 1, h', tk', g', m', hlt, rfl, rfl, tu', by simpa [Int.add_assoc] using J₃, F₃, N₃, K₃⟩
      | cont =>
        obtain ⟨h', tk', g', m', rfl, tu', F₃, N₃, K₃, J₃⟩ := h₃
        exact ⟨n + 1 - (i + 1), turn_less hlt, i + 1, h', tk', g', m', hlt, rfl, rfl, tu', by simpa [Int.add_assoc] using J₃, F₃, N₃, K₃⟩
    · have hin : i = n := by omega
      subst hin
      refine wpAny_pyNext_range_end (s := { s with heap := h, toks := tk }) hh' hIt (by omega) fun h₁ hs₁ => wpAny_execs_nil ?_
      refine done g h₁ _ m tu hJi ⟨F'.ns.at' fun o e => hs₁ _ _ (Ne.symm hIL) e, fun b o e => hs₁ _ _ (fun q => by rw [q, tu.none_ _ hIg] at e; cases e) (F'.keep b o e), F'.above⟩ (fun q hq => ⟨hs₁ _ _ (hIn q hq) (N' q (.tail _ hq)).1, (N' q (.tail _ hq)).2⟩) K' (XB.keeps K'.stays) (TB.keeps K'.stays)
  · intro q hq
    rcases List.mem_cons.mp hq with rfl | hq
    · exact ⟨by simpa using hI0, hIL, hIg⟩
    · exact ⟨Heap.get?_push_of_some _ (N q hq).1, (N q hq).2⟩
theorem loop_range_T0 {r : Addr} {a b : Int} {t u v : Tok} {n : Nat} (hh : A₀.handled = none) (hr : IsRange s.heap r a b 1 t u v) (hsmall : Builtin.Range.small a b 1 = true) (hn : Builtin.Range.rangeSize a b 1 = (n : Int))
    (K : Below A₀ base outer g₀) (F : Fr g₀ L s.heap m₀) (N : News g₀ L s.heap news) (XB : KF.In base) (TB : Top p loose mean mg mb base)
    (turn : ∀ k t g h tk I o, a ≤ k → k < a + n → KtsTurn (outer.filterMap (·.frame)) g₀ g → Fr g L h (fun y => if y = x then some (.int k t) else m₀ y) → News g L h ((I, o) :: news) → Below A₀ base outer g → KF.In g → Top p loose mean mg mb g →
      wpAny (model prog w) (A₀.deeper (envOf name scope L a₀ cd)) (execs body (envOf name scope L a₀ cd)) (TurnT base g₀ A₀ outer L (fun m' => ∀ y, y ≠ x → m' y = m₀ y) ((I, o) :: news) { s with heap := h, toks := tk } (fun v s₃ => R (.ok (.ret v)) s₃)) (fun _ _ => False) { s with heap := h, toks := tk })
    (done : ∀ g h tk m, KtsTurn (outer.filterMap (·.frame)) g₀ g → (∀ y, y ≠ x → m y = m₀ y) → Fr g L h m → News g L h news → Below A₀ base outer g → KF.In g → Top p loose mean mg mb g → R (.ok .next) { s with heap := h, toks := tk })
    (hk : scope.kind = .function := by rfl) (hx : (envOf name scope L a₀ cd).kindOf x = some .local := by rfl) :
    wpAny (model prog w) (A₀.deeper (envOf name scope L a₀ cd)) (pyIter (.ref r)) (fun it s₂ => codeAny (model prog w) (A₀.deeper (envOf name scope L a₀ cd)) (.forLoop (.Name x px) it body [] (envOf name scope L a₀ cd)) R s₂) E s :=
  loop_range_T (fun _ m => ∀ y, y ≠ x → m y = m₀ y) hh hr hsmall hn K F N XB TB (fun _ _ => rfl)
    (fun k t g h tk I o m h1 h2 tu hJ F' N' K' X' T' => by
      have e : (fun y => if y = x then some (Value.int k t) else m y) = (fun y => if y = x then some (Value.int k t) else m₀ y) := by
        funext y
        by_cases hy : y = x
        · rw [if_pos hy, if_pos hy]
        · rw [if_neg hy, if_neg hy, hJ y hy]
      rw [e] at F'
      exact turn k t g h tk I o h1 h2 tu F' N' K' X' T') (fun g h tk m tu hJ F' N' K' X' T' => done g h tk m tu hJ F' N' K' X' T') hk hx
end
end Mine
end

section
set_option maxRecDepth 100000
namespace Mine
open PySem PySem.W PySem.Calls PyProof.Rows PySem.Spec
theorem KtsTurn_isList {fs : List Addr} {g g' : Heap} (x : KtsTurn fs g g') {a : Addr} {vs : Array Value} (h : g.IsList a vs) : g'.IsList a vs := by
  obtain ⟨o, ho, hc, n, hd⟩ := h
  obtain ⟨sl, hs⟩ := x.up ho
  exact ⟨_, hs, hc, n, hd⟩
theorem one4 {a : Int} (h1 : 1 ≤ a) (h4 : a ≤ 4) : a = 1 ∨ a = 2 ∨ a = 3 ∨ a = 4 := by
  obtain ⟨k, rfl, hk⟩ := intAt (n := 5) (Int.le_trans (by decide) h1) (Int.lt_of_le_of_lt h4 (by decide))
  match k, hk with
  | 0, _ => exact absurd h1 (by decide)
  | 1, _ => exact .inl rfl
  | 2, _ => exact .inr (.inl rfl)
  | 3, _ => exact .inr (.inr (.inl rfl))
  | 4, _ => exact .inr (.inr (.inr rfl))
theorem small_of {a : Int} (h1 : 1 ≤ a) (h4 : a ≤ 4) : Builtin.Range.small a 5 1 = true := by
  rcases one4 h1 h4 with rfl | rfl | rfl | rfl <;> decide
theorem size_of {a : Int} (h1 : 1 ≤ a) (h4 : a ≤ 4) : Builtin.Range.rangeSize a 5 1 = (((5 - a).toNat : Nat) : Int) := by
  rcases one4 h1 h4 with rfl | rfl | rfl | rfl <;> decide
structure TwoL (g : Heap) (lp lq : Addr) (vp vq : List Value) : Prop where
  p : g.IsList lp vp.toArray
  q : g.IsList lq vq.toArray
theorem TwoL.turn {fs : List Addr} {g g' : Heap} {lp lq : Addr} {vp vq : List Value} (h : TwoL g lp lq vp vq) (x : KtsTurn fs g g') : TwoL g' lp lq vp vq := ⟨KtsTurn_isList x h.p, KtsTurn_isList x h.q⟩
section
variable {prog : Program} {w : World} {E : Value → Shared → Prop} {s : Shared} {base g g₀ : Heap} {outer : List Env} {L a₀ lp lq : Addr} {vp vq : List Value} {m : Str → Option Value} {name : Str} {scope : Scope} {cd : Value}
  {mean : ExcName → Option Value} {mg mb : Str → Option Value} {news : List (Addr × Obj)} {Q : Value → Shared → Prop} {dp un : Nat} {gd : Option (List Code)}
theorem norm2_S {a b out : Str} {t1 t2 : Tok} (K : Below { handled := none, depth := dp, frames := some outer, guards := gd, units := un } base outer g) (F : Fr g L s.heap m) (N : News g L s.heap news)
    (XB : (hd.heap_39 w.params).In base) (TB : Top vw lo mean mg mb base) (hk : scope.kind = .function) (hdp : dp + 10 < recursionLimit) (hun : un + 60 < cLine) (TL : TwoL g lp lq vp vq) (tu : KtsTurn (outer.filterMap (·.frame)) g₀ g) (ho : NormOk a b out)
    (h : ∀ g₉ h' tk t, KtsTurn (outer.filterMap (·.frame)) g₀ g₉ → TwoL g₉ lp lq vp vq → g₉.IsList lp vp.toArray → g₉.IsList lq vq.toArray → Fr g₉ L h' m → News g₉ L h' news → Below { handled := none, depth := dp, frames := some outer, guards := gd, units := un } base outer g₉ → (hd.heap_39 w.params).In g₉ → Top vw lo mean mg mb g₉ → Q (.str out t) { s with heap := h', toks := tk }) :
    wpAny (model Challenge.rw_ny0082_01.row.prog w) (Around.deeper { handled := none, depth := dp, frames := some outer, guards := gd, units := un } (envOf name scope L a₀ cd)) (call (.ref 22) [.str a t1, .str b t2]) Q E s :=
  norm2_K K F N XB TB hk (by omega) (by omega) ho fun g₉ h' tk t tu' F' N' K' X' T' => h g₉ h' tk t (tu.trans tu') (TL.turn tu') (TL.turn tu').p (TL.turn tu').q F' N' K' X' T'
theorem norm1_S {a out : Str} {t1 : Tok} (K : Below { handled := none, depth := dp, frames := some outer, guards := gd, units := un } base outer g) (F : Fr g L s.heap m) (N : News g L s.heap news)
    (XB : (hd.heap_39 w.params).In base) (TB : Top vw lo mean mg mb base) (hk : scope.kind = .function) (hdp : dp + 10 < recursionLimit) (hun : un + 60 < cLine) (TL : TwoL g lp lq vp vq) (tu : KtsTurn (outer.filterMap (·.frame)) g₀ g) (ho : NormOk a (Str.ofString "") out)
    (h : ∀ g₉ h' tk t, KtsTurn (outer.filterMap (·.frame)) g₀ g₉ → TwoL g₉ lp lq vp vq → g₉.IsList lp vp.toArray → g₉.IsList lq vq.toArray → Fr g₉ L h' m → News g₉ L h' news → Below { handled := none, depth := dp, frames := some outer, guards := gd, units := un } base outer g₉ → (hd.heap_39 w.params).In g₉ → Top vw lo mean mg mb g₉ → Q (.str out t) { s with heap := h', toks := tk }) :
    wpAny (model Challenge.rw_ny0082_01.row.prog w) (Around.deeper { handled := none, depth := dp, frames := some outer, guards := gd, units := un } (envOf name scope L a₀ cd)) (call (.ref 22) [.str a t1]) Q E s :=
  norm1_K K F N XB TB hk (by omega) (by omega) ho fun g₉ h' tk t tu' F' N' K' X' T' => h g₉ h' tk t (tu.trans tu') (TL.turn tu') (TL.turn tu').p (TL.turn tu').q F' N' K' X' T'
theorem joinN_K {A : Around} {h₀ : Heap} {x : Str} {t : Tok} {D : Addr} {vs : List Value} {n : Nat} {k : Int} {ys : List Str}
    (N : News h₀ L s.heap news) (hD : (D, ({ cls := .type "list", data := .seq (slicePick vs.toArray none (some k) none) n } : Obj)) ∈ news) (hacc : StrsAre vs ys) (hk : 0 ≤ k) (hy : ys.length ≤ 4) (hlen : ∀ y ∈ ys, y.length ≤ 1000) (hsep : x.length ≤ 16)
    (h : ∀ t' k', Q (.str (Txt.join x (ys.take k.toNat)) t') { s with toks := k' }) : wpAny (model prog w) A (call (.builtin "str.join") [.str x t, .ref D]) Q E s := by
  have e : slicePick vs.toArray none (some k) none = (vs.take k.toNat).toArray := by
    have := slicePick_upto' vs.toArray k.toNat
    rw [Int.toNat_of_nonneg hk] at this
    exact this
  refine join_listW (s := s) (items := slicePick vs.toArray none (some k) none) ⟨_, (N _ hD).1, rfl, n, rfl⟩ (ys := ys.take k.toNat) (by rw [e]; exact strs_take hacc _) hsep ?_ h
  have h1 := sum_le (ys := ys.take k.toNat) (B := 1000) fun y hy => hlen y (List.mem_of_mem_take hy)
  have h2 : (ys.take k.toNat).length ≤ 4 := by simp; omega
  have h3 : (ys.take k.toNat).length * 1000 ≤ 4 * 1000 := Nat.mul_le_mul_right _ h2
  omega
end
local macro_rules | `(tactic| walk_at "execs cons") => return foldT
local macro_rules | `(tactic| walk_at "call builtin:str.join") => lineM 'u' (biE "str.join" "sr") `Mine.joinN_K "kmaobad!" 2 true []
local macro_rules | `(tactic| walk_at "call ref") => lineM ' ' (reE 22 "s") `Mine.norm1_S "akkaaraaaaa!" 13 true []
local macro_rules | `(tactic| walk_at "call ref") => lineM ' ' (reE 22 "ss") `Mine.norm2_S "akkaaraaaaO!" 13 true []
local macro_rules | `(tactic| walk_at "exec For Name Call cons nil") => return haltT
set_option maxHeartbeats 8000000 in
theorem straight_code : ∀ (w : World) (mean : ExcName → Option Value) (mg mb : Str → Option Value) (lp lq : Addr) (vp vq : List Value) (ps qs : List Str) (least : Int) (t1 : Tok)
    (_ : StrsAre vp ps) (_ : StrsAre vq qs) (_ : ps.length = 4) (_ : qs.length ≤ 4) (_ : ∀ y ∈ ps, y.length ≤ 1000) (_ : ∀ y ∈ qs, y.length ≤ 1000) (_ : 1 ≤ least) (_ : least ≤ 4)
    (_ : ∀ c : Int, least ≤ c → c ≤ 4 → NormOk (Txt.join (Str.ofString ".") (ps.take c.toNat)) (Str.ofString "") (Txt.join (Str.ofString ".") (qs.take c.toNat)))
    (_ : ∀ c : Int, least ≤ c → c ≤ 4 → 1 < c → (ps.getD (c - 1).toNat Str.empty != Str.ofString "") = true → NormOk (Txt.join (Str.ofString ".") (ps.take (c - 1).toNat)) (ps.getD (c - 1).toNat Str.empty) (Txt.join (Str.ofString ".") (qs.take c.toNat)))
    (dp un : Nat) (gd : Option (List Code)) (outer : List Env) (base : Heap) (s : Shared) (R : Result → Shared → Prop)
    (_ : Below { handled := none, depth := dp, frames := some outer, guards := gd, units := un } base outer s.heap) (_ : (hd.heap_39 w.params).In base) (_ : Top vw lo mean mg mb base)
    (_ : s.heap.IsList lp vp.toArray) (_ : s.heap.IsList lq vq.toArray)
    (_ : dp + 10 < recursionLimit) (_ : un + 60 < cLine)
   (_ : ∀ g' h' tk', KtsTurn (outer.filterMap (·.frame)) s.heap g' → (∀ b o, g'.get? b = some o → h'.get? b = some o) → R (.ok (.ret (.bool true))) { s with heap := h', toks := tk' }),
      codeAny (model Challenge.rw_ny0082_01.row.prog w) { handled := none, depth := dp, frames := some outer, guards := gd, units := un } (.call (.ref 57) ⟨[.ref lp, .ref lq, .int least t1], []⟩) R s := by
  w_top off
  k_fill
  intro w mean mg mb lp lq vp vq ps qs least t1 hvp hvq hps hqs hlp1 hlq1 hl1 hl4 hN1 hN2 dp un gd outer base s R B XB TB hlp hlq hdp hun hR
  have KI : (hd.heap_39 w.params).In s.heap := XB.keeps B.stays
  have T : Top vw lo mean mg mb s.heap := TB.keeps B.stays
  (refine' enterP (binds := [(Str.ofString "pieces", .ref lp), (Str.ofString "plain", .ref lq), (Str.ofString "least", .int least t1)]) ?kB ?kX ?kT ?k6 ?k7 ?k8 ?k9 ?kL ?_ ?c2 ?c3 ?c4 ?c5; (case kB => assumption); (case kX => exact KI); (case kT => exact T); (case k6 => k_is); (case k7 => k_is); (case k8 => ktr_room); (case k9 => first | exact BindsTo.of_eq rfl | exact binds_K KI rfl (by k_is) rfl rfl rfl); (case c5 => decide); (case kL => exact locs rfl); (case c2 => exact rfl); (case c3 => exact rfl); (case c4 => exact rfl); k_whole; intro g' L' h' hG F' N' B' X' T'; clear KI T; (try dsimp only); (try k_lift B'); (try k_fold))
  k_steps
  unfold Halt
  refine wpAny_For ?_ (by intro _; rfl)
  k_steps
  have glp : g'.IsList lp vp.toArray := (let ⟨o, ho, r⟩ := hlp; ⟨o, (hG.at_ _).trans ho, r⟩)
  have glq : g'.IsList lq vq.toArray := (let ⟨o, ho, r⟩ := hlq; ⟨o, (hG.at_ _).trans ho, r⟩)
  refine loop_range_T0 (n := (5 - least).toNat) rfl (by assumption) (small_of hl1 hl4) (size_of hl1 hl4) B' (by assumption) (by assumption) XB TB ?_ ?_
  · intro k t g h tk I o hk1 hk2 tu F2 N2 B2 X2 T2
    have TL : TwoL g lp lq vp vq := TwoL.turn ⟨glp, glq⟩ tu
    have IP := TL.p
    have IQ := TL.q
    have hk3 : k ≤ 4 := by omega
    have n1 := hN1 k hk1 hk3
    have n2 := hN2 k hk1 hk3
    have hps4 : ps.length ≤ 4 := by omega
    clear hk2 glp glq
    k_steps
    all_goals first
      | (exfalso; rename (_ != _) = true => hne; simp only [bne_self_eq_false, Bool.false_eq_true] at hne; done)
      | (rename Fr _ _ _ _ => FF; rename News _ _ _ _ => NN; refine ⟨_, _, _, _, rfl, ?tu, FF, (fun q hq => NN q (by rcases List.mem_singleton.mp hq with rfl; k_mem)), ?bb, fun y hy => if_neg hy⟩; (case tu => assumption); (case bb => assumption))
      | trace_state
  · intro g h tk m tu hJ F2 N2 B2 X2 T2
    show wpAny _ _ (execs _ _) _ _ _
    k_steps
    all_goals (rename Fr _ _ _ _ => FF)
    all_goals first
      | exact hR _ _ _ (KtsTurn.mk (tu.size.trans hG.size) (fun b e => tu.none_ b ((hG.at_ b).trans e)) (fun b o e => tu.other b o ((hG.at_ b).trans e)) (fun b o e => tu.frame b o ((hG.at_ b).trans e))) FF.keep
      | trace_state
end Mine
end

section
set_option maxRecDepth 100000
namespace Mine
open PySem PySem.W PySem.Calls PyProof.Rows
noncomputable abbrev fltObj (I : Addr) : Obj := { cls := .type "filter", data := .fields #[.builtin "len", .ref I] }
noncomputable abbrev tupIt (T : Addr) : Obj := { cls := .type "tuple_iterator", data := .fields #[.ref T, .int 0 0] }
noncomputable def full (y : Str) : Bool := ((y.length : Int) != 0)
section
variable {prog : Program} {w : World} {A : Around} {E : Value → Shared → Prop} {s : Shared}
theorem special_tuple_item {it t : Addr} {i : Nat} {items} {x : Value} {Q : Option Value → Shared → Prop} (hit : s.heap.IsTupleIter it t i) (ht : s.heap.IsTuple t items) (hx : items[i]? = some x)
    (hQ : ∀ h', h'.IsTupleIter it t (i + 1) → Heap.SameBut it s.heap h' → Q (some x) { s with heap := h' }) :
    wpAny (model prog w) A (callSpecial? (.ref it) "__next__") Q E s := by
  obtain ⟨o, ho, hc, hd⟩ := id hit
  obtain ⟨ol, hol, _, nl, hdl⟩ := ht
  refine wpAny_callSpecial?_slot (name := Str.ofString "__next__") hit.typeIs F.slot_tuple_iterator_next
    (wpAny_call_entry F.slot_tuple_iterator_next hit.typeIs F.entry_tuple_iterator_next ?_ (F.args_tuple_iterator_next_1 _))
  show wpAny _ _ (field (.ref it) 0 >>= _) _ _ s
  refine wpAny_bind (wpAny_field ho hd (x := .ref t) rfl ?_)
  show wpAny _ _ (if (Value.ref t == Value.none) = true then _ else _) _ _ s
  rw [if_neg (show ¬ ((Value.ref t == Value.none) = true) from Bool.false_ne_true)]
  show wpAny _ _ (field (.ref it) 1 >>= _) _ _ s
  refine wpAny_bind (wpAny_field ho hd (x := .int i 0) rfl ?_)
  show wpAny _ _ (seqItems? (.ref t) >>= _) _ _ s
  refine wpAny_bind (wpAny_seqItems hol hdl ?_)
  simp only [Int.toNat_natCast, hx]
  refine wpAny_bind (wpAny_setField ho hd (by simp) (wpAny_pure ⟨x, rfl, hQ _ ?_ (Heap.SameBut.update ..)⟩))
  exact ⟨_, Heap.get?_update_self _ ho (Obj.isFreed_of_fields (Obj.data_mapFields hd _)), (Obj.cls_mapFields ..).trans hc, by
    rw [Obj.data_mapFields hd]; simp [rawInt]⟩
theorem special_tuple_end {it t : Addr} {i : Nat} {items} {Q : Option Value → Shared → Prop} (hh : A.handled = none) (hit : s.heap.IsTupleIter it t i) (ht : s.heap.IsTuple t items) (hx : items[i]? = none)
    (hE : ∀ h' e, Heap.ExtBut it s.heap h' → (∃ o, h'.get? e = some o ∧ o.cls = .type "StopIteration") → E (.ref e) { s with heap := h' }) :
    wpAny (model prog w) A (callSpecial? (.ref it) "__next__") Q E s := by
  obtain ⟨o, ho, hc, hd⟩ := id hit
  obtain ⟨ol, hol, _, nl, hdl⟩ := ht
  refine wpAny_callSpecial?_slot (name := Str.ofString "__next__") hit.typeIs F.slot_tuple_iterator_next
    (wpAny_call_entry F.slot_tuple_iterator_next hit.typeIs F.entry_tuple_iterator_next ?_ (F.args_tuple_iterator_next_1 _))
  show wpAny _ _ (field (.ref it) 0 >>= _) _ _ s
  refine wpAny_bind (wpAny_field ho hd (x := .ref t) rfl ?_)
  show wpAny _ _ (if (Value.ref t == Value.none) = true then _ else _) _ _ s
  rw [if_neg (show ¬ ((Value.ref t == Value.none) = true) from Bool.false_ne_true)]
  show wpAny _ _ (field (.ref it) 1 >>= _) _ _ s
  refine wpAny_bind (wpAny_field ho hd (x := .int i 0) rfl ?_)
  show wpAny _ _ (seqItems? (.ref t) >>= _) _ _ s
  refine wpAny_bind (wpAny_seqItems hol hdl ?_)
  simp only [Int.toNat_natCast, hx]
  refine wpAny_bind (wpAny_rule (wpAny_bind (wpAny_setField ho hd (by simp) ?_)))
  show wpAny _ _ (newExc (.type "StopIteration") [] >>= _) _ _ _
  refine wpAny_bind ?_
  simp only [newExc, newTuple]
  refine wpAny_bind (wpAny_newObj_type ?_ (by size_fits))
  refine wpAny_bind (m := firstArgMember _ _) (wpAny_of_eq (a := Value.none) (by first | rfl | (simp only [firstArgMember]; rfl)) ?_)
  refine wpAny_newObj_type ?_ (by size_fits)
  simp only [raiseNew]
  refine wpAny_bind (wpAny_handled ?_)
  have hh' : A.in1.handled = none := hh
  rw [hh']
  first
    | refine wpAny_throw ?_
    | refine wpAny_bind (wpAny_pure (wpAny_throw ?_))
  refine hE _ _ (fun b o' hb e' => Heap.get?_push_of_some _ (Heap.get?_push_of_some _ ((Heap.get?_update_other _ _ (Ne.symm hb)).trans e'))) ⟨_, Heap.get?_push_size _ rfl, rfl⟩
end
section
variable {prog : Program} {w : World} {A : Around} {R : Result → Shared → Prop} {vs : Array Value} {ts : List Str} {Fl IT T : Addr}
theorem filt_tree (z : Addr) : Builtin.«filter.__next__» ⟨[.ref z], []⟩ = (do
    let func ← field (.ref z) 0
    let some item ← callSpecial? (← field (.ref z) 1) "__next__" | unsupported "iter:the-iterator's-class-has-lost-its-__next__-amid-the-walk"
    let keep ← holding [item] do
      if func == .none || func == .type "bool" then rule "filter.__next__.own-truth"; truthy item
      else
        let good ← call func [item]
        holding [good] (truthy good)
    if keep then ret item else again (.builtin "filter.__next__" ⟨[.ref z], []⟩)) := by rfl
theorem filt_loop (hh : A.handled = none) (hvs : StrsAre vs.toList ts) (hlen : ∀ y ∈ ts, y.length ≤ 100000) (hFI : Fl ≠ IT) (hTI : T ≠ IT) : ∀ (rest : List Str) (j : Nat) (s : Shared), ts.drop j = rest → s.heap.get? Fl = some (fltObj IT) → s.heap.IsTuple T vs → s.heap.IsTupleIter IT T j →
    (∀ y r t h' tk j', rest.filter full = y :: r → h'.IsTupleIter IT T j' → (ts.drop j').filter full = r → (∀ b o, b ≠ IT → s.heap.get? b = some o → h'.get? b = some o) → R (.ok (.ret (.str y t))) { s with heap := h', toks := tk }) →
    (rest.filter full = [] → ∀ h' tk e, (∀ b o, b ≠ IT → s.heap.get? b = some o → h'.get? b = some o) → (∃ o, h'.get? e = some o ∧ o.cls = .type "StopIteration") → R (.error (.ref e)) { s with heap := h', toks := tk }) →
    codeAny (model prog w) A (.builtin "filter.__next__" ⟨[.ref Fl], []⟩) R s := by
  intro rest
  induction rest with
  | nil =>
    intro j s hr hF hT hI hitem hend
    refine codeAny_builtin MF.filter_next_entry ?_
    rw [Around.under_plainId MF.plain_filter_next _, filt_tree]
    refine wpAny_bind (wpAny_field hF rfl (x := .builtin "len") rfl ?_)
    refine wpAny_bind (wpAny_field hF rfl (x := .ref IT) rfl ?_)
    have hx : vs[j]? = none := by
      have h1 := hvs.len_eq
      have h2 : ts.length ≤ j := by
        have := congrArg List.length hr
        simp at this; omega
      exact Array.getElem?_eq_none (by rw [← Array.length_toList]; omega)
    refine wpAny_bind (special_tuple_end hh hI hT hx fun h' e hs' he => ?_)
    exact hend rfl h' s.toks e (fun b o hb e' => hs' b o hb e') he
  | cons y r ih =>
    intro j s hr hF hT hI hitem hend
    have hy : ts[j]? = some y := by
      have : (ts.drop j)[0]? = some y := by rw [hr]; rfl
      rw [List.getElem?_drop] at this
      simpa using this
    have hr' : ts.drop (j + 1) = r := by
      rw [← List.drop_drop, hr]; rfl
    obtain ⟨t, ht⟩ := hvs.at hy
    have hx : vs[j]? = some (.str y t) := by simpa using ht
    have hyl := hlen y (List.mem_of_getElem? hy)
    refine codeAny_builtin MF.filter_next_entry ?_
    rw [Around.under_plainId MF.plain_filter_next _, filt_tree]
    refine wpAny_bind (wpAny_field hF rfl (x := .builtin "len") rfl ?_)
    refine wpAny_bind (wpAny_field hF rfl (x := .ref IT) rfl ?_)
    refine wpAny_bind (special_tuple_item hI hT hx fun h' hI' hs' => ?_)
    refine wpAny_bind (wpAny_holding ?_)
    rw [if_neg (by decide)]
    refine wpAny_bind (len_str (by omega) ?_)
    refine wpAny_holding (P.truthy_int ?_)
    have hF' := hs'.extBut _ _ hFI hF
    have hT' := hT.extBut hs'.extBut hTI
    by_cases hf : full y = true
    · show wpAny _ _ (if full y = true then _ else _) _ _ _
      rw [if_pos hf]
      refine wpAny_pure (hitem y (r.filter full) t h' _ (j + 1) (by rw [List.filter_cons, if_pos hf]) hI' (by rw [hr']) fun b o hb e => hs'.extBut _ _ hb e)
    · show wpAny _ _ (if full y = true then _ else _) _ _ _
      rw [if_neg hf]
      refine wpAny_pure ⟨plainId_quiet MF.plain_filter_next _, ih (j + 1) _ hr' hF' hT' hI' ?_ ?_⟩
      · intro y' r' t' h'' tk' j' he hI'' hd hk
        exact hitem y' r' t' h'' tk' j' (by rw [List.filter_cons, if_neg hf]; exact he) hI'' hd fun b o hb e => hk b o hb (hs'.extBut _ _ hb e)
      · intro he h'' tk' e hk hx'
        exact hend (by rw [List.filter_cons, if_neg hf]; exact he) h'' tk' e (fun b o hb e => hk b o hb (hs'.extBut _ _ hb e)) hx'
end
end Mine
end

section
set_option maxRecDepth 100000
namespace Mine
open PySem PySem.W PySem.Calls PyProof.Rows
theorem meets_filter_new (T : Addr) (xs : Array Value) :
    Meets (Builtin.«filter.__new__» ⟨[.type "filter", .builtin "len", .ref T], []⟩) (fun _ R s => s.heap.IsTuple T xs ∧
      R (.ok (.ret (.ref (s.heap.push (tupIt T)).objs.size))) { s with heap := (s.heap.push (tupIt T)).push (fltObj s.heap.objs.size) }) :=
  .of_wp fun prog w A R s h => by
    obtain ⟨hp, g, d, tk, os⟩ := s; obtain ⟨hl1, h⟩ := h
    have hsub := MF.sub_filter
    have hL1 : Heap.IsTuple (Shared.heap ⟨hp, g, d, tk, os⟩) T xs := hl1
    wp_walk using wpAny_pyIter_tuple hL1
    exact ⟨_, rfl, h⟩
section
variable {prog : Program} {w : World} {A : Around} {E : Value → Shared → Prop} {s : Shared}
theorem call_filter {T : Addr} {xs : Array Value} {Q : Value → Shared → Prop} (hl : s.heap.IsTuple T xs)
    (h : ∀ h', h'.get? s.heap.objs.size = some (tupIt T) → h'.get? (s.heap.objs.size + 1) = some (fltObj s.heap.objs.size) → h'.objs.size = s.heap.objs.size + 2 → (∀ c o, s.heap.get? c = some o → h'.get? c = some o) → Q (.ref (s.heap.objs.size + 1)) { s with heap := h' }) :
    wpAny (model prog w) A (call (.type "filter") [.builtin "len", .ref T]) Q E s := by
  refine callType_new MF.called_filter (by decide) (MF.typeCall_filter _ _) (MF.newCall_filter _ _) (fun obj => F.args_object_init_3 obj _ _) MF.entry_filter_new (meets_filter_new T xs) ⟨hl, ?_⟩
  have z1 : (s.heap.push (tupIt T)).objs.size = s.heap.objs.size + 1 := Heap.size_push ..
  have g1 : ((s.heap.push (tupIt T)).push (fltObj s.heap.objs.size)).get? s.heap.objs.size = some _ := Heap.get?_push_of_some _ (Heap.get?_push_size _ rfl)
  have g2 : ((s.heap.push (tupIt T)).push (fltObj s.heap.objs.size)).get? (s.heap.push (tupIt T)).objs.size = some _ := Heap.get?_push_size _ rfl
  rw [z1] at g2
  show _ ∧ _
  rw [z1]
  exact ⟨⟨_, g2, rfl⟩, h _ g1 g2 (by rw [Heap.size_push, z1]) fun c o x => Heap.get?_push_of_some _ (Heap.get?_push_of_some _ x)⟩
theorem pyIter_filter {z I : Addr} {Q : Value → Shared → Prop} (hz : s.heap.get? z = some (fltObj I)) (h : Q (.ref z) s) : wpAny (model prog w) A (pyIter (.ref z)) Q E s := by
  have hT : s.TypeIs (.ref z) "filter" := ⟨_, hz, rfl⟩
  refine wpAny_pyIter_slot hT MF.filter_iter (wpAny_call_entry MF.filter_iter hT MF.filter_iter_entry ?_ (MF.filter_iter_args _))
  show wpAny _ _ (ret (.ref z)) _ _ s
  exact wpAny_pure ⟨_, rfl, "filter", _, hT, MF.filter_next.lookup, h⟩
end
/-- the state of a filter by len over a tuple of texts -/
noncomputable def FiltSt (vs : Array Value) (ts : List Str) (Fl IT T : Addr) (i : Nat) (h : Heap) : Prop :=
  h.get? Fl = some (fltObj IT) ∧ h.IsTuple T vs ∧ ∃ j, h.IsTupleIter IT T j ∧ (ts.drop j).filter full = (ts.filter full).drop i
theorem Walks.filter {prog : Program} {w : World} {A : Around} (hh : A.handled = none) {vs : Array Value} {ts : List Str} {Fl IT T : Addr} (hvs : StrsAre vs.toList ts) (hlen : ∀ y ∈ ts, y.length ≤ 100000) (hFI : Fl ≠ IT) (hTI : T ≠ IT) :
    Walks prog w A Fl [Fl, IT, T] [IT] (ts.filter full).length (fun i v => ∃ y t, v = .str y t ∧ (ts.filter full)[i]? = some y) (FiltSt vs ts Fl IT T) where
  sub := fun b hb => by simp at hb; simp [hb]
  frame := fun i h h' st hk => by
    obtain ⟨h1, ⟨o, ho, r⟩, j, ⟨o2, ho2, r2⟩, hd⟩ := st
    exact ⟨hk Fl (by simp) _ h1, ⟨o, hk T (by simp) _ ho, r⟩, j, ⟨o2, hk IT (by simp) _ ho2, r2⟩, hd⟩
  item := fun i s Q E hi st hQ => by
    obtain ⟨hF, hT, j, hI, hd⟩ := st
    have hTy : s.TypeIs (.ref Fl) "filter" := ⟨_, hF, rfl⟩
    unfold pyNext
    refine wpAny_bind (wpAny_attempt (wpAny_callSpecial?_slot (name := Str.ofString "__next__") hTy MF.filter_next (wpAny_call (codeAny_call_builtin_code (plainId_quiet MF.plain_filter_next _) (MF.filter_next.check _ _ _ _ _ _ _ _ hTy (MF.filter_next_args _) (filt_loop (A := A) hh hvs hlen hFI hTI _ j s rfl hF hT hI ?_ ?_))))))
    · intro y r t h' tk j' he hI' hd' hk
      rw [hd] at he
      have hge : (ts.filter full)[i]? = some y := by
        have : ((ts.filter full).drop i)[0]? = some y := by rw [he]; rfl
        rw [List.getElem?_drop] at this
        simpa using this
      have hr : (ts.filter full).drop (i + 1) = r := by rw [← List.drop_drop, he]; rfl
      exact wpAny_pure (hQ _ h' tk ⟨y, t, rfl, hge⟩ ⟨hk _ _ hFI hF, (let ⟨o, ho, r⟩ := hT; ⟨o, hk _ _ hTI ho, r⟩), j', hI', by rw [hr]; exact hd'⟩ fun b o hb e => hk b o (fun q => hb (by simp [q])) e)
    · intro he
      rw [hd] at he
      have := congrArg List.length he
      simp at this
      omega
  done := fun s Q E st hQ => by
    obtain ⟨hF, hT, j, hI, hd⟩ := st
    have hTy : s.TypeIs (.ref Fl) "filter" := ⟨_, hF, rfl⟩
    unfold pyNext
    refine wpAny_bind (wpAny_attempt (wpAny_callSpecial?_slot (name := Str.ofString "__next__") hTy MF.filter_next (wpAny_call (codeAny_call_builtin_code (plainId_quiet MF.plain_filter_next _) (MF.filter_next.check _ _ _ _ _ _ _ _ hTy (MF.filter_next_args _) (filt_loop (A := A) hh hvs hlen hFI hTI _ j s rfl hF hT hI ?_ ?_))))))
    · intro y r t h' tk j' he hI' hd' hk
      rw [hd, List.drop_of_length_le (Nat.le_refl _)] at he
      cases he
    · intro he h' tk e hk hx
      obtain ⟨o, ho, hc⟩ := hx
      refine wpAny_bind (wpAny_isInstance (T := "StopIteration") (b := true) ⟨o, ho, hc⟩ isSubtype_stop ?_)
      exact wpAny_pure (hQ _ _ fun b o hb e => hk b o (fun q => hb (by simp [q])) e)
  self := fun i s Q E st hQ => pyIter_filter st.1 hQ
end Mine
end

section
set_option maxRecDepth 100000
namespace Mine
open PySem PySem.W PySem.Calls PyProof.Rows
noncomputable abbrev tupV (vs : List Value) : Obj := { cls := .type "tuple", data := .seq vs.toArray }
/-- all arguments bound as one tuple -/
noncomputable def BindsV (s : Shared) (fd : FuncData) (args : Args) (vs : List Value) (x : Str) : Prop :=
  ∀ (M : Model) (A : Around) (Q : List (Str × Value) → Shared → Prop) (E : Value → Shared → Prop), Q [(x, .ref s.heap.objs.size)] { s with heap := s.heap.push (tupV vs) } → wpAny M A (bindArgs fd args) Q E s
theorem bindsV_of {s : Shared} {fd : FuncData} {vs : List Value} {x : Str} {px : Option Expr} {pp : Pos} (hvs : vs.length ≤ 1000) (hp : fd.params = { posonlyargs := [], args := [], vararg := some ⟨x, px, pp⟩, kwonlyargs := [], kw_defaults := [], kwarg := none, defaults := [] }) (hd : fd.defaults = .none) : BindsV s fd ⟨vs, []⟩ vs x := by
  intro M A Q E h
  have e : bindArgs fd ⟨vs, []⟩ = (newTuple vs >>= fun v => pure [(x, v)]) := by
    unfold bindArgs
    simp [hp, hd, seqItems?, notAStandIn]
  rw [e]
  exact wpAny_bind (wpAny_newTuple (wpAny_pure h) (Nat.le_trans hvs (by size_fits)))
/-- a def of one rest parameter entered; one object (a table of codes) stands apart from the ground -/
theorem enterV {prog : Program} {w : World} {A : Around} {s : Shared} {base : Heap} {outer : List Env} {K : Frag} {p : Program} {loose : List Str} {mean : ExcName → Option Value} {mg mb : Str → Option Value}
    {R : Result → Shared → Prop} {name qual : Str} {params : Arguments} {body : List Stmt} {scope : Scope} {dV kV doc pm cdv ct oc : Value} {an od : Option Addr} {osl : Array (Option Value)} {f P : Addr} {ob : Obj} {args : Args} {vs : List Value} {x : Str}
    (B : Below A base outer (s.heap.hide P)) (X : K.In (s.heap.hide P)) (T : Top p loose mean mg mb (s.heap.hide P)) (hP : s.heap.get? P = some ob)
    (ho : K.lookup f = some ⟨oc, od, .func (fnOf name qual params body scope dV kV doc pm an cdv ct), osl⟩) (hcd : codeIn K cdv qual = true) (hroom : A.depth < recursionLimit)
    (hbind : BindsV s (fnOf name qual params body scope dV kV doc pm an cdv ct) args vs x) (hloc : scope.names.lookup x = some .local)
    (h : ∀ g D L' h₁, Same g (s.heap.hide P) → Fr g L' h₁ (fun y => [(x, Value.ref D)].lookup y) → News g L' h₁ [(D, tupV vs), (P, ob)] → D ≠ P → Below A base outer g → K.In g → Top p loose mean mg mb g →
      wpAny (model prog w) (A.deeper (envOf qual scope L' f cdv)) (execs body (envOf qual scope L' f cdv))
        (fun fl s' => R (.ok (.ret (match fl with | .ret v => v | _ => .none))) s')
        (fun e s' => wpAny (model prog w) (A.deeper (envOf qual scope L' f cdv)) (leaving (envOf qual scope L' f cdv) e) (fun _ s'' => R (.error e) s'') (fun e' s'' => R (.error e') s'') s')
        { s with heap := h₁, toks := s.toks + 1 })
    (hco : scope.isCoroutine = false) (hgen : scope.isGenerator = false) (hk : scope.kind = .function)
    (hcell : ∀ x ∈ scope.names, x.2 ≠ .cell) : codeAny (model prog w) A (.call (.ref f) args) R s := by
  have kh : ∀ b o, (s.heap.hide P).get? b = some o → s.heap.get? b = some o := fun b o e => Heap.of_hide e
  refine codeAny_call_function (fd := fnOf name qual params body scope dV kV doc pm an cdv ct) (body := body) hroom (kh _ _ (X _ _ ho)) rfl hco hgen rfl (codeRec_of (X.keeps kh) hcd) (hbind _ _ _ _ ?_)
  refine wpAny_newFunctionEnv hcell (by intro y hy; rcases List.mem_singleton.mp hy with rfl; exact hloc) (fun h₁ hns hsb => ⟨((T.nolimit.keeps kh).push _).fresh _ hsb, codeAny_func ?_⟩) hk
  have hsz : (s.heap.push (tupV vs)).objs.size = s.heap.objs.size + 1 := Heap.size_push ..
  have hk₁ : ∀ b o, (s.heap.push (tupV vs)).get? b = some o → h₁.get? b = some o := fun b o e => hsb.extBut b o (Nat.ne_of_lt (Heap.lt_size e)) (Heap.get?_push_of_some _ e)
  have hk₂ : ∀ b o, s.heap.get? b = some o → h₁.get? b = some o := fun b o e => hk₁ b o (Heap.get?_push_of_some _ e)
  have hPl : P < s.heap.objs.size := Heap.lt_size hP
  refine h (s.heap.hide P) s.heap.objs.size (s.heap.push (tupV vs)).objs.size h₁ ⟨fun _ => rfl, rfl⟩ ⟨?_, fun b o e => hk₂ b o (kh b o e), ?_⟩ ?_ (Nat.ne_of_gt hPl) B X T
  · exact hns
  · rw [Heap.hide_size, hsz]; omega
  · intro q hq
    rcases List.mem_cons.mp hq with rfl | hq
    · refine ⟨hk₁ _ _ (Heap.get?_push_size _ rfl), by show s.heap.objs.size ≠ _; rw [hsz]; exact Nat.ne_of_lt (Nat.lt_succ_self _), ?_⟩
      cases e : (s.heap.hide P).get? s.heap.objs.size with
      | none => rfl
      | some o => exact absurd (Heap.lt_size (kh _ _ e)) (Nat.lt_irrefl _)
    · rcases List.mem_singleton.mp hq with rfl
      exact ⟨hk₂ _ _ hP, by show P ≠ _; rw [hsz]; exact Nat.ne_of_lt (Nat.lt_succ_of_lt hPl), Heap.hide_self _ _⟩
end Mine
end

section
set_option maxRecDepth 100000
namespace Mine
open PySem PySem.W PySem.Calls PyProof.Rows PySem.Spec
/-- no run takes a number of what is made back -/
theorem runs_toks {M : Model} {Γ : PySem.Ctx} {p : Pos} {t : Sem Fin} {fs : List Frame} {s s' : Shared} {e : End} (h : Runs M Γ p t fs s e s') : s.toks ≤ s'.toks := by
  induction h with
  | done => exact Nat.le_refl _
  | raise => exact Nat.le_refl _
  | yield => exact Nat.le_refl _
  | fresh _ ih => exact Nat.le_trans (Nat.le_succ _) ih
  | call _ _ i1 i2 => exact Nat.le_trans i1 i2
  | resumeFresh _ _ _ _ i1 i2 => exact Nat.le_trans (show _ ≤ _ from i1) i2
  | resumeSuspended _ _ _ _ i1 i2 => exact Nat.le_trans (show _ ≤ _ from i1) i2
  | segRet _ _ i1 i2 => exact Nat.le_trans i1 i2
  | segGen _ _ i1 i2 => exact Nat.le_trans i1 i2
  | segSuspGen _ _ _ _ i1 i2 => exact Nat.le_trans i1 i2
  | _ => assumption
theorem wakes_toks {M : Model} {Γ : PySem.Ctx} {p : Pos} {g : Nat} {r : Resume} {s s' : Shared} {res : GenResult} (h : Wakes M Γ p g r s res s') : s.toks ≤ s'.toks := by
  unfold Wakes at h
  split at h
  · exact h.elim
  · split at h
    · obtain ⟨e₁, s₁, hr, _, _, rfl⟩ := h; have q := runs_toks hr; exact q
    · rw [h.2]; exact Nat.le_refl _
    · rw [h.2]; exact Nat.le_refl _
  · obtain ⟨e₁, s₁, hr, _, _, rfl⟩ := h; have q := runs_toks hr; exact q
  · rw [h.2]; exact Nat.le_refl _
  · rw [h.2]; exact Nat.le_refl _
theorem wp_toks {α : Type} {M : Model} {Γ : PySem.Ctx} (n : Nat) (t : Sem α) (Q : α → Pos → Shared → Prop) (E : Value → Pos → Shared → Prop) (p : Pos) (s : Shared) (hn : n ≤ s.toks)
    (h : Sem.wp M Γ t (fun a p' s' => n ≤ s'.toks → Q a p' s') (fun e p' s' => n ≤ s'.toks → E e p' s') p s) : Sem.wp M Γ t Q E p s := by
  induction t generalizing p s with
  | pure a => exact h hn
  | raise e => exact h hn
  | fresh k ih => simp only [Sem.wp] at h ⊢; exact ih _ p _ (Nat.le_succ_of_le hn) h
  | load a part k ih => simp only [Sem.wp] at h ⊢; obtain ⟨o, ho, h⟩ := h; exact ⟨o, ho, ih _ p _ hn h⟩
  | update a part f k ih => simp only [Sem.wp] at h ⊢; exact ⟨h.1, ih _ p _ hn h.2⟩
  | choose src m k ih => simp only [Sem.wp] at h ⊢; exact ⟨h.1, ih _ p _ hn h.2⟩
  | genState g k ih => simp only [Sem.wp] at h ⊢; obtain ⟨o, ho, h⟩ := h; exact ⟨o, ho, ih _ p _ hn h⟩
  | call c hd g l k ih => simp only [Sem.wp] at h ⊢; obtain ⟨r, s', hr, h⟩ := h; exact ⟨r, s', hr, ih _ p _ (Nat.le_trans hn (runs_toks hr)) h⟩
  | resume g r l k ih => simp only [Sem.wp] at h ⊢; obtain ⟨r, s', hr, h⟩ := h; exact ⟨r, s', hr, ih _ p _ (Nat.le_trans hn (wakes_toks hr)) h⟩
  | rule _ k ih => simp only [Sem.wp] at h ⊢; exact ih _ _ _ hn h
  | «at» _ k ih => simp only [Sem.wp] at h ⊢; exact ih _ _ _ hn h
  | loadIfAlive _ k ih => simp only [Sem.wp] at h ⊢; exact ih _ _ _ hn h
  | point _ k ih => simp only [Sem.wp] at h ⊢; exact ih _ _ _ hn h
  | alloc _ k ih => simp only [Sem.wp] at h ⊢; exact ih _ _ _ hn h
  | ask k ih => simp only [Sem.wp] at h ⊢; exact ih _ _ _ hn h
  | os _ _ k ih => simp only [Sem.wp] at h ⊢; exact ih _ _ _ hn h
  | handled _ k ih => simp only [Sem.wp] at h ⊢; exact ih _ _ _ hn h
  | newGen _ k ih => simp only [Sem.wp] at h ⊢; exact ih _ _ _ hn h
  | stack k ih => simp only [Sem.wp] at h ⊢; exact ih _ _ _ hn h
  | thread k ih => simp only [Sem.wp] at h ⊢; exact ih _ _ _ hn h
  | unsupported _ => simp only [Sem.wp] at h
  | finish _ => simp only [Sem.wp] at h
  | register _ _ _ => simp only [Sem.wp] at h
  | yield _ _ _ _ _ => simp only [Sem.wp] at h
  | fork _ _ _ => simp only [Sem.wp] at h
  | await _ _ _ _ _ _ => simp only [Sem.wp] at h
/-- what holds behind a run may lean on the count of what is made -/
theorem wpAny_toks {α : Type} {M : Model} {A : Around} {t : Sem α} {Q : α → Shared → Prop} {E : Value → Shared → Prop} {s : Shared} (n : Nat) (hn : n ≤ s.toks)
    (h : wpAny M A t (fun a s' => n ≤ s'.toks → Q a s') (fun e s' => n ≤ s'.toks → E e s') s) : wpAny M A t Q E s :=
  fun Γ p hΓ => wp_toks n t _ _ p s hn (h Γ p hΓ)
end Mine
end

section
set_option maxRecDepth 100000
namespace Mine
open PySem PySem.W PySem.Calls PyProof.Rows PySem.Spec
theorem BMod.ofTop {p : Program} {loose : List Str} {mean : ExcName → Option Value} {mg mb : Str → Option Value} {h : Heap} (T : Top p loose mean mg mb h) : ∃ bm ob, BMod h mainGlobals mg bm ob :=
  let ⟨bm, ob, h1, h2, h3, h4, h5, h6⟩ := T.bmain; ⟨bm, ob, T.g, h1, h2, h3, h4, h5, h6⟩
/-- what `x.strip()` says in an env -/
noncomputable def MethAt (env : Env) (p1 p2 p3 : Pos) : Prop := ∃ pl : Sem Bool, eval (.Call (.Attribute (.Name (Str.ofString "x") p1) (Str.ofString "strip") p2) [] [] p3) env = (do
      let ov ← eval (.Name (Str.ofString "x") p1) env
      standAt p2.atName
      let (f, first) ← holding [ov] (getMethod ov (Str.ofString "strip") pl)
      callWith p3 f first (backTo p3 (starEach [] env)) [])
section
variable {prog : Program} {w : World} {A : Around} {E : Value → Shared → Prop} {s : Shared}
set_option maxHeartbeats 1000000 in
theorem strip_elt {scope : Scope} {cl : List (Str × Addr)} {C : Addr} {code : Value} {bi : Addr} {env : Env} {m : Str → Option Value} {y : Str} {t : Tok} {p1 p2 p3 : Pos}
    (hn : s.heap.Ns C m) (hv : m (Str.ofString "x") = some (.str y t)) (hk : scope.kind = .function) (hl : scope.names.lookup (Str.ofString "x") = some .local) (hy : y.length ≤ 100000) (he : MethAt (genEnv scope cl C code bi env) p1 p2 p3) :
    wpAny (model prog w) A (eval (.Call (.Attribute (.Name (Str.ofString "x") p1) (Str.ofString "strip") p2) [] [] p3) (genEnv scope cl C code bi env)) (fun r s₃ => (∃ u, r = .str (Txt.strip y) u) ∧ Keeps s s₃) E s := by
  have hn' : s.heap.Ns (genEnv scope cl C code bi env).locals m := hn
  have hS : y.length ≤ sizeLine := Nat.le_trans hy (by size_fits)
  obtain ⟨pl, he⟩ := he
  refine MethodCall_ (pl := pl) ?_ he
  refine ldG hn' hv ?_ hk hl (by decide)
  refine GM.strip ?_
  refine callWith_method0 ?_
  exact SC.strip (fun t' k => ⟨⟨t', rfl⟩, _, _, rfl, fun _ _ e => e⟩) hS
theorem gen_tail {env : Env} {pos : Pos} {qual : Str} {scope : Scope} {cl : List (Str × Addr)} {g : Heap} {L P c IT FL D : Addr} {ps : Array Value} {m mg : Str → Option Value} {bm : Addr} {ob : Obj} {news : List (Addr × Obj)} {vs : List Value} {ts : List Str} {p1 p2 p3 : Pos}
    {Q : Value → Shared → Prop}
    (F : Fr g L s.heap m) (N : News g L s.heap news) (hP : (P, tabObj ps) ∈ news) (CH : CodeHd g c P) (tri : TriplesOk ps.toList) (hcode : env.code = .ref c) (BM : BMod g env.globals mg bm ob) (G : AllBare s.gens) (hlim : g.NoLimit)
    (hIT : (IT, tupIt D) ∈ news) (hFL : (FL, fltObj IT) ∈ news) (hD : (D, tupV vs) ∈ news) (hvs : StrsAre vs ts) (hlen : ∀ y ∈ ts, y.length ≤ 100000) (hLI : L < IT)
    (hx : scope.names.lookup (Str.ofString "x") = some .local) (hkind : scope.kind = .function) (hmeth : ∀ C code, MethAt (genEnv scope cl C code builtinsNs env) p1 p2 p3)
    (h : ∀ a ps' s₅, AllBare s₅.gens → s₅.os = s.os → Fr g L s₅.heap m → TriplesOk ps'.toList → s₅.heap.get? P = some (tabObj ps') → (∀ b o, b ≠ P → s.heap.get? b = some o → s₅.heap.get? b = some o) →
      Gen prog w A L a (passing (fun _ => true) (ts.filter full).length 0).length (fun j v => ∃ i, (passing (fun _ => true) (ts.filter full).length 0)[j]? = some i ∧ ∃ y u, (ts.filter full)[i]? = some y ∧ v = .str (Txt.strip y) u) s₅ → Q (.ref a) s₅) :
    wpAny (model prog w) A (genexprCode env pos qual scope) (fun code s₃ => wpAny (model prog w) A (builtinsFor env.globals env.builtins) (fun bi s₄ =>
        ∃ I fp wr n₀ P St₀ pz F, Value.ref FL = .ref I ∧ (∀ A' : Around, A'.handled = none → Walks prog w A' I fp wr n₀ P St₀) ∧ St₀ 0 s₄.heap ∧ (∀ b ∈ fp, b < s₄.heap.objs.size) ∧ s₄.heap.NoLimit ∧ cStatics ∉ wr ∧
          (∀ href : Heap, (∀ b o, s₄.heap.get? b = some o → href.get? b = some o) →
            QuietGen prog w (genEnv scope cl s₄.heap.objs.size code bi env) (Str.ofString "x") [] (.Call (.Attribute (.Name (Str.ofString "x") p1) (Str.ofString "strip") p2) [] [] p3) (List.range s₄.heap.objs.size) wr P pz F href) ∧
          (∀ a h₅ tk gs, gs.bare = true → s₄.heap.objs.size < a → h₅.objs.size = a + 1 → (∀ b o, s₄.heap.get? b = some o → h₅.get? b = some o) →
            WalksS prog w A.in4 a (a :: s₄.heap.objs.size :: List.range s₄.heap.objs.size) (s₄.heap.objs.size :: wr) (GenOnlyQ s₄.gens.size) (passing pz n₀ 0).length
              (fun j y => ∃ i, (passing pz n₀ 0)[j]? = some i ∧ F i y) (GenAt prog w A.in4 a s₄.gens.size s₄.heap.objs.size (List.range s₄.heap.objs.size) wr pz n₀ F) →
            GenAt prog w A.in4 a s₄.gens.size s₄.heap.objs.size (List.range s₄.heap.objs.size) wr pz n₀ F 0 { s₄ with gens := s₄.gens.push gs, toks := tk, heap := h₅ } →
            Q (.ref a) { s₄ with gens := s₄.gens.push gs, toks := tk, heap := h₅ })) E s₃) E s := by
  have hl : s.heap.NoLimit := hlim.keeps F.keep
  have eP : s.heap.get? P = some (tabObj ps) := (N _ hP).1
  have eIT := (N _ hIT).1
  have eFL := (N _ hFL).1
  have eD := (N _ hD).1
  have CH1 : CodeHd s.heap c P := CH.keeps F.keep
  have hIP : IT ≠ P := fun e => by rw [e, eP] at eIT; cases eIT
  have hFP : FL ≠ P := fun e => by rw [e, eP] at eFL; cases eFL
  have hDP : D ≠ P := fun e => by rw [e, eP] at eD; cases eD
  have hFI : FL ≠ IT := fun e => by rw [e, eIT] at eFL; exact absurd (congrArg Obj.cls (Option.some.inj eFL)) (by simp)
  have hDI : D ≠ IT := fun e => by rw [e, eIT] at eD; exact absurd (congrArg Obj.cls (Option.some.inj eD)) (by simp)
  have hcP : cStatics ≠ P := fun e => by
    obtain ⟨_, hns, _⟩ := hl
    obtain ⟨o, es, ep, ho, hd, _⟩ := hns
    rw [e, eP] at ho; cases ho; cases hd
  have hcI : cStatics ≠ IT := fun e => by
    obtain ⟨_, hns, _⟩ := hl
    obtain ⟨o, es, ep, ho, hd, _⟩ := hns
    rw [e, eIT] at ho; cases ho; cases hd
  have hgP : ∀ b o, g.get? b = some o → b ≠ P := fun b o e q => by rw [q, (N _ hP).2.2] at e; cases e
  have hLP : L ≠ P := (N _ hP).2.1.symm
  -- the state behind the code object
  suffices main : ∀ (code : Value) (h₃ : Heap) (tk : Nat) (ps' : Array Value), Heap.ExtBut P s.heap h₃ → s.heap.objs.size ≤ h₃.objs.size → TriplesOk ps'.toList → h₃.get? P = some (tabObj ps') →
      wpAny (model prog w) A (builtinsFor env.globals env.builtins) (fun bi s₄ =>
        ∃ I fp wr n₀ P St₀ pz F, Value.ref FL = .ref I ∧ (∀ A' : Around, A'.handled = none → Walks prog w A' I fp wr n₀ P St₀) ∧ St₀ 0 s₄.heap ∧ (∀ b ∈ fp, b < s₄.heap.objs.size) ∧ s₄.heap.NoLimit ∧ cStatics ∉ wr ∧
          (∀ href : Heap, (∀ b o, s₄.heap.get? b = some o → href.get? b = some o) →
            QuietGen prog w (genEnv scope cl s₄.heap.objs.size code bi env) (Str.ofString "x") [] (.Call (.Attribute (.Name (Str.ofString "x") p1) (Str.ofString "strip") p2) [] [] p3) (List.range s₄.heap.objs.size) wr P pz F href) ∧
          (∀ a h₅ tk gs, gs.bare = true → s₄.heap.objs.size < a → h₅.objs.size = a + 1 → (∀ b o, s₄.heap.get? b = some o → h₅.get? b = some o) →
            WalksS prog w A.in4 a (a :: s₄.heap.objs.size :: List.range s₄.heap.objs.size) (s₄.heap.objs.size :: wr) (GenOnlyQ s₄.gens.size) (passing pz n₀ 0).length
              (fun j y => ∃ i, (passing pz n₀ 0)[j]? = some i ∧ F i y) (GenAt prog w A.in4 a s₄.gens.size s₄.heap.objs.size (List.range s₄.heap.objs.size) wr pz n₀ F) →
            GenAt prog w A.in4 a s₄.gens.size s₄.heap.objs.size (List.range s₄.heap.objs.size) wr pz n₀ F 0 { s₄ with gens := s₄.gens.push gs, toks := tk, heap := h₅ } →
            Q (.ref a) { s₄ with gens := s₄.gens.push gs, toks := tk, heap := h₅ })) E { s with heap := h₃, toks := tk } by
    cases hf : codeAmong pos ps.toList with
    | some c' => exact wpAny_genexprCode_hit hcode (CH1.code eP tri) hf (main c' s.heap s.toks ps (fun b o _ e => e) (Nat.le_refl _) tri eP)
    | none =>
      refine wpAny_genexprCodeX hcode (CH1.code eP tri) (CH1.tab eP) hf fun c' h₃ tk₃ hx₃ hge hlt hcode₃ _ htab₃ _ => ?_
      obtain ⟨o, vs, file, tf, flags, tg, inF, text, tt, op, _, _, _, _, _, _, _, e1, e2, e3, _⟩ := hcode₃
      exact main (.ref c') h₃ tk₃ _ hx₃ (Nat.le_trans hge (Nat.le_of_lt hlt)) e3 htab₃.2
  intro code h₃ tk ps' hx₃ hsz tri' eP'
  have hk3 : ∀ b o, b ≠ P → s.heap.get? b = some o → h₃.get? b = some o := fun b o hb e => hx₃ b o hb e
  have hgk : ∀ b o, g.get? b = some o → h₃.get? b = some o := fun b o e => hk3 b o (hgP b o e) (F.keep b o e)
  have M₃ := BM.keeps hgk
  have hl₃ : h₃.NoLimit := hlim.keeps hgk
  have F₃ : Fr g L h₃ m := ⟨(let ⟨o, es, ep, ho, r⟩ := F.ns; ⟨o, es, ep, hk3 _ _ hLP ho, r⟩), hgk, F.above⟩
  refine wpAny_builtinsFor M₃.ns M₃.name M₃.ne M₃.obj M₃.cls M₃.dict M₃.data ?_
  have hIlt : IT < h₃.objs.size := Heap.lt_size (hk3 _ _ hIP eIT)
  refine ⟨FL, [FL, IT, D], [IT], (ts.filter full).length, _, FiltSt vs.toArray ts FL IT D, fun _ => true, fun j v => ∃ y u, (ts.filter full)[j]? = some y ∧ v = .str (Txt.strip y) u, rfl,
    (fun A' hA => Walks.filter hA (by simpa using hvs) hlen hFI hDI), ⟨hk3 _ _ hFP eFL, ⟨_, hk3 _ _ hDP eD, rfl, _, rfl⟩, 0, ⟨_, hk3 _ _ hIP eIT, rfl, rfl⟩, rfl⟩, ?_, hl₃, ?_, ?_, ?_⟩
  · intro b hb
    simp only [List.mem_cons, List.not_mem_nil, or_false] at hb
    rcases hb with rfl | rfl | rfl
    · exact Heap.lt_size (hk3 _ _ hFP eFL)
    · exact hIlt
    · exact Heap.lt_size (hk3 _ _ hDP eD)
  · intro hb; exact hcI (List.mem_singleton.mp hb)
  · intro href hhref
    refine ⟨fun A' E' i v s₂ m₂ hA hp hn hv hk => ?_, fun A' E' i v s₂ m₂ hA hp _ hn hv hk => ?_⟩
    · exact wpAny_pure ⟨rfl, _, _, rfl, fun _ _ e => e⟩
    · obtain ⟨y, t, rfl, hy⟩ := hp
      refine wpAny_mono (strip_elt (p1 := p1) (p2 := p2) (p3 := p3) hn hv hkind hx (hlen y ?_) (hmeth _ _)) (fun r s₃ q => ⟨?_, q.2⟩) fun _ _ e => e
      · exact (List.mem_filter.mp (List.mem_of_getElem? hy)).1
      · obtain ⟨u, rfl⟩ := q.1; exact ⟨y, u, hy, rfl⟩
  · intro a h₅ tk5 gs hgb hag hsz₅ hk₅ W hat
    refine h a ps' _ (G.push hgb) rfl (F₃.keeps hk₅) tri' (hk₅ _ _ eP') (fun b o hb e => hk₅ b o (hk3 b o hb e)) ?_
    refine ⟨_, _, _, _, W, hat, (fun i s' st => st.1.typeIs), List.mem_cons_self, ?_, ?_⟩
    · intro b hb
      show b < h₅.objs.size
      rw [hsz₅]
      rcases List.mem_cons.mp hb with rfl | hb
      · exact Nat.lt_succ_self _
      · rcases List.mem_cons.mp hb with rfl | hb
        · exact Nat.lt_succ_of_lt hag
        · exact Nat.lt_succ_of_lt (Nat.lt_trans (List.mem_range.mp hb) hag)
    · intro b hb
      rcases List.mem_cons.mp hb with rfl | hb
      · exact Nat.lt_trans hLI hIlt
      · rcases List.mem_singleton.mp hb with rfl; exact hLI
/-- what stands behind `iter(filter(len, args))` -/
noncomputable def IterOk (g : Heap) (L P : Addr) (m : Str → Option Value) (ps : Array Value) (vs : List Value) (gens : Array GenState) (os : OsState) (it : Value) (s₂ : Shared) : Prop :=
  ∃ IT FL D news, it = .ref FL ∧ L < IT ∧ s₂.gens = gens ∧ s₂.os = os ∧ Fr g L s₂.heap m ∧ News g L s₂.heap news ∧ (P, tabObj ps) ∈ news ∧ (IT, tupIt D) ∈ news ∧ (FL, fltObj IT) ∈ news ∧ (D, tupV vs) ∈ news
theorem gen_whole {env : Env} {pos px : Pos} {scope : Scope} {iter : Expr} {g : Heap} {L P c : Addr} {ps : Array Value} {m mg : Str → Option Value} {bm : Addr} {ob : Obj} {vs : List Value} {ts : List Str} {p1 p2 p3 : Pos}
    {Q : Value → Shared → Prop} (hh : A.handled = none) (hco : scope.isCoroutine = false) (hclos : closureFor scope env = pure []) (hcell : ∀ y ∈ scope.names, y.2 ≠ .cell) (h0 : scope.names.lookup (".0" : Str) = some NameKind.local)
    (hx : scope.names.lookup (Str.ofString "x") = some .local) (hkind : scope.kind = .function) (hroom : A.depth < recursionLimit) (hs : ∀ x, genFold iter env x = pure x)
    (hmeth : ∀ C code, MethAt (genEnv scope [] C code builtinsNs env) p1 p2 p3) (CH : CodeHd g c P) (tri : TriplesOk ps.toList) (hcode : env.code = .ref c) (BM : BMod g env.globals mg bm ob) (G : AllBare s.gens) (hlim : g.NoLimit)
    (hvs : StrsAre vs ts) (hlen : ∀ y ∈ ts, y.length ≤ 100000)
    (hi : wpAny (model prog w) A (eval iter env) (fun xv s₁ => wpAny (model prog w) A (pyIter xv) (IterOk g L P m ps vs s.gens s.os) E s₁) E s)
    (h : ∀ a ps' s₅, s.toks ≤ s₅.toks → AllBare s₅.gens → s₅.os = s.os → Fr g L s₅.heap m → TriplesOk ps'.toList → s₅.heap.get? P = some (tabObj ps') →
      Gen prog w A L a (passing (fun _ => true) (ts.filter full).length 0).length (fun j v => ∃ i, (passing (fun _ => true) (ts.filter full).length 0)[j]? = some i ∧ ∃ y u, (ts.filter full)[i]? = some y ∧ v = .str (Txt.strip y) u) s₅ → Q (.ref a) s₅) :
    wpAny (model prog w) A (eval (.GeneratorExp (.Call (.Attribute (.Name (Str.ofString "x") p1) (Str.ofString "strip") p2) [] [] p3) [⟨.Name (Str.ofString "x") px, iter, [], 0⟩] scope pos) env) Q E s := by
  refine wpAny_toks s.toks (Nat.le_refl _) ?_
  refine wpAny_GeneratorExp_walksQ (cl := []) hh hco hclos hcell h0 hx hkind hroom (wpAny_mono hi (fun xv s₁ h₁ => wpAny_mono h₁ (fun it s₂ h₂ => ?_) fun _ _ e _ => e) fun _ _ e _ => e) hs
  obtain ⟨IT, FL, D, news, rfl, hLI, hg2, hos2, F, N, m1, m2, m3, m4⟩ := h₂
  refine ⟨hlim.keeps F.keep, gen_tail (Q := fun a s' => s.toks ≤ s'.toks → Q a s') F N m1 CH tri hcode BM (by rw [hg2]; exact G) hlim m2 m3 m4 hvs hlen hLI hx hkind hmeth fun a ps' s₅ G5 os5 F5 tri5 P5 _ X5 hle => h a ps' s₅ hle G5 (os5.trans hos2) F5 tri5 P5 X5⟩
/-- the join behind it -/
theorem join_tail {g : Heap} {L P a : Addr} {ps : Array Value} {m : Str → Option Value} {ts : List Str} {Q : Value → Shared → Prop} {sep : Str} {t : Tok} (F : Fr g L s.heap m) (G : AllBare s.gens) (hPL : P ≤ L) (eP : s.heap.get? P = some (tabObj ps))
    (X : Gen prog w A L a (passing (fun _ => true) (ts.filter full).length 0).length (fun j v => ∃ i, (passing (fun _ => true) (ts.filter full).length 0)[j]? = some i ∧ ∃ y u, (ts.filter full)[i]? = some y ∧ v = .str (Txt.strip y) u) s)
    (hok : JoinOk sep ((ts.filter full).map Txt.strip) = true) (hn : ts.length ≤ 1000)
    (h0 : 0 < s.toks) (hgP : g.get? P = none) (hLP : P ≠ L)
    (h : ∀ h' gens' dr' tk' t', 0 < tk' → Fr g L h' m → AllBare gens' → News g L h' [(P, tabObj ps)] → Q (.str (Txt.join sep ((ts.filter full).map Txt.strip)) t') ⟨h', gens', dr', tk', s.os⟩) : wpAny (model prog w) A (call (.builtin "str.join") [.str sep t, .ref a]) Q E s := by
  have hpass : passing (fun _ => true) (ts.filter full).length 0 = List.range (ts.filter full).length := by simp [passing]
  have hmap : (List.range (passing (fun _ => true) (ts.filter full).length 0).length).map (fun j => ((ts.filter full)[j]?.map Txt.strip).getD Str.empty) = (ts.filter full).map Txt.strip := by
    rw [hpass]
    apply List.ext_getElem?
    intro j
    by_cases hj : j < (ts.filter full).length
    · simp [hj]
    · simp [hj]
  have hle : (ts.filter full).length ≤ ts.length := List.length_filter_le _ _
  refine wpAny_toks 1 h0 ?_
  refine join_rowsK F G X (Nat.le_refl _) (fun j => ((ts.filter full)[j]?.map Txt.strip).getD Str.empty) (fun j v hv => ?_) (by rw [hmap]; exact hok) (fun s' t' F' G' os' hk => ?_) ?_
  · obtain ⟨i, hi, y, u, hy, rfl⟩ := hv
    rw [hpass] at hi
    have hij : i = j := by
      by_cases hj : j < (ts.filter full).length
      · rw [List.getElem?_range hj] at hi; exact (Option.some.inj hi).symm
      · rw [List.getElem?_eq_none (by simpa using Nat.le_of_not_lt hj)] at hi; cases hi
    subst hij
    exact ⟨u, by simp [hy]⟩
  · rw [hmap]
    intro hle
    obtain ⟨h', gens', dr', tk', o'⟩ := s'
    cases (show o' = s.os from os')
    exact h h' gens' dr' tk' t' hle F' G' fun q hq => by rcases List.mem_singleton.mp hq with rfl; exact ⟨hk _ _ hPL eP, hLP, hgP⟩
  · rw [hpass, List.length_range]
    exact Nat.le_trans (Nat.le_trans hle hn) (by size_fits)
end
end Mine
end

section
set_option maxRecDepth 100000
namespace Mine
open PySem PySem.StrLaws PySem.Builtin PySem.Builtin.Str
/-- what str.replace does, by one pass over the signs -/
noncomputable def repS (old new : List Nat) : Nat → List Nat → List Nat
  | _, [] => []
  | k, c :: r => if 0 < k then repS old new (k - 1) r else if old.isPrefixOf (c :: r) then new ++ repS old new (old.length - 1) r else c :: repS old new 0 r
noncomputable def cutS (old : List Nat) : Nat → Nat → List Nat → List Nat
  | _, _, [] => []
  | k, i, c :: r => if 0 < k then cutS old (k - 1) (i + 1) r else if old.isPrefixOf (c :: r) then i :: cutS old (old.length - 1) (i + 1) r else cutS old 0 (i + 1) r
theorem subAt_prefix {x y : Str} {i : Nat} : subAt x y i = y.cps.toList.isPrefixOf (x.cps.toList.drop i) := by
  rw [subAt_eq]
  rw [Bool.eq_iff_iff]
  simp only [beq_iff_eq, List.isPrefixOf_iff_prefix]
  constructor
  · intro e; exact ⟨(x.cps.toList.drop i).drop y.length, by rw [← e]; exact List.take_append_drop _ _⟩
  · intro ⟨r, e⟩; rw [← e]; show List.take y.cps.size _ = _; rw [← Array.length_toList, List.take_left']; rfl
theorem prefix_len {x y : Str} {i : Nat} (h : y.cps.toList.isPrefixOf (x.cps.toList.drop i) = true) (hy : 0 < y.length) : i + y.length ≤ x.length := by
  rw [List.isPrefixOf_iff_prefix] at h
  have h1 := h.length_le
  simp only [List.length_drop, Array.length_toList] at h1
  show i + y.cps.size ≤ x.cps.size
  have : 0 < y.cps.size := hy
  omega
theorem occ_cut (x y : Str) (limit : Nat) (hy : 0 < y.length) : ∀ (l : List Nat) (i : Nat) (found : Array Nat) (free : Nat), x.cps.toList.drop i = l → found.size + l.length < limit →
    (forIn (List.range' i (l.length + 1)) (found, free) (occBody x y x.length limit)).run.fst.toList = found.toList ++ cutS y.cps.toList (free - i) i l := by
  intro l
  induction l with
  | nil =>
    intro i found free hd hs
    have hi : x.length ≤ i := by have := congrArg List.length hd; simp at this; show x.cps.size ≤ i; omega
    have hno : ¬ (((found.size < limit ∧ free ≤ i) ∧ i + y.length ≤ x.length) ∧ subAt x y i = true) := fun h => by have := h.1.2; omega
    simp only [List.length_nil, Nat.zero_add, List.range'_one, List.forIn_cons, occBody, if_neg hno, cutS, List.append_nil]
    rfl
  | cons c r ih =>
    intro i found free hd hs
    have hr : x.cps.toList.drop (i + 1) = r := by rw [← List.drop_drop, hd]; rfl
    simp only [List.length_cons] at hs ⊢
    rw [List.range'_succ, List.forIn_cons]
    by_cases hfree : free ≤ i
    · have hk : free - i = 0 := by omega
      rw [hk]
      by_cases hp : y.cps.toList.isPrefixOf (c :: r) = true
      · have hlen := prefix_len (x := x) (y := y) (i := i) (by rw [hd]; exact hp) hy
        have hyes : ((found.size < limit ∧ free ≤ i) ∧ i + y.length ≤ x.length) ∧ subAt x y i = true := ⟨⟨⟨by omega, hfree⟩, hlen⟩, by rw [subAt_prefix, hd]; exact hp⟩
        simp only [occBody, if_pos hyes]
        have := ih (i + 1) (found.push i) (i + y.length) hr (by simp; omega)
        simp only [cutS, Nat.lt_irrefl, if_false, hp, if_true]
        refine this.trans ?_
        have e : i + y.length - (i + 1) = y.cps.toList.length - 1 := by show i + y.cps.size - (i + 1) = _; simp only [Array.length_toList]; exact Nat.add_sub_add_left _ _ _
        rw [e]
        simp
      · have hno : ¬ (((found.size < limit ∧ free ≤ i) ∧ i + y.length ≤ x.length) ∧ subAt x y i = true) := fun h => by
          apply hp; rw [← hd, ← subAt_prefix]; exact h.2
        simp only [occBody, if_neg hno]
        have := ih (i + 1) found free hr (by omega)
        refine this.trans ?_
        have e : free - (i + 1) = 0 := by omega
        rw [e]
        simp [cutS, hp]
    · have hno : ¬ (((found.size < limit ∧ free ≤ i) ∧ i + y.length ≤ x.length) ∧ subAt x y i = true) := fun h => hfree h.1.1.2
      simp only [occBody, if_neg hno]
      have := ih (i + 1) found free hr (by omega)
      refine this.trans ?_
      have e : free - (i + 1) = free - i - 1 := (Nat.sub_sub free i 1).symm
      rw [e]
      have hk : 0 < free - i := by omega
      simp [cutS, hk]
theorem occ_cutS (x y : Str) (hy : 0 < y.length) : occurrences x y 0 x.length (x.length + 1) = cutS y.cps.toList 0 0 x.cps.toList := by
  rw [occ_eq]
  have := occ_cut x y (x.length + 1) hy x.cps.toList 0 #[] 0 rfl (by simp [Str.length])
  simp only [List.nil_append, Array.length_toList, Nat.sub_zero] at this ⊢
  exact this
theorem strSub_all (x : Str) (a : Nat) : (strSub x a x.length).cps.toList = x.cps.toList.drop a := by
  rw [strSub_toList, List.take_of_length_le]; simp [Str.length]
theorem join_cps (z : Str) (p : Str) (r : List Str) (h : r ≠ []) : (Str.join z (p :: r)).cps.toList = p.cps.toList ++ z.cps.toList ++ (Str.join z r).cps.toList := by
  cases r with
  | nil => exact absurd rfl h
  | cons q r => show ((p ++ z) ++ Str.join z (q :: r)).cps.toList = _; simp only [Str.cps_append, Array.toList_append]
theorem parts_rep (x y z : Str) (hy : 0 < y.length) : ∀ (l : List Nat) (i k a : Nat), x.cps.toList.drop i = l → (0 < k → a = i + k) → (k = 0 → a ≤ i) →
    (Str.join z (partsFrom x y.length a (cutS y.cps.toList k i l))).cps.toList = (x.cps.toList.take i).drop a ++ repS y.cps.toList z.cps.toList k l := by
  intro l
  induction l with
  | nil =>
    intro i k a hd h1 h2
    simp only [cutS, partsFrom, Str.join, repS, List.append_nil]
    rw [strSub_all]
    have hi : x.cps.toList.length ≤ i := by have := congrArg List.length hd; simp at this; simp; omega
    rw [List.take_of_length_le hi]
  | cons c r ih =>
    intro i k a hd h1 h2
    have hr : x.cps.toList.drop (i + 1) = r := by rw [← List.drop_drop, hd]; rfl
    have hil : i < x.cps.toList.length := by have := congrArg List.length hd; simp at this; simp; omega
    have htk : x.cps.toList.take (i + 1) = x.cps.toList.take i ++ [c] := by
      rw [List.take_add_one, ← List.head?_drop, hd]; rfl
    by_cases hk : 0 < k
    · have ha := h1 hk
      simp only [cutS, hk, if_true, repS]
      rw [ih (i + 1) (k - 1) a hr (fun _ => by omega) (fun _ => by omega)]
      congr 1
      rw [List.drop_of_length_le, List.drop_of_length_le] <;> simp <;> omega
    · have hk0 : k = 0 := by omega
      subst hk0
      have ha := h2 rfl
      by_cases hp : y.cps.toList.isPrefixOf (c :: r) = true
      · simp only [cutS, Nat.lt_irrefl, if_false, hp, if_true, partsFrom, repS]
        obtain ⟨p, q, hpq⟩ := partsFrom_ne x y.length (i + y.length) (cutS y.cps.toList (y.cps.toList.length - 1) (i + 1) r)
        rw [join_cps _ _ _ (by rw [hpq]; exact List.cons_ne_nil _ _)]
        have hy' : 0 < y.cps.size := hy
        rw [ih (i + 1) (y.cps.toList.length - 1) (i + y.length) hr (fun h => by show i + y.cps.size = _; simp at h ⊢; omega) (fun h => by show i + y.cps.size ≤ _; simp at h; omega)]
        have hnil : (x.cps.toList.take (i + 1)).drop (i + y.length) = [] := List.drop_of_length_le (by rw [List.length_take]; show _ ≤ i + y.cps.size; omega)
        rw [strSub_toList, hnil, List.drop_take]
        simp
      · rw [Bool.not_eq_true] at hp
        simp only [cutS, Nat.lt_irrefl, if_false, hp, repS, Bool.false_eq_true]
        rw [ih (i + 1) 0 a hr (fun h => absurd h (Nat.lt_irrefl _)) (fun _ => by omega), htk]
        rw [List.drop_append_of_le_length (by rw [List.length_take]; omega)]
        simp
theorem cut_nil (old new : List Nat) : ∀ (l : List Nat) (i : Nat), cutS old 0 i l = [] → repS old new 0 l = l := by
  intro l
  induction l with
  | nil => intros; rfl
  | cons c r ih =>
    intro i h
    by_cases hp : old.isPrefixOf (c :: r) = true
    · simp [cutS, hp] at h
    · rw [Bool.not_eq_true] at hp
      simp only [cutS, Nat.lt_irrefl, if_false, hp, Bool.false_eq_true] at h
      simp only [repS, Nat.lt_irrefl, if_false, hp, Bool.false_eq_true]
      rw [ih (i + 1) h]
theorem replace_repS (x y z : Str) (hy : 0 < y.length) : (Txt.replace x y z).cps.toList = repS y.cps.toList z.cps.toList 0 x.cps.toList := by
  unfold Txt.replace
  rw [occ_cutS x y hy]
  split
  · rename_i h
    have h0 : (y.length == 0) = false := by simp; intro e; rw [e] at hy; simp at hy
    simp only [h0, Bool.false_and, Bool.or_false, List.isEmpty_iff] at h
    rw [cut_nil _ _ _ _ h]
  · rw [glued_eq_join, partsBetween_eq]
    rw [parts_rep x y z hy x.cps.toList 0 0 0 rfl (fun h => absurd h (Nat.lt_irrefl _)) (fun _ => Nat.le_refl _)]
    simp
theorem repS_len (old new : List Nat) (h : new.length ≤ old.length) (h0 : 0 < old.length) : ∀ (l : List Nat) (k : Nat), k ≤ l.length → (repS old new k l).length + k ≤ l.length := by
  intro l
  induction l with
  | nil => intro k hk; simp at hk; simp [repS, hk]
  | cons c r ih =>
    intro k hk
    simp only [List.length_cons] at hk ⊢
    by_cases hk0 : 0 < k
    · simp only [repS, hk0, if_true]
      have := ih (k - 1) (by omega); omega
    · have : k = 0 := by omega
      subst this
      by_cases hp : old.isPrefixOf (c :: r) = true
      · simp only [repS, Nat.lt_irrefl, if_false, hp, if_true, List.length_append]
        have hl := (List.isPrefixOf_iff_prefix.mp hp).length_le
        simp only [List.length_cons] at hl
        have := ih (old.length - 1) (by omega); omega
      · rw [Bool.not_eq_true] at hp
        simp only [repS, Nat.lt_irrefl, if_false, hp, Bool.false_eq_true, List.length_cons]
        have := ih 0 (by omega); omega
theorem replace_len (x y z : Str) (hy : 0 < y.length) (h : z.length ≤ y.length) : (Txt.replace x y z).length ≤ x.length := by
  have h1 := repS_len y.cps.toList z.cps.toList (by simpa [Str.length] using h) (by simpa [Str.length] using hy) x.cps.toList 0 (Nat.zero_le _)
  rw [← replace_repS x y z hy] at h1
  simpa [Str.length] using h1
end Mine
end

section
set_option maxRecDepth 100000
namespace Mine
open PySem PySem.W PySem.Calls PyProof.Rows PySem.Spec
section
variable {prog : Program} {w : World} {A : Around} {E : Value → Shared → Prop} {Q : Flow → Shared → Prop} {s : Shared} {env : Env} {h₀ : Heap} {L : Addr}
/-- a while loop whose turns may lean on the count of what is made -/
theorem While_T {test : Expr} {body : List Stmt} {pos : Pos} {m : Str → Option Value} {news : List (Addr × Obj)} (J : Nat → (Str → Option Value) → List (Addr × Obj) → Prop) {n₀ : Nat}
    (F : Fr h₀ L s.heap m) (N : News h₀ L s.heap news) (h0 : 0 < s.toks) (hJ : J n₀ m news)
    (turn : ∀ n m₁ news₁ h₁ tk₁, 0 < tk₁ → Fr h₀ L h₁ m₁ → News h₀ L h₁ news₁ → J n m₁ news₁ →
      wpAny (model prog w) A (isTrue test env (eval test env)) (fun b s₂ =>
        if b = true then wpAny (model prog w) A (execs body env) (WhileStep2 h₀ L s J (fun f s' => 0 < s'.toks → Q f s') n) E s₂ else 0 < s₂.toks → Q .next s₂) E { s with heap := h₁, toks := tk₁ })
    (hE : PassesOwn (model prog w) A env E := by passes_own) :
    wpAny (model prog w) A (exec (.While test body [] pos) env) Q E s := by
  refine wpAny_While (codeAny_whileLoop (fun n s' => ∃ h₁ tk₁ m₁ news₁, s' = { s with heap := h₁, toks := tk₁ } ∧ 0 < tk₁ ∧ Fr h₀ L h₁ m₁ ∧ News h₀ L h₁ news₁ ∧ J n m₁ news₁) ?_ n₀ ⟨s.heap, s.toks, m, news, rfl, h0, F, N, hJ⟩)
  rintro n s' ⟨h₁, tk₁, m₁, news₁, rfl, hp, F₁, N₁, J₁⟩
  refine wpAny_toks 1 hp ?_
  refine wpAny_mono (turn n m₁ news₁ h₁ tk₁ hp F₁ N₁ J₁) (fun b s₂ h₂ hp2 => ?_) (fun e s' x _ => hE e s' x)
  cases b with
  | false =>
    simp only [Bool.false_eq_true, if_false] at h₂ ⊢
    exact wpAny_execs_nil (h₂ hp2)
  | true =>
    simp only [if_true] at h₂ ⊢
    refine wpAny_toks 1 hp2 ?_
    refine wpAny_mono h₂ (fun f s₃ h₃ hp3 => ?_) (fun e s' x _ => hE e s' x)
    cases f with
    | next =>
      obtain ⟨h', tk, m₂, news₂, n', rfl, F₂, N₂, hn, J₂⟩ := h₃
      exact ⟨n', hn, h', tk, m₂, news₂, rfl, hp3, F₂, N₂, J₂⟩
    | cont =>
      obtain ⟨h', tk, m₂, news₂, n', rfl, F₂, N₂, hn, J₂⟩ := h₃
      exact ⟨n', hn, h', tk, m₂, news₂, rfl, hp3, F₂, N₂, J₂⟩
    | brk => exact h₃ hp3
    | ret v => exact h₃ hp3
end
/-- '--' made '-' till nothing changes -/
noncomputable def cleanS : Nat → Str → Str
  | 0, y => y
  | n + 1, y => if Txt.replace y (Str.ofString "--") (Str.ofString "-") = y then y else cleanS n (Txt.replace y (Str.ofString "--") (Str.ofString "-"))
theorem cleanS_same {n : Nat} {y : Str} (h : Txt.replace y (Str.ofString "--") (Str.ofString "-") = y) : cleanS n y = y := by
  cases n with
  | zero => rfl
  | succ n => simp [cleanS, h]
theorem repS_lt (old new : List Nat) (h : new.length < old.length) : ∀ (l : List Nat), repS old new 0 l = l ∨ (repS old new 0 l).length < l.length := by
  intro l
  induction l with
  | nil => exact .inl rfl
  | cons c r ih =>
    by_cases hp : old.isPrefixOf (c :: r) = true
    · right
      simp only [repS, Nat.lt_irrefl, if_false, hp, if_true, List.length_append, List.length_cons]
      have hl := (List.isPrefixOf_iff_prefix.mp hp).length_le
      simp only [List.length_cons] at hl
      have := repS_len old new (by omega) (by omega) r (old.length - 1) (by omega)
      omega
    · rw [Bool.not_eq_true] at hp
      simp only [repS, Nat.lt_irrefl, if_false, hp, Bool.false_eq_true, List.length_cons]
      rcases ih with e | e
      · left; rw [e]
      · right; omega
theorem replace_lt (x y z : Str) (hy : z.length < y.length) (hne : Txt.replace x y z ≠ x) : (Txt.replace x y z).length < x.length := by
  have h0 : 0 < y.length := by omega
  rcases repS_lt y.cps.toList z.cps.toList (by simpa [Str.length] using hy) x.cps.toList with e | e
  · exfalso; apply hne
    have := replace_repS x y z h0
    rw [e] at this
    cases hx : Txt.replace x y z with
    | mk a => cases x with
      | mk b => rw [hx] at this; simp only at this; rw [Array.toList_inj.mp this]
  · rw [← replace_repS x y z h0] at e
    simpa [Str.length] using e
/-- the dashes at the end taken off -/
noncomputable def rdash : Nat → Str → Str
  | 0, y => y
  | n + 1, y => if (Txt.item y (-1) == Str.ofString "-") = true then rdash n (Txt.slice y none (some (-1))) else y
theorem slice_last (y : Str) (h : y.length ≠ 0) : (Txt.slice y none (some (-1))).cps.toList = y.cps.toList.dropLast := by
  have e1 : Txt.slice y none (some (-1)) = StrLaws.sliceText y none (some (-1)) := rfl
  have e2 : StrLaws.sliceText y none (some (-1)) = StrLaws.sliceText y (some ((0 : Nat) : Int)) (some ((y.length - 1 : Nat) : Int)) := by
    unfold StrLaws.sliceText
    have : Builtin.Str.strSliceIndices none (some (-1)) 1 y.length = Builtin.Str.strSliceIndices (some ((0 : Nat) : Int)) (some ((y.length - 1 : Nat) : Int)) 1 y.length := by
      rw [StrLaws.sliceIdx_none_lo]
      have a1 : ((y.length - 1 : Nat) : Int) = (y.length : Int) - 1 := Int.ofNat_sub (Nat.pos_of_ne_zero h)
      rw [a1]
      have b1 : ¬ ((y.length : Int) - 1 < 0) := by omega
      have b2 : (-1 : Int) + (y.length : Int) = (y.length : Int) - 1 := Int.add_comm _ _
      simp only [Builtin.Str.strSliceIndices, if_neg b1, b2, show ((-1 : Int) < 0) = True from eq_true (by decide), if_true]
      rfl
    rw [this]
  rw [e1, e2, StrLaws.sliceText_nat y (Nat.zero_le _) (Nat.sub_le _ _)]
  simp [List.dropLast_eq_take, Str.length]
end Mine
end

section
set_option maxRecDepth 100000
namespace Mine
open PySem PySem.W PySem.Calls PyProof.Rows PySem.Spec
section
variable {prog : Program} {w : World} {A : Around} {E : Value → Shared → Prop} {s : Shared} {h₀ : Heap} {L : Addr} {m : Str → Option Value} {news : List (Addr × Obj)}
theorem filt_K {D : Addr} {vs : List Value} {Q : Value → Shared → Prop} (F : Fr h₀ L s.heap m) (N : News h₀ L s.heap news) (hD : (D, tupV vs) ∈ news)
    (h : ∀ IT FL h', L < IT → Fr h₀ L h' m → News h₀ L h' ((FL, fltObj IT) :: (IT, tupIt D) :: news) → Q (.ref FL) { s with heap := h' }) : wpAny (model prog w) A (call (.type "filter") [.builtin "len", .ref D]) Q E s := by
  refine call_filter (xs := vs.toArray) ⟨_, (N _ hD).1, rfl, _, rfl⟩ fun h' e1 e2 e3 hk => ?_
  have hL : L < s.heap.objs.size := F.ns.lt
  have no : ∀ b, s.heap.objs.size ≤ b → h₀.get? b = none := fun b hb => by
    cases e : h₀.get? b with
    | none => rfl
    | some o => exact absurd (Heap.lt_size (F.keep _ _ e)) (Nat.not_lt.mpr hb)
  refine h s.heap.objs.size (s.heap.objs.size + 1) h' hL (F.keeps hk) fun p hp => ?_
  rcases List.mem_cons.mp hp with rfl | hp
  · exact ⟨e2, Nat.ne_of_gt (Nat.lt_succ_of_lt hL), no _ (Nat.le_succ _)⟩
  · rcases List.mem_cons.mp hp with rfl | hp
    · exact ⟨e1, Nat.ne_of_gt hL, no _ (Nat.le_refl _)⟩
    · exact ⟨hk _ _ (N p hp).1, (N p hp).2⟩
theorem repl_K {x a b : Str} {t u v : Tok} {Q : Value → Shared → Prop} (hu : 0 < u) (hv : v = u + 1) (hs : 0 < s.toks) (hab : (a == b) = false) (hx : x.length ≤ 100000) (ha : 0 < a.length) (hb : b.length ≤ a.length) (hb2 : b.length ≤ 14)
    (h : ∀ y t' k, 0 < k → y = Txt.replace x a b → y.length ≤ 100000 → Q (.str y t') { s with toks := k }) : wpAny (model prog w) A (call (.builtin "str.replace") [.str x t, .str a u, .str b v]) Q E s := by
  subst hv
  refine wpAny_toks 1 hs ?_
  refine SC.replaceW (Nat.ne_of_gt hu) (Nat.succ_ne_zero _) (Nat.ne_of_lt (Nat.lt_succ_self _)) hab (by omega) hb2 fun t' k hk => ?_
  exact h _ t' k hk rfl (Nat.le_trans (replace_len x a b ha hb) hx)
theorem filtIter_K {FL IT : Addr} {Q : Value → Shared → Prop} (N : News h₀ L s.heap news) (hF : (FL, fltObj IT) ∈ news) (h : Q (.ref FL) s) : wpAny (model prog w) A (pyIter (.ref FL)) Q E s := pyIter_filter (N _ hF).1 h
end
theorem swapM {a b : Option Value} {mc : Str → Option Value} : (fun x : Str => if x = Str.ofString "cleaned" then a else if x = Str.ofString "platform" then b else mc x) = (fun x : Str => if x = Str.ofString "platform" then b else if x = Str.ofString "cleaned" then a else mc x) := by
  funext x
  by_cases h : x = Str.ofString "cleaned"
  · subst h; rw [if_pos rfl, if_neg (by decide), if_pos rfl]
  · rw [if_neg h, if_neg h]
noncomputable def chain (x : Str) : Str :=
  Txt.replace (Txt.replace (Txt.replace (Txt.replace (Txt.replace (Txt.replace (Txt.replace (Txt.replace (Txt.replace x (Str.ofString " ") (Str.ofString "_")) (Str.ofString "/") (Str.ofString "-")) (Str.ofString "\\") (Str.ofString "-")) (Str.ofString ":") (Str.ofString "-")) (Str.ofString ";") (Str.ofString "-")) (Str.ofString "\"") (Str.ofString "-")) (Str.ofString "(") (Str.ofString "-")) (Str.ofString ")") (Str.ofString "-")) (Str.ofString "unknown") (Str.ofString "")
noncomputable def joined (ts : List Str) : Str := Txt.join (Str.ofString "-") ((ts.filter full).map Txt.strip)
noncomputable def cleaned (x : Str) : Str := cleanS x.length x
noncomputable def ended (x : Str) : Str := rdash x.length x
/-- what _platform gives -/
noncomputable def platStr (ts : List Str) : Str := ended (cleaned (chain (joined ts)))
theorem rdash_stop {n : Nat} {y : Str} (h : (Txt.item y (-1) == Str.ofString "-") = false) : rdash n y = y := by
  cases n with
  | zero => rfl
  | succ n => simp [rdash, h]
local macro_rules | `(tactic| walk_at "call type:filter") => lineM 'u' (tyE "filter" "Lr") `Mine.filt_K "kkm!" 6 true []
local macro_rules | `(tactic| walk_at "pyIter ref") => bareM 'u' `Mine.filtIter_K "km!"
local macro_rules | `(tactic| walk_at "call builtin:str.join") => lineM 'u' (biE "str.join" "sr") `Mine.join_tail "kaaaaaaaaa!" 9 true []
local macro_rules | `(tactic| walk_at "call builtin:str.replace") => lineM 'u' (biE "str.replace" "sss") `Mine.repl_K "prsdaddd!" 6 true []
local macro_rules | `(tactic| walk_at "execs cons") => return t_X
local macro_rules | `(tactic| walk_at "exec While") => return haltT
set_option maxHeartbeats 8000000 in
theorem plat_code : ∀ (w : World) (mean : ExcName → Option Value) (mg mb : Str → Option Value) (vs : List Value) (ts : List Str) (P : Addr) (ps : Array Value)
    (_ : vs.length ≤ 1000) (_ : StrsAre vs ts) (_ : ∀ y ∈ ts, y.length ≤ 100000) (_ : TriplesOk ps.toList) (_ : ts.length ≤ 1000) (_ : JoinOk (Str.ofString "-") ((ts.filter full).map Txt.strip) = true) (_ : (joined ts).length ≤ 100000)
    (dp un : Nat) (gd : Option (List Code)) (outer : List Env) (base : Heap) (s : Shared) (R : Result → Shared → Prop)
    (_ : Below { handled := none, depth := dp, frames := some outer, guards := gd, units := un } base outer (s.heap.hide P)) (_ : (hd.heap_39 w.params).In (s.heap.hide P)) (_ : Top vw lo mean mg mb (s.heap.hide P)) (_ : s.heap.get? P = some (tabObj ps)) (_ : CodeHd (s.heap.hide P) 28 P) (_ : AllBare s.gens)
    (_ : dp + 4 < recursionLimit) (_ : un + 40 < cLine)
    (_ : ∀ h' gens' dr' tk' t ps', TriplesOk ps'.toList → AllBare gens' → h'.get? P = some (tabObj ps') → (∀ b o, b ≠ P → s.heap.get? b = some o → h'.get? b = some o) → R (.ok (.ret (.str (platStr ts) t))) ⟨h', gens', dr', tk', s.os⟩),
      codeAny (model Challenge.rw_ny0082_01.row.prog w) { handled := none, depth := dp, frames := some outer, guards := gd, units := un } (.call (.ref 29) ⟨vs, []⟩) R s := by
  w_top off
  k_fill
  intro w mean mg mb vs ts P ps hlen hvs hys tri hts hjok hjl0 dp un gd outer base s R B XB TB hP hCH hG0 hdp hun hR
  (refine' enterV ?kB ?kX ?kT ?kP ?k6 ?k7 ?k8 ?k9 ?kL ?_ ?c2 ?c3 ?c4 ?c5; (case kB => assumption); (case kX => assumption); (case kT => assumption); (case kP => assumption); (case k6 => k_is); (case k7 => k_is); (case k8 => ktr_room); (case k9 => exact bindsV_of hlen rfl rfl); (case c5 => decide); (case kL => exact rfl); (case c2 => exact rfl); (case c3 => exact rfl); (case c4 => exact rfl); k_whole; intro g' D' L' h' hG F' N' hDP B' X' T'; (try dsimp only); (try k_lift B'); (try k_fold))
  k_steps
  obtain ⟨bm, ob, BM⟩ := BMod.ofTop T'
  have hPL : P ≤ L' := Nat.le_of_lt (Nat.lt_of_lt_of_le (Nat.lt_of_lt_of_eq (Heap.lt_size hP) ((hG.size.trans (Heap.hide_size _ _)).symm)) F'.above)
  have hCH' : CodeHd g' 28 P := hCH.keeps fun b o e => (hG.at_ b).trans e
  (refine' gen_whole (vs := vs) (ts := ts) (g := g') (L := L') (P := P) (c := 28) (m := fun y => List.lookup y [(Str.ofString "args", Value.ref D')]) ?g1 ?g2 ?g3 ?g4 ?g5 ?g6 ?g7 ?g8 ?g9 ?ga hCH' tri ?gb ?gc hG0 T'.nolimit hvs hys ?gi ?_; (case g1 => exact rfl); (case g2 => exact rfl); (case g3 => exact rfl); (case g4 => decide); (case g5 => exact rfl); (case g6 => exact rfl); (case g7 => exact rfl); (case g8 => ktr_room); (case g9 => exact fun _ => rfl); (case ga => exact fun _ _ => ⟨_, rfl⟩); (case gb => exact rfl); (case gc => exact BM))
  case gi =>
    k_steps
    rename News _ _ _ _ => NN
    exact ⟨_, _, _, _, rfl, by assumption, rfl, rfl, by assumption, NN, by k_mem, by k_mem, by k_mem, by k_mem⟩
  have hgP : g'.get? P = none := (N' _ (.tail _ (.head _))).2.2
  have hLP : P ≠ L' := (N' _ (.tail _ (.head _))).2.1
  intro a9 ps9 s9 ht9 G9 os9 F9 tri9 P9 X9
  have N9 : News g' L' s9.heap [] := News.nil
  have hT9 : 0 < s9.toks := Nat.lt_of_lt_of_le (Nat.succ_pos _) ht9
  have hjl : (Txt.join (Str.ofString "-") ((ts.filter full).map Txt.strip)).length ≤ 100000 := hjl0
  clear F' N'
  k_steps
  rename AllBare _ => hGB
  rename Array GenState => g9
  rename Drawn => d9
  rename_i y9 t9 k9 hk9 hy9 hl9 h1 F1 N1
  unfold Halt
  (refine' While_T (n₀ := y9.length) (fun n m₁ news₁ => news₁ = [(P, tabObj ps9)] ∧ ∃ (y : Str) (t : Tok) (mc : Str → Option Value), m₁ = (fun x => if x = Str.ofString "platform" then some (.str y t) else mc x) ∧ y.length ≤ n ∧ y.length ≤ 100000 ∧ cleanS n y = cleanS y9.length y9) F1 N1 ?w0 ?w1 ?_; (case w0 => exact Nat.succ_pos _); (case w1 => exact ⟨rfl, y9, t9, _, rfl, Nat.le_refl _, hl9, rfl⟩))
  rintro n m₁ news₁ h₁ tk₁ hpos Fw Nw ⟨rfl, y, t, mb9, rfl, hyn, hyl, hcl⟩
  clear F1 N1
  k_steps
  rotate_left
  · rename_i y8 t8 k8 hk8 hy8 hl8 h8 he8 h8' F8 N8
    have hne : Txt.replace y (Str.ofString "--") (Str.ofString "-") ≠ y := by rw [← hy8]; intro e; rw [e] at he8; simp at he8
    have hlt := replace_lt y (Str.ofString "--") (Str.ofString "-") (by decide) hne
    rw [← hy8] at hlt
    obtain ⟨k, rfl⟩ : ∃ k, n = k + 1 := Nat.exists_eq_succ_of_ne_zero (Nat.ne_of_gt (Nat.lt_of_lt_of_le (Nat.zero_lt_of_lt hlt) hyn))
    refine ⟨_, _, _, _, k, rfl, F8, N8, Nat.lt_succ_self _, rfl, y8, t8, _, rfl, Nat.le_of_lt_succ (Nat.lt_of_lt_of_le hlt hyn), hl8, ?_⟩
    rw [← hcl]
    simp only [cleanS, if_neg hne, hy8]
  rename_i y8 t8 k8 hk8 hy8 hl8 h8 F8 N8 he8
  have e8 : Txt.replace y (Str.ofString "--") (Str.ofString "-") = y := by rw [← hy8]; exact eq_of_beq he8
  rw [cleanS_same e8] at hcl
  unfold WhileStep2
  dsimp only
  intro hp8
  k_steps
  unfold Halt
  rw [swapM] at F8
  (refine' While_T (n₀ := y.length) (fun n m₁ news₁ => news₁ = [(P, tabObj ps9)] ∧ ∃ (y' : Str) (t : Tok) (mc : Str → Option Value), m₁ = (fun x => if x = Str.ofString "platform" then some (.str y' t) else mc x) ∧ y'.length = n ∧ y'.length ≤ 100000 ∧ rdash n y' = rdash y.length y) F8 N8 ?w0 ?w1 ?_; (case w0 => exact Nat.succ_pos _); (case w1 => exact ⟨rfl, y, t, _, rfl, rfl, hyl, rfl⟩))
  clear F8 N8
  rintro n7 m₇ news₇ h₇ tk₇ hpos7 F7 N7 ⟨rfl, y7, t7, mb7, rfl, hyn7, hyl7, hcl7⟩
  have hend : ∀ (tk' : Nat) (tv : Tok), rdash n7 y7 = y7 → R (.ok (.ret (.str y7 tv))) ⟨h₇, g9, d9, tk', s9.os⟩ := fun tk' tv e => by
    have e2 : y7 = platStr ts := by
      rw [← e, hcl7, hcl]
      subst_vars
      rfl
    rw [e2, os9]
    exact hR _ _ _ _ _ _ tri9 hGB (N7 _ (.head _)).1 fun b o hb eb => F7.keep b o ((hG.at_ b).trans ((Heap.hide_ne _ hb).trans eb))
  k_steps
  · rename_i hn0 _ he7 _ t5 k5 hsl h5 F5 N5
    have hl0 : y7.length ≠ 0 := by omega
    have hsl2 : (Txt.slice y7 none (some (-1))).length + 1 = y7.length := by
      have := congrArg List.length (slice_last y7 hl0)
      simp only [Array.length_toList, List.length_dropLast] at this
      show (Txt.slice y7 none (some (-1))).cps.size + 1 = y7.cps.size
      rw [show (Txt.slice y7 none (some (-1))).cps.size = y7.cps.size - 1 from this]
      exact Nat.sub_add_cancel (Nat.pos_of_ne_zero hl0)
    obtain ⟨k, rfl⟩ : ∃ k, n7 = k + 1 := Nat.exists_eq_succ_of_ne_zero (hyn7 ▸ hl0)
    refine ⟨_, _, _, _, k, rfl, F5, N5, Nat.lt_succ_self _, rfl, _, t5, _, rfl, Nat.succ.inj (hsl2.trans hyn7), Nat.le_trans (Nat.le_of_lt (Nat.lt_of_succ_le (Nat.le_of_eq hsl2))) hyl7, ?_⟩
    rw [← hcl7]
    simp only [rdash, he7, if_true]
  · rename_i hn0 _ he7 _
    exact hend _ _ (rdash_stop he7)
  · rename_i hn0 _
    have h0 : n7 = 0 := by omega
    exact hend _ _ (by rw [h0]; rfl)
end Mine
end

section
set_option maxRecDepth 100000
namespace Mine
open PySem PySem.W PySem.Calls PyProof.Rows PySem.Spec
/-- an iterator over the list D -/
structure LstIt (D : Addr) (i : Nat) (o : Obj) : Prop where
  cls : o.cls = .type "list_iterator"
  data : o.data = .fields #[.ref D, .int i 0]
/-- how a turn of a loop ends -/
noncomputable def TurnL (g : Heap) (L : Addr) (J : Shared → (Str → Option Value) → List (Addr × Obj) → Prop) (IT : Addr) (o : Obj) (R : Result → Shared → Prop) (f : Flow) (s₃ : Shared) : Prop :=
  match f with
  | .ret v => R (.ok (.ret v)) s₃
  | .brk => R (.ok .next) s₃
  | _ => ∃ m' news', J s₃ m' news' ∧ Fr g L s₃.heap m' ∧ News g L s₃.heap ((IT, o) :: news')
section
variable {prog : Program} {w : World} {A : Around} {E : Value → Shared → Prop} {s : Shared} {g : Heap} {L : Addr} {m₀ : Str → Option Value} {news₀ : List (Addr × Obj)} {R : Result → Shared → Prop} {target : Expr} {body : List Stmt} {env : Env} {D : Addr} {items : Array Value} {n : Nat}
theorem loop_list_L (J : Nat → Shared → (Str → Option Value) → List (Addr × Obj) → Prop) (hh : A.handled = none) (hmem : ∀ i s' m news, J i s' m news → (D, listOf items n) ∈ news)
    (hcls : ∀ i s' m news, J i s' m news → ∀ q ∈ news, q.2.cls ≠ .type "list_iterator" ∨ ∀ vs, q.2.data ≠ .fields vs) (hput : ∀ i s' m news h', J i s' m news → J i { s' with heap := h' } m news)
    (F : Fr g L s.heap m₀) (N : News g L s.heap news₀) (hJ : J 0 s m₀ news₀)
    (turn : ∀ i v IT o s' m news, items[i]? = some v → J i s' m news → o.cls = .type "list_iterator" → Fr g L s'.heap m → News g L s'.heap ((IT, o) :: news) →
      wpAny (model prog w) A (assign target env v) (fun _ s₂ => wpAny (model prog w) A (execs body env) (TurnL g L (J (i + 1)) IT o R) (fun _ _ => False) s₂) (fun _ _ => False) s')
    (done : ∀ s' m news, J items.size s' m news → Fr g L s'.heap m → News g L s'.heap news → R (.ok .next) s')
    (ht : ∀ v, letOwnedTupleGo target (.ref s.heap.objs.size) v = pure () := by intro _; rfl) :
    wpAny (model prog w) A (pyIter (.ref D)) (fun it s₂ => codeAny (model prog w) A (.forLoop target it body [] env) R s₂) E s := by
  have lst : ∀ {i s' m news}, J i s' m news → News g L s'.heap news → s'.heap.IsList D items := fun hJ N => ⟨_, (N _ (hmem _ _ _ _ hJ)).1, rfl, _, rfl⟩
  refine wpAny_pyIter_list (lst hJ N) ?_
  have hIL : s.heap.objs.size ≠ L := Nat.ne_of_gt F.ns.lt
  have hIg : g.get? s.heap.objs.size = none := news_fresh F (Nat.le_refl _)
  refine codeAny_forLoop (fun k s' => ∃ i o m news, i ≤ items.size ∧ k = items.size + 1 - i ∧ LstIt D i o ∧ J i s' m news ∧ Fr g L s'.heap m ∧ News g L s'.heap ((s.heap.objs.size, o) :: news)) ?_ (items.size + 1)
    ⟨0, { cls := .type "list_iterator", data := .fields #[.ref D, .int 0 0] }, m₀, news₀, Nat.zero_le _, rfl, ⟨rfl, rfl⟩, hput _ _ _ _ _ hJ, F.push _, ?_⟩ ht
  · rintro k s' ⟨i, o, m, news, hi, rfl, ho, hJi, F', N'⟩
    have N1 : News g L s'.heap news := fun q hq => N' q (.tail _ hq)
    have hIt : s'.heap.IsListIter s.heap.objs.size D i := ⟨o, (N' _ (.head _)).1, ho.cls, ho.data⟩
    have hne : ∀ q ∈ news, q.1 ≠ s.heap.objs.size := fun q hq e => by
      have h1 := (N1 q hq).1
      rw [e, (N' _ (.head _)).1] at h1
      rcases hcls _ _ _ _ hJi q hq with z | z
      · exact z (by rw [← Option.some.inj h1]; exact ho.cls)
      · exact z _ (by rw [← Option.some.inj h1]; exact ho.data)
    by_cases hlt : i < items.size
    · refine wpAny_pyNext_list_item hIt (lst hJi N1) (Array.getElem?_eq_getElem hlt) fun h₁ hit₁ hs₁ => ?_
      obtain ⟨o₁, e₁, c₁, d₁⟩ := hit₁
      have F₁ : Fr g L h₁ m := ⟨F'.ns.at' fun o e => hs₁.extBut _ _ (Ne.symm hIL) e, fun b o e => hs₁.extBut _ _ (fun q => by rw [q, hIg] at e; cases e) (F'.keep b o e), F'.above⟩
      have N₁ : News g L h₁ ((s.heap.objs.size, o₁) :: news) := fun q hq => by
        rcases List.mem_cons.mp hq with rfl | hq
        · exact ⟨e₁, hIL, hIg⟩
        · exact ⟨hs₁.extBut _ _ (hne q hq) (N1 q hq).1, (N1 q hq).2⟩
      refine wpAny_mono (turn i _ _ o₁ { s' with heap := h₁ } m news (Array.getElem?_eq_getElem hlt) (hput _ _ _ _ _ hJi) c₁ F₁ N₁) (fun _ s₂ h₂ => wpAny_mono h₂ (fun f s₃ h₃ => ?_) fun _ _ e => e.elim) fun _ _ e => e.elim
      cases f with
      | ret v => exact h₃
      | brk => exact h₃
      | next =>
        obtain ⟨m', news', J₃, F₃, N₃⟩ := h₃
        exact ⟨items.size + 1 - (i + 1), turn_less hlt, i + 1, o₁, m', news', hlt, rfl, ⟨c₁, d₁⟩, J₃, F₃, N₃⟩
      | cont =>
        obtain ⟨m', news', J₃, F₃, N₃⟩ := h₃
        exact ⟨items.size + 1 - (i + 1), turn_less hlt, i + 1, o₁, m', news', hlt, rfl, ⟨c₁, d₁⟩, J₃, F₃, N₃⟩
    · have hin : i = items.size := by omega
      subst hin
      refine wpAny_pyNext_list_end hh hIt (lst hJi N1) (Array.getElem?_eq_none (Nat.le_refl _)) fun h₁ hs₁ => wpAny_execs_nil ?_
      exact done { s' with heap := h₁ } m news (hput _ _ _ _ _ hJi) ⟨F'.ns.at' fun o e => hs₁ _ _ (Ne.symm hIL) e, fun b o e => hs₁ _ _ (fun q => by rw [q, hIg] at e; cases e) (F'.keep b o e), F'.above⟩ (fun q hq => ⟨hs₁ _ _ (hne q hq) (N1 q hq).1, (N1 q hq).2⟩)
  · intro q hq
    rcases List.mem_cons.mp hq with rfl | hq
    · exact ⟨Heap.get?_push_size _ rfl, hIL, hIg⟩
    · exact ⟨Heap.get?_push_of_some _ (N q hq).1, (N q hq).2⟩
end
end Mine
end

section
set_option maxRecDepth 100000
namespace Mine
open PySem PySem.W PySem.Calls PyProof.Rows PySem.Spec
theorem mapAt {m : Str → Option Value} {x : Str} {v : Option Value} (h : m x = v) : m = fun y => if y = x then v else m y := by
  funext y
  by_cases e : y = x
  · rw [if_pos e, e, h]
  · rw [if_neg e]
theorem tuple_ne : Value.type "tuple" ≠ Value.type "list" := by decide
theorem iterv_ne : Value.type "list_iterator" ≠ Value.type "list" := by decide
theorem tuple_it : Value.type "tuple" ≠ Value.type "list_iterator" := by decide
/-- one object of the ledger changed; the others are told apart by place or by kind -/
inductive UpdS (d : Addr) (o o' : Obj) : List (Addr × Obj) → List (Addr × Obj) → Prop
  | head {r} : (∀ p ∈ r, p.1 ≠ d ∨ p.2.cls ≠ o.cls) → UpdS d o o' ((d, o) :: r) ((d, o') :: r)
  | tail {p r r'} : (p.1 ≠ d ∨ p.2.cls ≠ o.cls) → UpdS d o o' r r' → UpdS d o o' (p :: r) (p :: r')
theorem UpdS.mem {d : Addr} {o o' : Obj} {l l' : List (Addr × Obj)} (h : UpdS d o o' l l') : (d, o) ∈ l := by
  induction h with
  | head _ => exact .head _
  | tail _ _ ih => exact .tail _ ih
theorem UpdS.back {d : Addr} {o o' : Obj} {l l' : List (Addr × Obj)} (h : UpdS d o o' l l') : ∀ q ∈ l', q = (d, o') ∨ (q ∈ l ∧ (q.1 ≠ d ∨ q.2.cls ≠ o.cls)) := by
  induction h with
  | head a =>
    intro q hq
    rcases List.mem_cons.mp hq with rfl | hq
    · exact .inl rfl
    · exact .inr ⟨.tail _ hq, a q hq⟩
  | tail a _ ih =>
    intro q hq
    rcases List.mem_cons.mp hq with rfl | hq
    · exact .inr ⟨.head _, a⟩
    · rcases ih q hq with e | ⟨e1, e2⟩
      · exact .inl e
      · exact .inr ⟨.tail _ e1, e2⟩
theorem rest_ne {rest : List (Addr × Obj)} {d : Addr} (h : ∀ q ∈ rest, q.2.cls = .type "tuple") : ∀ p ∈ rest, p.1 ≠ d ∨ p.2.cls ≠ Value.type "list" := fun p hp => .inr (by rw [h p hp]; exact tuple_ne)
theorem iter_ne {o : Obj} (h : o.cls = .type "list_iterator") : o.cls ≠ Value.type "list" := by rw [h]; exact iterv_ne
noncomputable abbrev Tri := UInt64 × UInt64 × UInt64
/-- a row of colours, told by tuples of the ledger -/
inductive RowIs (P : Addr × Obj → Prop) : List Value → List Tri → Prop where
  | nil : RowIs P [] []
  | cons {D : Addr} {x y z : UInt64} {t u v : Tok} {vs : List Value} {cs : List Tri} : P (D, tupF x y z t u v) → 0 < t → 0 < u → 0 < v → RowIs P vs cs → RowIs P (.ref D :: vs) ((x, y, z) :: cs)
theorem RowIs.mono {P Q : Addr × Obj → Prop} {vs : List Value} {cs : List Tri} (h : RowIs P vs cs) (hs : ∀ p, P p → Q p) : RowIs Q vs cs := by
  induction h with
  | nil => exact .nil
  | cons a p1 p2 p3 _ ih => exact .cons (hs _ a) p1 p2 p3 ih
theorem RowIs.snoc {P : Addr × Obj → Prop} {vs : List Value} {cs : List Tri} (h : RowIs P vs cs) {D : Addr} {x y z : UInt64} {t u v : Tok} (hp : P (D, tupF x y z t u v)) (p1 : 0 < t) (p2 : 0 < u) (p3 : 0 < v) : RowIs P (vs ++ [.ref D]) (cs ++ [(x, y, z)]) := by
  induction h with
  | nil => exact .cons hp p1 p2 p3 .nil
  | cons a q1 q2 q3 _ ih => exact .cons a q1 q2 q3 ih
theorem RowIs.len {P : Addr × Obj → Prop} {vs : List Value} {cs : List Tri} (h : RowIs P vs cs) : vs.length = cs.length := by
  induction h with
  | nil => rfl
  | cons _ _ _ _ _ ih => simp [ih]
section
variable {prog : Program} {w : World} {A : Around} {E : Value → Shared → Prop} {s : Shared} {h₀ : Heap} {L D : Addr} {m : Str → Option Value} {news news' : List (Addr × Obj)}
/-- a list of the ledger grown by one -/
theorem append_S {its : Array Value} {n : Nat} {x : Value} {Q : Value → Shared → Prop} (F : Fr h₀ L s.heap m) (N : News h₀ L s.heap news) (U : UpdS D (W.listOf its n) (W.listOf (its.push x) (n + 1)) news news') (hsz : its.size ≤ 100000)
    (h : ∀ h', Fr h₀ L h' m → News h₀ L h' news' → Q .none { s with heap := h' }) : wpAny (model prog w) A (call (.builtin "list.append") [.ref D, x]) Q E s := by
  have z := N _ U.mem
  refine append_at (hsz := Nat.le_trans hsz (by size_fits)) z.1 fun h' hs ho' => h h' (F.change hs z.2.1 z.2.2) fun q hq => ?_
  rcases U.back q hq with rfl | ⟨hm, hne⟩
  · exact ⟨ho', z.2⟩
  · have zq := N q hm
    have hqD : q.1 ≠ D := by
      rcases hne with e | e
      · exact e
      · intro e2
        apply e
        have := zq.1
        rw [e2, z.1] at this
        rw [← Option.some.inj this]
    exact ⟨(hs.2 _ hqD).trans zq.1, zq.2⟩
/-- a text cut in three -/
theorem split3_K {x y x1 x2 x3 : Str} {t u : Tok} {Q : Value → Shared → Prop} (F : Fr h₀ L s.heap m) (N : News h₀ L s.heap news) (hy : (y.length == 0) = false) (hsp : Txt.split x y = [x1, x2, x3]) (hx : x.length ≤ 100000)
    (h : ∀ D t1 t2 t3 h' k, Fr h₀ L h' m → News h₀ L h' ((D, W.listOf #[.str x1 t1, .str x2 t2, .str x3 t3] 0) :: news) → (∀ p ∈ news, p.1 < D) → Q (.ref D) { s with heap := h', toks := k }) :
    wpAny (model prog w) A (call (.builtin "str.split") [.str x t, .str y u]) Q E s := by
  refine splitN1A (hsz := Nat.le_trans (Nat.add_le_add_right hx 2) (by size_fits)) F N hy fun l h' k e _ _ _ F' N' => ?_
  rw [hsp] at e
  match l, e with
  | [a, b, c], e =>
    simp only [List.map_cons, List.map_nil, List.cons.injEq, and_true] at e
    obtain ⟨rfl, rfl, rfl⟩ := e
    exact h _ a.2 b.2 c.2 h' k F' N' fun p hp => Heap.lt_size (N p hp).1
end
end Mine
end

section
set_option maxRecDepth 100000
namespace Mine
open PySem PySem.W PySem.Calls PyProof.Rows PySem.Spec
section
variable {w : World} {E : Value → Shared → Prop} {s : Shared} {base g : Heap} {outer : List Env} {L a₀ : Addr} {m : Str → Option Value} {name : Str} {scope : Scope} {cd : Value}
  {mean : ExcName → Option Value} {mg mb : Str → Option Value} {news : List (Addr × Obj)} {Q : Value → Shared → Prop} {dp un : Nat} {gd : Option (List Code)}
theorem up_K {h' : Heap} {o : Obj} {D : Addr} (F : Fr g L s.heap m) (N : News g L s.heap news) (hup : ∀ b o, s.heap.get? b = some o → h'.get? b = some o) (hn : s.heap.get? D = none) (hD : h'.get? D = some o) : Fr g L h' m ∧ News g L h' ((D, o) :: news) := by
  refine ⟨F.keeps hup, fun q hq => ?_⟩
  rcases List.mem_cons.mp hq with rfl | hq
  · refine ⟨hD, fun e => ?_, ?_⟩
    · obtain ⟨o2, _, _, ho, _⟩ := F.ns
      have e' : D = L := e
      rw [← e', hn] at ho; cases ho
    · cases e : g.get? D with
      | none => rfl
      | some o2 => rw [F.keep _ _ e] at hn; cases hn
  · exact ⟨hup _ _ (N q hq).1, (N q hq).2⟩
theorem hsvg_K {c : UInt64} {t1 t2 t3 : Tok} (K : Below { handled := none, depth := dp, frames := some outer, guards := gd, units := un } base outer g) (F : Fr g L s.heap m) (N : News g L s.heap news)
    (X : (hd.heap_39 w.params).In g) (T : Top vw lo mean mg mb g) (hk : scope.kind = .function) (hdp : dp + 5 < recursionLimit) (hun : un + 43 < cLine)
    (ht : 0 < t3)
    (h : ∀ D h' tk t u v, Fr g L h' m → News g L h' ((D, tupF c c c t u v) :: news) → 0 < t → 0 < u → 0 < v → Q (.ref D) { s with heap := h', toks := tk }) :
    wpAny (model Challenge.rw_ny0082_01.row.prog w) (Around.deeper { handled := none, depth := dp, frames := some outer, guards := gd, units := un } (envOf name scope L a₀ cd)) (call (.ref 43) [.int 0 t1, .int 0 t2, .float c t3]) Q E s := by
  refine wpAny_call (hsvg_code w mean mg mb c t1 t2 t3 ht (dp + 1) (un + 3) gd (envOf name scope L a₀ cd :: outer) base s _ (K.push F hk) (X.keeps F.keep) (T.keeps F.keep) (by omega) (by omega) fun D h' tk t u v hup hn hD p1 p2 p3 => ?_)
  have z := up_K F N hup hn hD
  exact h D h' tk t u v z.1 z.2 p1 p2 p3
theorem hsv_K {a b c : UInt64} {t1 t2 t3 : Tok} (K : Below { handled := none, depth := dp, frames := some outer, guards := gd, units := un } base outer g) (F : Fr g L s.heap m) (N : News g L s.heap news)
    (X : (hd.heap_39 w.params).In g) (T : Top vw lo mean mg mb g) (hk : scope.kind = .function) (hdp : dp + 5 < recursionLimit) (hun : un + 43 < cLine)
    (ht : 0 < t3) (h1 : (Float64.cmp b 0 == some Ordering.eq) = false) (h2 : Float64.isFinite (Float64.mul a 4618441417868443648) = true) (h3 : (hI a).natAbs < 2 ^ 1024 - 2 ^ 970)
    (h : ∀ D h' tk t u v, Fr g L h' m → News g L h' ((D, tupF (hsvOut a b c).1 (hsvOut a b c).2.1 (hsvOut a b c).2.2 t u v) :: news) → 0 < t → 0 < u → 0 < v → Q (.ref D) { s with heap := h', toks := tk }) :
    wpAny (model Challenge.rw_ny0082_01.row.prog w) (Around.deeper { handled := none, depth := dp, frames := some outer, guards := gd, units := un } (envOf name scope L a₀ cd)) (call (.ref 43) [.float a t1, .float b t2, .float c t3]) Q E s := by
  refine wpAny_call (hsv_code w mean mg mb a b c t1 t2 t3 ht h1 h2 h3 (dp + 1) (un + 3) gd (envOf name scope L a₀ cd :: outer) base s _ (K.push F hk) (X.keeps F.keep) (T.keeps F.keep) (by omega) (by omega) fun D h' tk t u v hup hn hD p1 p2 p3 => ?_)
  have z := up_K F N hup hn hD
  exact h D h' tk t u v z.1 z.2 p1 p2 p3
end
/-- one int by another -/
noncomputable def fr (n d : Int) : UInt64 := Float64.ofFrac (decide (n < 0) != decide (d < 0)) n.natAbs d.natAbs
/-- what a piece of a name is read as -/
inductive PieceOk : Str → Option Tri → Prop where
  | nil : PieceOk (Str.ofString "") none
  | grey {y : Str} {d : Int} : (Txt.slice y none (some 1) == Str.ofString "_") = true → PySem.intText? (Txt.slice y (some (-1)) none) = some d → 0 ≤ d → d < 9 → PieceOk y (some (fr d 8, fr d 8, fr d 8))
  | word {y x1 x2 x3 : Str} {a b c : Int} : (Txt.slice y none (some 1) == Str.ofString "_") = false → (y != Str.ofString "") = true → Txt.split y (Str.ofString ".") = [x1, x2, x3] → PySem.intText? x1 = some a → PySem.intText? x2 = some b → PySem.intText? x3 = some c →
      0 ≤ a → a < 96 → 0 < b → b < 9 → 0 ≤ c → c < 9 → x1.length ≤ 640 → x2.length ≤ 640 → x3.length ≤ 640 → PieceOk y (some (hsvOut (fr a 96) (fr b 8) (fr c 8)))
end Mine
end

section
set_option maxRecDepth 100000
namespace Mine
open PySem PySem.W
theorem fr_nat (n : Nat) (d : Nat) : fr (n : Int) (d : Int) = Float64.ofFrac false n d := by
  unfold fr
  have e1 : decide ((n : Int) < 0) = false := decide_eq_false (by omega)
  have e2 : decide ((d : Int) < 0) = false := decide_eq_false (by omega)
  rw [e1, e2]; rfl
theorem fr_toNat {a : Int} (h : 0 ≤ a) (d : Nat) : fr a (d : Int) = Float64.ofFrac false a.toNat d := by
  obtain ⟨n, rfl⟩ : ∃ n : Nat, a = n := ⟨a.toNat, by omega⟩
  rw [fr_nat]; rfl
theorem t8_inf : ∀ n : Fin 9, Float64.isInf (Float64.ofFrac false n.val 8) = false := by decide +kernel
theorem t8_nz : ∀ n : Fin 9, n.val ≠ 0 → (Float64.cmp (Float64.ofFrac false n.val 8) 0 == some Ordering.eq) = false := by decide +kernel
theorem t96_inf : ∀ n : Fin 96, Float64.isInf (Float64.ofFrac false n.val 96) = false := by decide +kernel
theorem t96_fin : ∀ n : Fin 96, Float64.isFinite (Float64.mul (Float64.ofFrac false n.val 96) 4618441417868443648) = true := by decide +kernel
theorem t96_hI : ∀ n : Fin 96, hI (Float64.ofFrac false n.val 96) = ((n.val / 16 : Nat) : Int) := by decide +kernel
theorem fr8_inf {d : Int} (h0 : 0 ≤ d) (h1 : d < 9) : Float64.isInf (fr d 8) = false := by
  rw [show (8 : Int) = ((8 : Nat) : Int) from rfl, fr_toNat h0]; exact t8_inf ⟨d.toNat, by omega⟩
theorem fr8_nz {d : Int} (h0 : 0 < d) (h1 : d < 9) : (Float64.cmp (fr d 8) 0 == some Ordering.eq) = false := by
  rw [show (8 : Int) = ((8 : Nat) : Int) from rfl, fr_toNat (by omega)]; exact t8_nz ⟨d.toNat, by omega⟩ (by show d.toNat ≠ 0; omega)
theorem fr96_inf {d : Int} (h0 : 0 ≤ d) (h1 : d < 96) : Float64.isInf (fr d 96) = false := by
  rw [show (96 : Int) = ((96 : Nat) : Int) from rfl, fr_toNat h0]; exact t96_inf ⟨d.toNat, by omega⟩
theorem fr96_fin {d : Int} (h0 : 0 ≤ d) (h1 : d < 96) : Float64.isFinite (Float64.mul (fr d 96) 4618441417868443648) = true := by
  rw [show (96 : Int) = ((96 : Nat) : Int) from rfl, fr_toNat h0]; exact t96_fin ⟨d.toNat, by omega⟩
theorem fr96_hI {d : Int} (h0 : 0 ≤ d) (h1 : d < 96) : hI (fr d 96) = ((d.toNat / 16 : Nat) : Int) := by
  rw [show (96 : Int) = ((96 : Nat) : Int) from rfl, fr_toNat h0]; exact t96_hI ⟨d.toNat, by omega⟩
theorem fr96_ov {d : Int} (h0 : 0 ≤ d) (h1 : d < 96) : (hI (fr d 96)).natAbs < 2 ^ 1024 - 2 ^ 970 := by
  rw [fr96_hI h0 h1]
  have : d.toNat / 16 < 6 := by omega
  exact Nat.lt_of_lt_of_le (show _ < 6 from this) (by decide)
end Mine
end

section
set_option maxRecDepth 100000
namespace Mine
open PySem PySem.W PySem.Calls PyProof.Rows PySem.Spec
theorem div8_K {prog : Program} {w : World} {A : Around} {E : Value → Shared → Prop} {s : Shared} {Q : Value → Shared → Prop} {d : Int} {t u : Tok} (h0 : 0 ≤ d) (h1 : d < 9) (h : Q (.float (fr d 8) s.toks) { s with toks := s.toks + 1 }) : wpAny (model prog w) A (binaryOp .Div (.int d t) (.int 8 u)) Q E s :=
  AutoIntOps.truediv_2 (by decide) (fun e => Bool.noConfusion ((fr8_inf h0 h1).symm.trans e)) h
theorem div96_K {prog : Program} {w : World} {A : Around} {E : Value → Shared → Prop} {s : Shared} {Q : Value → Shared → Prop} {d : Int} {t u : Tok} (h0 : 0 ≤ d) (h1 : d < 96) (h : Q (.float (fr d 96) s.toks) { s with toks := s.toks + 1 }) : wpAny (model prog w) A (binaryOp .Div (.int d t) (.int 96 u)) Q E s :=
  AutoIntOps.truediv_2 (by decide) (fun e => Bool.noConfusion ((fr96_inf h0 h1).symm.trans e)) h
local macro_rules | `(tactic| walk_at "execs cons") => return foldT
local macro_rules | `(tactic| walk_at "binaryOp Div int int") => lineM 'd' (e_div 8) `Mine.div8_K "la!" 0 true []
local macro_rules | `(tactic| walk_at "binaryOp Div int int") => lineM 'd' (e_div 96) `Mine.div96_K "aa!" 0 true []
local macro_rules | `(tactic| walk_at "exec For Name Call cons nil") => return haltT
local macro_rules | `(tactic| walk_at "call builtin:str.split") => do return thenT (← lineM 'u' (biE "str.split" "ss") `Mine.split3_K "kkdaa!" 8 true []) (← ltM)
local macro_rules | `(tactic| walk_at "call ref") => lineM ' ' (reE 43 "iif") `Mine.hsvg_K "akkaaroos!" 11 true []
local macro_rules | `(tactic| walk_at "call ref") => lineM ' ' (reE 43 "fff") `Mine.hsv_K "akkaaroos567!" 11 true []
local macro_rules | `(tactic| walk_at "call type:int") => lineM ' ' (tyE "int" "s") `KIN.call_text "wt!" 0 false []
local macro_rules | `(tactic| k_ne) => return neT false false
local macro_rules | `(tactic| k_all) => allM false
local macro_rules | `(tactic| k_upd) => updM
local macro_rules | `(tactic| walk_at "call builtin:list.append") => lineM 'd' (callE e_bA "r_") `Mine.append_S "ffuw!" 3 true []
local macro_rules | `(tactic| walk_at "CompEnd") => ruleM `LCg.CompEnd.intro "aa_hV8!" [3, 0, 1, 4, 5] t_l
/-- what stands between two turns of the reading loop -/
structure ReadJ (s : Shared) (g : Heap) (L ROW SP : Addr) (sp : Array Value) (n₀ : Nat) (cs : List Tri) (s' : Shared) (m : Str → Option Value) (news : List (Addr × Obj)) : Prop where
  st : ∃ h tk, s' = { s with heap := h, toks := tk }
  row : m (Str.ofString "row") = some (.ref ROW)
  led : ∃ its n rest, news = (ROW, W.listOf its n) :: (SP, W.listOf sp n₀) :: rest ∧ (∀ q ∈ rest, q.2.cls = .type "tuple") ∧ RowIs (· ∈ rest) its.toList cs
theorem read_end {s : Shared} {g : Heap} {L ROW SP IT D : Addr} {sp its : Array Value} {n n₀ tk : Nat} {cs : List Tri} {o : Obj} {rest all : List (Addr × Obj)} {x y z : UInt64} {t u v : Tok} {m : Str → Option Value} {h : Heap} {R : Result → Shared → Prop}
    (hri : RowIs (· ∈ rest) its.toList cs) (hcls : ∀ q ∈ rest, q.2.cls = .type "tuple") (hrow : m (Str.ofString "row") = some (.ref ROW)) (F : Fr g L h m) (N : News g L h all)
    (h1 : (IT, o) ∈ all) (h2 : (ROW, W.listOf (its.push (.ref D)) (n + 1)) ∈ all) (h3 : (SP, W.listOf sp n₀) ∈ all) (h4 : (D, tupF x y z t u v) ∈ all) (h5 : ∀ q ∈ rest, q ∈ all) (p1 : 0 < t) (p2 : 0 < u) (p3 : 0 < v) :
    TurnL g L (fun s' m news => ReadJ s g L ROW SP sp n₀ (cs ++ (some (x, y, z)).toList) s' m news) IT o R .next { s with heap := h, toks := tk } := by
  refine ⟨m, (ROW, W.listOf (its.push (.ref D)) (n + 1)) :: (SP, W.listOf sp n₀) :: (D, tupF x y z t u v) :: rest, ⟨⟨_, _, rfl⟩, hrow, _, _, _, rfl, List.forall_mem_cons.mpr ⟨rfl, hcls⟩, ?_⟩, F, fun q hq => N q ?_⟩
  · rw [Array.toList_push]; exact (hri.mono fun _ hp => .tail _ hp).snoc (.head _) p1 p2 p3
  · rcases List.mem_cons.mp hq with rfl | hq
    · exact h1
    · rcases List.mem_cons.mp hq with rfl | hq
      · exact h2
      · rcases List.mem_cons.mp hq with rfl | hq
        · exact h3
        · rcases List.mem_cons.mp hq with rfl | hq
          · exact h4
          · exact h5 q hq
set_option maxHeartbeats 8000000 in
theorem read_code : ∀ (w : World) (mean : ExcName → Option Value) (mg mb : Str → Option Value) (a : Str) (t1 : Tok) (ys : List Str) (os : List (Option Tri))
    (_ : a.length ≤ 10000) (_ : ∀ y ∈ ys, y.length ≤ 640) (_ : Txt.split a (Str.ofString "-") = ys) (_ : ys.length ≤ 1000) (_ : os.length = ys.length) (_ : ∀ (i : Nat) y o, ys[i]? = some y → os[i]? = some o → PieceOk y o)
    (dp un : Nat) (gd : Option (List Code)) (outer : List Env) (base : Heap) (s : Shared) (R : Result → Shared → Prop)
    (_ : Below { handled := none, depth := dp, frames := some outer, guards := gd, units := un } base outer s.heap) (_ : (hd.heap_39 w.params).In s.heap) (_ : Top vw lo mean mg mb s.heap)
    (_ : dp + 10 < recursionLimit) (_ : un + 60 < cLine)
   (_ : ∀ D h' tk' its n, (∀ b o, s.heap.get? b = some o → h'.get? b = some o) → h'.get? D = some (W.listOf its n) → RowIs (fun q => h'.get? q.1 = some q.2) its.toList (os.filterMap id) → R (.ok (.ret (.ref D))) { s with heap := h', toks := tk' }),
      codeAny (model Challenge.rw_ny0082_01.row.prog w) { handled := none, depth := dp, frames := some outer, guards := gd, units := un } (.call (.ref 62) ⟨[.str a t1], []⟩) R s := by
  w_top off
  k_fill
  intro w mean mg mb a t1 ys os ha hy640 hsp hysl hlen hok dp un gd outer base s R B KI T hdp hun hR
  (refine' enterP (binds := [(Str.ofString "name", .str a t1)]) ?kB ?kX ?kT ?k6 ?k7 ?k8 ?k9 ?kL ?_ ?c2 ?c3 ?c4 ?c5; (case kB => assumption); (case kX => exact KI); (case kT => exact T); (case k6 => k_is); (case k7 => k_is); (case k8 => ktr_room); (case k9 => first | exact BindsTo.of_eq rfl | exact binds_K KI rfl (by k_is) rfl rfl rfl); (case c5 => decide); (case kL => exact locs rfl); (case c2 => exact rfl); (case c3 => exact rfl); (case c4 => exact rfl); k_whole; intro g' L' h' hG F' N' B' X' T'; clear KI T; (try dsimp only); (try k_lift B'); (try k_fold))
  k_steps
  unfold Halt
  refine wpAny_For ?_ (by intro _; rfl)
  k_steps
  dsimp only
  rename_i tk0 ROW h0 l10 h1 F1 N1 l h2 tk2 hl1 hl2 hl3 hl4 F2 N2
  generalize hSP : h1.objs.size = SP at *
  have hys : StrsAre (strValues l) ys := by rw [← hsp, ← hl1]; exact hl2
  have hRS : ROW < SP := by rw [← hSP]; exact Heap.lt_size (N1 _ (.head _)).1
  have N2' : News g' L' h2 [(ROW, W.listOf #[] 0), (SP, W.listOf (strValues l).toArray 0)] := fun q hq => N2 q (by rcases List.mem_cons.mp hq with rfl | hq; exact .tail _ (.head _); rcases List.mem_singleton.mp hq with rfl; rw [← hSP]; exact .head _)
  refine loop_list_L (items := (strValues l).toArray) (n := 0) (fun i s' m news => ReadJ s g' L' ROW SP (strValues l).toArray 0 ((os.take i).filterMap id) s' m news) rfl ?_ ?_ ?_ F2 N2' ?_ ?_ ?_
  · rintro i s' m news ⟨_, _, its, n, rest, rfl, _, _⟩; exact .tail _ (.head _)
  · rintro i s' m news ⟨_, _, its, n, rest, rfl, hc, _⟩ q hq
    rcases List.mem_cons.mp hq with rfl | hq
    · exact .inl (by decide : Value.type "list" ≠ .type "list_iterator")
    · rcases List.mem_cons.mp hq with rfl | hq
      · exact .inl (by decide : Value.type "list" ≠ .type "list_iterator")
      · left; rw [hc q hq]; exact tuple_it
  · rintro i s' m news h' ⟨⟨h, tk, rfl⟩, hrow, hled⟩; exact ⟨⟨h', tk, rfl⟩, hrow, hled⟩
  · exact ⟨⟨_, _, rfl⟩, rfl, #[], 0, [], rfl, fun _ hq => (nomatch hq), .nil⟩
  · rintro i v IT o s' m news hv ⟨⟨h, tk, rfl⟩, hrow, its, n, rest, rfl, hcls, hri⟩ ho F3 N3
    clear F1 N1 F2 N2 N2'
    have hi : i < ys.length := by
      have h1 := hys.len_eq
      have h2 := (Array.getElem?_eq_some_iff.mp hv).1
      simp only [List.size_toArray] at h2
      omega
    obtain ⟨y, hy⟩ : ∃ y, ys[i]? = some y := ⟨_, List.getElem?_eq_getElem hi⟩
    obtain ⟨oi, hoi⟩ : ∃ y, os[i]? = some y := ⟨_, List.getElem?_eq_getElem (by omega)⟩
    have hp := hok i y oi hy hoi
    obtain ⟨t, ht⟩ := hys.at hy
    have hvt : v = .str y t := by
      rw [List.getElem?_toArray, ht] at hv
      exact (Option.some.inj hv).symm
    subst hvt
    have hyl : y.length ≤ 640 := hy640 y (List.mem_of_getElem? hy)
    have hyl2 : y.length ≤ 100000 := by omega
    rw [mapAt hrow] at F3
    have hsn : (os.take (i + 1)).filterMap id = (os.take i).filterMap id ++ (oi.toList) := by
      rw [List.take_add_one, hoi, List.filterMap_append]
      cases oi <;> rfl
    rw [hsn]
    have hits : its.size ≤ 100000 := by
      have h1 := hri.len
      have h2 := List.length_filterMap_le id (os.take i)
      simp only [Array.length_toList, List.length_take] at h1 h2
      omega
    clear hv ht hok hy hoi hys
    cases hp with
    | nil =>
      k_steps
      with_reducible rename Fr _ _ _ _ => FF
      with_reducible rename News _ _ _ _ => NN
      refine ⟨_, _, ⟨⟨_, _, rfl⟩, rfl, its, n, rest, rfl, hcls, ?_⟩, FF, NN⟩
      simpa using hri
    | grey e1 e2 e3 e4 => 
      k_steps
      all_goals first
        | ((with_reducible rename Fr _ _ _ _ => FF); (with_reducible rename News _ _ _ _ => NN); exact read_end hri hcls rfl FF NN (by k_mem) (by k_mem) (by k_mem) (by k_mem) (fun q hq => by repeat (first | exact hq | refine List.Mem.tail _ ?_)) (by assumption) (by assumption) (by assumption))
    | word e1 e2 e3 e4 e5 e6 e7 e8 e9 =>
      k_steps
      all_goals first
        | ((with_reducible rename Fr _ _ _ _ => FF); (with_reducible rename News _ _ _ _ => NN); exact read_end hri hcls rfl FF NN (by k_mem) (by k_mem) (by k_mem) (by k_mem) (fun q hq => by repeat (first | exact hq | refine List.Mem.tail _ ?_)) (by assumption) (by assumption) (by assumption))
  · rintro s' m news ⟨⟨h, tk, rfl⟩, hrow, its, n, rest, rfl, hcls, hri⟩ F3 N3
    rw [mapAt hrow] at F3
    show wpAny _ _ (execs _ _) _ _ _
    clear F1 N1 F2 N2 N2'
    k_steps
    with_reducible rename Fr _ _ _ _ => FF
    with_reducible rename News _ _ _ _ => NN
    have e : os.take (strValues l).toArray.size = os := List.take_of_length_le (by have := hys.len_eq; simp only [List.size_toArray]; omega)
    rw [e] at hri
    exact hR _ _ _ _ _ (fun b o e => FF.keep b o ((hG.at_ b).trans e)) (NN _ (.head _)).1 (hri.mono fun q hq => (NN q (.tail _ (.tail _ hq))).1)
end Mine
end

section
set_option maxRecDepth 100000
set_option maxHeartbeats 1000000
open PySem PySem.W PySem.Calls PyProof.Rows PySem.Spec
namespace Mine
theorem plat_any : (recsOf Mine.hd.view_39).any (fun d => d.name == Str.ofString "_platform") = true := by decide +kernel
theorem plat_tab {w : World} {loose : List Str} {mean : ExcName → Option Value} {mg mb : Str → Option Value} {h : Heap} (T : Top Mine.hd.view_39 loose mean mg mb h) (KX : (Mine.hd.heap_39 w.params).In h) : h.get? 24 = some (tabObj #[]) := by
  obtain ⟨d, hd, hn⟩ := List.any_eq_true.mp plat_any
  have hn : d.name = Str.ofString "_platform" := eq_of_beq hn
  obtain ⟨a, o, fd, c, P, h1, h2, h3, h4, h5, h6⟩ := T.tab d hd
  rw [hn] at h1
  have e := law_code (x := Str.ofString "_platform") (c := 28) (P := 24) KX T.g (by kernel_rfl) h1 h2 h3
  rw [h4] at e
  cases e
  have CH : CodeHd h 28 24 := codeHd_of_K KX (by kernel_rfl)
  obtain ⟨o1, vs, file, tf, flags, tg, inF, text, tt, e1, _, e3, _, e5, _⟩ := CH
  obtain ⟨o2, vs2, _, _, _, _, _, _, _, op, f1, f2, f3, _⟩ := h5
  rw [e1] at f1; cases f1
  rw [e3] at f2; cases f2
  rw [e5] at f3; cases f3
  exact h6.2
theorem no_imp : importsNone Mine.hd.view_39 = true := by decide +kernel
theorem names_in : ((looseW Mine.hd.view_39 [Str.ofString "_norm_version"]) ++ (recsOf Mine.hd.view_39).map (·.name) ++ (litsOf Mine.hd.view_39).map (·.1) ++ (clssOf Mine.hd.view_39 (looseW Mine.hd.view_39 [Str.ofString "_norm_version"])).map (·.name)).all (fun x => lo.contains x) = true := by decide +kernel
theorem in_hide {w : World} {h : Heap} (KX : (Mine.hd.heap_39 w.params).In h) : (Mine.hd.heap_39 w.params).In (h.hide 24) := by
  intro a o e
  by_cases ha : a = 24
  · subst ha
    have : (Mine.hd.heap_39 w.params).lookup 24 = none := by kernel_rfl
    rw [this] at e; cases e
  · exact (Heap.hide_ne _ ha).trans (KX a o e)
theorem ns_hide {h : Heap} {a : Addr} {m : Str → Option Value} {ps : Array Value} (hP : h.get? 24 = some (tabObj ps)) (hn : h.Ns a m) : (h.hide 24).Ns a m := by
  obtain ⟨o, es, ep, ho, hd, r⟩ := hn
  refine ⟨o, es, ep, (Heap.hide_ne _ ?_).trans ho, hd, r⟩
  rintro rfl
  rw [hP] at ho; cases ho; cases hd
theorem top_vw {mean : ExcName → Option Value} {mg mb : Str → Option Value} {h : Heap} {ps : Array Value} (T : Top Mine.hd.view_39 (looseW Mine.hd.view_39 [Str.ofString "_norm_version"]) mean mg mb h) (hP : h.get? 24 = some (tabObj ps)) : Top vw lo mean mg mb (h.hide 24) where
  g := ns_hide hP T.g
  b := ns_hide hP T.b
  nolimit := let ⟨mc, h1, h2⟩ := T.nolimit; ⟨mc, ns_hide hP h1, h2⟩
  nodigits := let ⟨mc, h1, h2⟩ := T.nodigits; ⟨mc, ns_hide hP h1, h2⟩
  fn := fun d hd => by cases (show d ∈ ([] : List _) from hd)
  own := fun d hd => by cases (show d ∈ ([] : List _) from hd)
  const := fun x d hd => by cases (show none = some d from hd)
  free := fun x h1 h2 h3 h4 h5 => by
    have hin := List.all_eq_true.mp names_in
    have key : ∀ y, y ∈ ((looseW Mine.hd.view_39 [Str.ofString "_norm_version"]) ++ (recsOf Mine.hd.view_39).map (·.name) ++ (litsOf Mine.hd.view_39).map (·.1) ++ (clssOf Mine.hd.view_39 (looseW Mine.hd.view_39 [Str.ofString "_norm_version"])).map (·.name)) → y ≠ x := fun y hy e => by
      have := hin y hy
      rw [e] at this
      exact h2 (List.contains_iff_mem.mp this)
    refine T.free x h1 ?_ ?_ ?_ ?_
    · exact fun hm => key x (by simp only [List.mem_append]; exact .inl (.inl (.inl hm))) rfl
    · exact fun hm => key x (by simp only [List.mem_append]; exact .inl (.inl (.inr hm))) rfl
    · exact fun hm => key x (by simp only [List.mem_append]; exact .inl (.inr hm)) rfl
    · exact fun hm => key x (by simp only [List.mem_append]; exact .inr hm) rfl
  builtins := T.builtins
  tab := fun d hd => by cases (show d ∈ ([] : List _) from hd)
  bmain := let ⟨bm, ob, h1, h2, h3, h4, r⟩ := T.bmain; ⟨bm, ob, h1, h2, (Heap.hide_ne _ (by rintro rfl; rw [hP] at h3; cases h3; cases h4)).trans h3, h4, r⟩
  seer := fun _ => by
    obtain ⟨⟨mc, a1, a2⟩, ⟨mm, b1, b2⟩, ⟨mb', c1, c2⟩, ⟨mg', bm, ob, d1, d2, d3, d4, d5⟩⟩ := T.seer no_imp
    exact ⟨⟨mc, ns_hide hP a1, a2⟩, ⟨mm, ns_hide hP b1, b2⟩, ⟨mb', ns_hide hP c1, c2⟩, ⟨mg', bm, ob, ns_hide hP d1, d2, (Heap.hide_ne _ (by rintro rfl; rw [hP] at d3; cases d3; cases d4)).trans d3, d4, d5⟩⟩
end Mine
end

section
set_option maxRecDepth 100000
set_option maxHeartbeats 1000000
open PySem PySem.W PySem.Calls PyProof.Rows PySem.Spec
namespace Mine
section
variable {w : World} {E : Value → Shared → Prop} {s : Shared} {g : Heap} {L : Addr} {m : Str → Option Value} {env : Env}
  {mean : ExcName → Option Value} {mg mb : Str → Option Value} {news : List (Addr × Obj)} {news' : Array Value → List (Addr × Obj)} {Q : Value → Shared → Prop}
theorem room_L : (1 + claimMargin + 1) + 10 < recursionLimit := by decide
theorem units_L : 7 + 60 < cLine := by decide
theorem room_L4 : (1 + claimMargin + 1) + 4 < recursionLimit := by decide
theorem units_L40 : 7 + 40 < cLine := by decide
theorem below_L (F : Fr g L s.heap m) (hf : env.frame = some L) (hk : env.scope.kind = .function) : Below (callerA.deeper env) g [env] s.heap := pushX (below_caller g) F hf hk
/-- behind a call that turned the frame's slots alone -/
theorem back_L {g' h' : Heap} (F : Fr g L s.heap m) (N : News g L s.heap news) (hf : env.frame = some L) (tu : KtsTurn ([env].filterMap (·.frame)) s.heap g') (hup : ∀ b o, g'.get? b = some o → h'.get? b = some o) : Fr g L h' m ∧ News g L h' news := by
  have hfs : ∀ b, b ∈ [env].filterMap (·.frame) → b = L := fun b hb => by
    simp only [List.filterMap_cons, hf, List.filterMap_nil, List.mem_singleton] at hb
    exact hb
  have hg : g.get? L = none := by
    cases q : g.get? L with
    | none => rfl
    | some o => exact absurd (Nat.lt_of_lt_of_le (Heap.lt_size q) F.above) (Nat.lt_irrefl _)
  refine ⟨⟨?_, fun b o e => hup _ _ (tu.other b o (F.keep b o e) fun hm => by rw [hfs b hm, hg] at e; cases e), F.above⟩, fun q hq => ⟨hup _ _ (tu.other _ _ (N q hq).1 fun hm => (N q hq).2.1 (hfs _ hm)), (N q hq).2⟩⟩
  obtain ⟨o, es, ep, ho, r⟩ := F.ns
  obtain ⟨sl, hs⟩ := tu.up ho
  exact ⟨_, es, ep, hup _ _ hs, r⟩
theorem wheel_L {a b c : Int} {t1 t2 t3 : Tok} (F : Fr g L s.heap m) (N : News g L s.heap news) (X : (Mine.hd.heap_39 w.params).In g) (T : Top vw lo mean mg mb g) (hf : env.frame = some L) (hk : env.scope.kind = .function)
    (hb : 0 ≤ b) (hb' : b < 9) (hc : 0 ≤ c) (hc' : c < 9)
    (h : ∀ D h' tk t u v, Fr g L h' m → News g L h' ((D, tupF (partF a b c 0) (partF a b c 32) (partF a b c 64) t u v) :: news) → 0 < t → 0 < u → 0 < v → Q (.ref D) { s with heap := h', toks := tk }) :
    wpAny (model Challenge.rw_ny0082_01.row.prog w) (callerA.deeper env) (call (.ref 50) [.int a t1, .int b t2, .int c t3]) Q E s := by
  refine wpAny_call (wheel_code w mean mg mb a b c t1 t2 t3 hb hb' hc hc' (1 + claimMargin + 1) 7 (some []) [env] g s _ (below_L F hf hk) (X.keeps F.keep) (T.keeps F.keep) room_L4 units_L40 fun D h' tk t u v hup hn hD p1 p2 p3 => ?_)
  have z := up_K F N hup hn hD
  exact h D h' tk t u v z.1 z.2 p1 p2 p3
theorem rgb_L {a b c : UInt64} {t1 t2 t3 : Tok} (F : Fr g L s.heap m) (N : News g L s.heap news) (X : (Mine.hd.heap_39 w.params).In g) (T : Top vw lo mean mg mb g) (hf : env.frame = some L) (hk : env.scope.kind = .function)
    (hz : eqF (mn3 a b c) (mx3 a b c) = false → Float64.isZero (mx3 a b c) = false ∧ Float64.isZero (rgF a b c) = false)
    (h : ∀ D h' tk t u v, Fr g L h' m → News g L h' ((D, tupF (rgbOut a b c).1 (rgbOut a b c).2.1 (rgbOut a b c).2.2 t u v) :: news) → Q (.ref D) { s with heap := h', toks := tk }) :
    wpAny (model Challenge.rw_ny0082_01.row.prog w) (callerA.deeper env) (call (.ref 36) [.float a t1, .float b t2, .float c t3]) Q E s := by
  refine wpAny_call (rgb_code w mean mg mb a b c t1 t2 t3 hz (1 + claimMargin + 1) 7 (some []) [env] g s _ (below_L F hf hk) (X.keeps F.keep) (T.keeps F.keep) room_L4 units_L40 fun D h' tk t u v hup hn hD => ?_)
  have z := up_K F N hup hn hD
  exact h D h' tk t u v z.1 z.2
theorem norm1_L {a out : Str} {t1 : Tok} (F : Fr g L s.heap m) (N : News g L s.heap news) (X : (Mine.hd.heap_39 w.params).In g) (T : Top vw lo mean mg mb g) (hf : env.frame = some L) (hk : env.scope.kind = .function)
    (ho : NormOk a (Str.ofString "") out) (h : ∀ h' tk t, Fr g L h' m → News g L h' news → Q (.str out t) { s with heap := h', toks := tk }) :
    wpAny (model Challenge.rw_ny0082_01.row.prog w) (callerA.deeper env) (call (.ref 22) [.str a t1]) Q E s := by
  obtain ⟨rest, tl, h1, h2, h3, h4, h5, h6, h7, rfl⟩ := ho.ex
  refine wpAny_call (norm1_code w mean mg mb a t1 rest tl ho.la h1 h2 h3 h4 h5 h6 h7 (1 + claimMargin + 1) 7 (some []) [env] g s _ (below_L F hf hk) X T room_L4 units_L40 fun g' h' tk t tu hup => ?_)
  have z := back_L F N hf tu hup
  exact h h' tk t z.1 z.2
/-- what _law_straight is asked of -/
structure StraightOk (ps qs : List Str) (least : Int) : Prop where
  lp : ps.length = 4
  lq : qs.length ≤ 4
  bp : ∀ y ∈ ps, y.length ≤ 1000
  bq : ∀ y ∈ qs, y.length ≤ 1000
  l1 : 1 ≤ least
  l4 : least ≤ 4
  n1 : ∀ c : Int, least ≤ c → c ≤ 4 → NormOk (Txt.join (Str.ofString ".") (ps.take c.toNat)) (Str.ofString "") (Txt.join (Str.ofString ".") (qs.take c.toNat))
  n2 : ∀ c : Int, least ≤ c → c ≤ 4 → 1 < c → (ps.getD (c - 1).toNat Str.empty != Str.ofString "") = true → NormOk (Txt.join (Str.ofString ".") (ps.take (c - 1).toNat)) (ps.getD (c - 1).toNat Str.empty) (Txt.join (Str.ofString ".") (qs.take c.toNat))
theorem straight_L {lp lq : Addr} {vp vq : List Value} {np nq : Nat} {ps qs : List Str} {least : Int} {t1 : Tok} (F : Fr g L s.heap m) (N : News g L s.heap news) (X : (Mine.hd.heap_39 w.params).In g) (T : Top vw lo mean mg mb g) (hf : env.frame = some L) (hk : env.scope.kind = .function)
    (hp : (lp, W.listOf vp.toArray np) ∈ news) (hq : (lq, W.listOf vq.toArray nq) ∈ news) (sp : StrsAre vp ps) (sq : StrsAre vq qs) (ho : StraightOk ps qs least)
    (h : ∀ h' tk, Fr g L h' m → News g L h' news → Q (.bool true) { s with heap := h', toks := tk }) :
    wpAny (model Challenge.rw_ny0082_01.row.prog w) (callerA.deeper env) (call (.ref 57) [.ref lp, .ref lq, .int least t1]) Q E s := by
  refine wpAny_call (straight_code w mean mg mb lp lq vp vq ps qs least t1 sp sq ho.lp ho.lq ho.bp ho.bq ho.l1 ho.l4 ho.n1 ho.n2 (1 + claimMargin + 1) 7 (some []) [env] g s _ (below_L F hf hk) X T ⟨_, (N _ hp).1, rfl, _, rfl⟩ ⟨_, (N _ hq).1, rfl, _, rfl⟩ room_L units_L fun g' h' tk tu hup => ?_)
  have z := back_L F N hf tu hup
  exact h h' tk z.1 z.2
theorem read_L {a : Str} {t1 : Tok} {ys : List Str} {os : List (Option Tri)} (F : Fr g L s.heap m) (N : News g L s.heap news) (X : (Mine.hd.heap_39 w.params).In g) (T : Top vw lo mean mg mb g) (hf : env.frame = some L) (hk : env.scope.kind = .function)
    (ha : a.length ≤ 10000) (hy : ∀ y ∈ ys, y.length ≤ 640) (hsp : Txt.split a (Str.ofString "-") = ys) (hl : ys.length ≤ 1000) (hlen : os.length = ys.length) (hok : ∀ (i : Nat) y o, ys[i]? = some y → os[i]? = some o → PieceOk y o)
    (h : ∀ D h' tk its n, Fr g L h' m → News g L h' news → h'.get? D = some (W.listOf its n) → RowIs (fun q => h'.get? q.1 = some q.2) its.toList (os.filterMap id) → Q (.ref D) { s with heap := h', toks := tk }) :
    wpAny (model Challenge.rw_ny0082_01.row.prog w) (callerA.deeper env) (call (.ref 62) [.str a t1]) Q E s := by
  refine wpAny_call (read_code w mean mg mb a t1 ys os ha hy hsp hl hlen hok (1 + claimMargin + 1) 7 (some []) [env] g s _ (below_L F hf hk) (X.keeps F.keep) (T.keeps F.keep) room_L units_L fun D h' tk its n hup hD hR => ?_)
  exact h D h' tk its n (F.keeps hup) (N.grown hup) hD hR
theorem plat_L {vs : List Value} {ts : List Str} {ps : Array Value} (F : Fr g L s.heap m) (N : News g L s.heap news) (X : (Mine.hd.heap_39 w.params).In g) (T : Top vw lo mean mg mb g) (hf : env.frame = some L) (hk : env.scope.kind = .function)
    (hP : (24, tabObj ps) ∈ news) (tri : TriplesOk ps.toList) (G : AllBare s.gens) (hU : ∀ ps', ∀ q ∈ news' ps', q = (24, tabObj ps') ∨ (q ∈ news ∧ q.1 ≠ 24))
    (hlen : vs.length ≤ 1000) (hvs : StrsAre vs ts) (hys : ∀ y ∈ ts, y.length ≤ 100000) (hts : ts.length ≤ 1000) (hjok : JoinOk (Str.ofString "-") ((ts.filter full).map Txt.strip) = true) (hjl : (joined ts).length ≤ 100000)
    (h : ∀ h' gens' dr' tk' t ps', TriplesOk ps'.toList → AllBare gens' → Fr g L h' m → News g L h' (news' ps') → Q (.str (platStr ts) t) ⟨h', gens', dr', tk', s.os⟩) :
    wpAny (model Challenge.rw_ny0082_01.row.prog w) (callerA.deeper env) (call (.ref 29) vs) Q E s := by
  have z := N _ hP
  have hgP : g.get? 24 = none := z.2.2
  have hLP : L ≠ 24 := z.2.1.symm
  have F' : Fr g L (s.heap.hide 24) m := by
    refine ⟨?_, fun b o e => (Heap.hide_ne _ (by rintro rfl; rw [hgP] at e; cases e)).trans (F.keep b o e), F.above⟩
    obtain ⟨o, es, ep, ho, r⟩ := F.ns
    exact ⟨o, es, ep, (Heap.hide_ne _ hLP).trans ho, r⟩
  have CH : CodeHd (s.heap.hide 24) 28 24 := (codeHd_of_K (K := Mine.hd.heap_39 w.params) X (by kernel_rfl)).keeps F'.keep
  refine wpAny_call (plat_code w mean mg mb vs ts 24 ps hlen hvs hys tri hts hjok hjl (1 + claimMargin + 1) 7 (some []) [env] g s _ (pushX (below_caller g) F' hf hk) (X.keeps F'.keep) (T.keeps F'.keep) z.1 CH G room_L4 units_L40 fun h' gens' dr' tk' t ps' tri' G' hP' hkeep => ?_)
  refine h h' gens' dr' tk' t ps' tri' G' ⟨?_, fun b o e => hkeep b o (by rintro rfl; rw [hgP] at e; cases e) (F.keep b o e), F.above⟩ fun q hq => ?_
  · obtain ⟨o, es, ep, ho, r⟩ := F.ns
    exact ⟨o, es, ep, hkeep _ _ hLP ho, r⟩
  · rcases hU ps' q hq with rfl | ⟨hm, hne⟩
    · exact ⟨hP', z.2⟩
    · exact ⟨hkeep _ _ hne (N q hm).1, (N q hm).2⟩
end
end Mine
end

section
set_option maxRecDepth 100000
set_option maxHeartbeats 1000000
open PySem PySem.W PySem.Calls PyProof.Rows PySem.Spec
namespace Mine
theorem law_end {w : World} {cl : Str → Option Addr} {mean : ExcName → Option Value} {ns : List Int} {s₁ s' : Shared} {L : Addr} {m : Str → Option Value} {ps : Array Value} (KX : (Mine.hd.heap_39 w.params).In s₁.heap)
    (h24 : s₁.heap.get? 24 = some (tabObj #[])) (F : Fr (s₁.heap.hide 24) L s'.heap m) (hP : s'.heap.get? 24 = some (tabObj ps)) (G : AllBare s'.gens) (hos : s'.os = s₁.os) :
    GoodWG Challenge.rw_ny0082_01.row.claim cl mean [ofPy (PyData.list (List.map PyData.int ns))] s₁ (.ok (.ret (.bool true))) s' := by
  refine ⟨.inl ⟨.bool true, .bool true, [], rfl, ?_, .bool true, ?_, ?_⟩, ⟨fun b o e => ?_, fun b o e => ?_⟩, hos, G⟩
  · intro cls; rfl
  · first | kc_post | wrow_post | trace_state
  · exact fun _ => ⟨List.nodup_nil, fun a ha => (nomatch ha)⟩
  · by_cases hb : b = 24
    · subst hb
      rw [h24] at e; cases e
      refine .inr (.inl ⟨?_, rfl, #[], ps, rfl, by rw [hP]; simp⟩)
      have CH : CodeHd s₁.heap 28 24 := codeHd_of_K KX (by kernel_rfl)
      exact (CH.tab h24).isCodeTable
    · exact .inl (F.keep b o ((Heap.hide_ne _ hb).trans e))
  · by_cases hb : b = 24
    · subst hb; exact ⟨_, hP⟩
    · exact ⟨o, F.keep b o ((Heap.hide_ne _ hb).trans e)⟩
/-- the ground of law -/
theorem law_ground {h : Heap} {a : Addr} {vs : Array Value} {ps : Array Value} (hP : h.get? 24 = some (tabObj ps)) (hl : h.IsList a vs) : (h.hide 24).IsList a vs := by
  obtain ⟨o, ho, hc, r⟩ := hl
  exact ⟨o, (Heap.hide_ne _ (by rintro rfl; rw [hP] at ho; cases ho; cases hc)).trans ho, hc, r⟩
theorem law_fr {h h₁ : Heap} {L : Addr} {m : Str → Option Value} (F : Fr h L h₁ m) : Fr (h.hide 24) L h₁ m := ⟨F.ns, fun b o e => F.keep b o (Heap.of_hide e), by rw [Heap.hide_size]; exact F.above⟩
theorem law_news {h h₁ : Heap} {L : Addr} {m : Str → Option Value} {news : List (Addr × Obj)} {ps : Array Value} (F : Fr h L h₁ m) (N : News h L h₁ news) (hP : h.get? 24 = some (tabObj ps)) : News (h.hide 24) L h₁ ((24, tabObj ps) :: news) := by
  intro q hq
  rcases List.mem_cons.mp hq with rfl | hq
  · refine ⟨F.keep _ _ hP, fun e => ?_, Heap.hide_self _ _⟩
    have h1 := Heap.lt_size hP
    have h2 := F.above
    have e' : (24 : Nat) = L := e
    exact absurd (Nat.lt_of_lt_of_le h1 h2) (by rw [← e']; exact Nat.lt_irrefl _)
  · refine ⟨(N q hq).1, (N q hq).2.1, ?_⟩
    cases e : (h.hide 24).get? q.1 with
    | none => rfl
    | some o => exact absurd ((N q hq).2.2) (by rw [Heap.of_hide e]; simp)
end Mine
end

section
set_option maxRecDepth 100000
open PySem PySem.W PySem.Calls PyProof.Rows PySem.Spec
namespace Mine
noncomputable abbrev Quad := Int × Int × Int × Int
noncomputable abbrev tupI (a b c d : Int) (t u v x : Tok) : Obj := { cls := .type "tuple", data := .seq #[.int a t, .int b u, .int c v, .int d x] }
inductive SpotsAre (P : Addr × Obj → Prop) : List Value → List Quad → Prop where
  | nil : SpotsAre P [] []
  | cons {D : Addr} {a b c d : Int} {t u v x : Tok} {vs : List Value} {cs : List Quad} : P (D, tupI a b c d t u v x) → SpotsAre P vs cs → SpotsAre P (.ref D :: vs) ((a, b, c, d) :: cs)
theorem SpotsAre.mono {P Q : Addr × Obj → Prop} {vs : List Value} {cs : List Quad} (h : SpotsAre P vs cs) (hs : ∀ p, P p → Q p) : SpotsAre Q vs cs := by
  induction h with
  | nil => exact .nil
  | cons a _ ih => exact .cons (hs _ a) ih
theorem SpotsAre.app {P : Addr × Obj → Prop} {vs us : List Value} {cs ds : List Quad} (h : SpotsAre P vs cs) (h2 : SpotsAre P us ds) : SpotsAre P (vs ++ us) (cs ++ ds) := by
  induction h with
  | nil => exact h2
  | cons a _ ih => exact .cons a ih
theorem SpotsAre.len {P : Addr × Obj → Prop} {vs : List Value} {cs : List Quad} (h : SpotsAre P vs cs) : vs.length = cs.length := by
  induction h with
  | nil => rfl
  | cons _ _ ih => simp [ih]
theorem SpotsAre.at {P : Addr × Obj → Prop} {vs : List Value} {cs : List Quad} (h : SpotsAre P vs cs) {i : Nat} {v : Value} (hv : vs[i]? = some v) : ∃ D a b c d t u x y, v = .ref D ∧ cs[i]? = some (a, b, c, d) ∧ P (D, tupI a b c d t u x y) := by
  induction h generalizing i with
  | nil => simp at hv
  | cons p _ ih =>
    cases i with
    | zero => simp at hv; exact ⟨_, _, _, _, _, _, _, _, _, hv.symm, rfl, p⟩
    | succ i => simpa using ih (by simpa using hv)
/-- what a number of the script draws -/
noncomputable def spotOf (n : Int) : Quad := (n.fmod 96, (n.fdiv 96 + 5).fmod 9, (n.fdiv 864 + 7).fmod 9, n.fdiv 7776)
inductive SpotS (s s' : Shared) : Prop
  | mk (h : Heap) (tk : Nat) (e : s' = { s with heap := h, toks := tk })
inductive SpotL (L SPOTS SL : Addr) (sl : Array Value) (oc : Obj) (ss : List Quad) (news : List (Addr × Obj)) : Prop
  | mk (its : Array Value) (n : Nat) (rest : List (Addr × Obj)) (e : news = (SPOTS, W.listOf its n) :: (SL, W.listOf sl 0) :: (24, tabObj #[]) :: (L + 1, oc) :: rest) (hc : ∀ q ∈ rest, q.2.cls = .type "tuple") (hs : SpotsAre (· ∈ rest) its.toList ss)
structure SpotJ (s : Shared) (L SPOTS SL : Addr) (sl : Array Value) (oc : Obj) (ss : List Quad) (s' : Shared) (m : Str → Option Value) (news : List (Addr × Obj)) : Prop where
  st : SpotS s s'
  sp : m (Str.ofString "spots") = some (.ref SPOTS)
  led : SpotL L SPOTS SL sl oc ss news
theorem none_list : Value.none ≠ Value.type "list" := by decide
theorem spot_end {s : Shared} {g : Heap} {L SPOTS SL IT D : Addr} {sl its : Array Value} {n tk : Nat} {cs : List Quad} {o oc : Obj} {rest all : List (Addr × Obj)} {a b c d : Int} {t u v x : Tok} {m : Str → Option Value} {h : Heap} {R : Result → Shared → Prop}
    (hri : SpotsAre (· ∈ rest) its.toList cs) (hcls : ∀ q ∈ rest, q.2.cls = .type "tuple") (hrow : m (Str.ofString "spots") = some (.ref SPOTS)) (F : Fr g L h m) (N : News g L h all)
    (h1 : (IT, o) ∈ all) (h2 : (SPOTS, W.listOf (its.push (.ref D)) (n + 1)) ∈ all) (h3 : (SL, W.listOf sl 0) ∈ all) (h4 : (D, tupI a b c d t u v x) ∈ all) (h6 : (24, tabObj #[]) ∈ all) (h7 : (L + 1, oc) ∈ all) (h5 : ∀ q ∈ rest, q ∈ all) :
    TurnL g L (fun s' m news => SpotJ s L SPOTS SL sl oc (cs ++ [(a, b, c, d)]) s' m news) IT o R .next { s with heap := h, toks := tk } := by
  refine ⟨m, (SPOTS, W.listOf (its.push (.ref D)) (n + 1)) :: (SL, W.listOf sl 0) :: (24, tabObj #[]) :: (L + 1, oc) :: (D, tupI a b c d t u v x) :: rest, ⟨⟨_, _, rfl⟩, hrow, _, _, _, rfl, List.forall_mem_cons.mpr ⟨rfl, hcls⟩, ?_⟩, F, fun q hq => N q ?_⟩
  · rw [Array.toList_push]; exact (hri.mono fun _ hp => .tail _ hp).app (.cons (.head _) .nil)
  · rcases List.mem_cons.mp hq with rfl | hq
    · exact h1
    · rcases List.mem_cons.mp hq with rfl | hq
      · exact h2
      · rcases List.mem_cons.mp hq with rfl | hq
        · exact h3
        · rcases List.mem_cons.mp hq with rfl | hq
          · exact h6
          · rcases List.mem_cons.mp hq with rfl | hq
            · exact h7
            · rcases List.mem_cons.mp hq with rfl | hq
              · exact h4
              · exact h5 q hq
end Mine
end

section
set_option maxRecDepth 100000
namespace Mine
open PySem PySem.W PySem.Calls PyProof.Rows PySem.Spec
section
variable {prog : Program} {w : World} {A : Around} {E : Value → Shared → Prop} {s : Shared} {g : Heap} {L : Addr} {m₀ : Str → Option Value} {news₀ : List (Addr × Obj)} {R : Result → Shared → Prop} {body : List Stmt} {env : Env} {D : Addr} {items : Array Value} {n : Nat}
theorem loop_list_P {elts : List Expr} {cx : Nat} {pos : Pos} (J : Nat → Shared → (Str → Option Value) → List (Addr × Obj) → Prop) (hh : A.handled = none) (hmem : ∀ i s' m news, J i s' m news → (D, listOf items n) ∈ news)
    (hcls : ∀ i s' m news, J i s' m news → ∀ q ∈ news, q.2.cls ≠ .type "list_iterator" ∨ ∀ vs, q.2.data ≠ .fields vs) (hput : ∀ i s' m news h', J i s' m news → J i { s' with heap := h' } m news)
    (F : Fr g L s.heap m₀) (N : News g L s.heap news₀) (hJ : J 0 s m₀ news₀)
    (turn : ∀ i v IT o s' m news, items[i]? = some v → J i s' m news → LstIt D (i + 1) o → Fr g L s'.heap m → News g L s'.heap ((IT, o) :: news) →
      wpAny (model prog w) A (assign (.Tuple elts cx pos) env v) (fun _ s₂ => wpAny (model prog w) A (execs body env) (TurnL g L (J (i + 1)) IT o R) (fun _ _ => False) s₂) (fun _ _ => False) s')
    (done : ∀ s' m news, J items.size s' m news → Fr g L s'.heap m → News g L s'.heap news → R (.ok .next) s') (hrefs : ∀ (i : Nat) v, items[i]? = some v → ∃ T, v = .ref T) :
    wpAny (model prog w) A (pyIter (.ref D)) (fun it s₂ => codeAny (model prog w) A (.forLoop (.Tuple elts cx pos) it body [] env) R s₂) E s := by
  have lst : ∀ {i s' m news}, J i s' m news → News g L s'.heap news → s'.heap.IsList D items := fun hJ N => ⟨_, (N _ (hmem _ _ _ _ hJ)).1, rfl, _, rfl⟩
  refine wpAny_pyIter_list (lst hJ N) ?_
  have hIL : s.heap.objs.size ≠ L := Nat.ne_of_gt F.ns.lt
  have hIg : g.get? s.heap.objs.size = none := news_fresh F (Nat.le_refl _)
  refine codeAny_forLoop_any (fun k s' => ∃ i o m news, i ≤ items.size ∧ k = items.size + 1 - i ∧ LstIt D i o ∧ J i s' m news ∧ Fr g L s'.heap m ∧ News g L s'.heap ((s.heap.objs.size, o) :: news)) ?_ (items.size + 1)
    ⟨0, { cls := .type "list_iterator", data := .fields #[.ref D, .int 0 0] }, m₀, news₀, Nat.zero_le _, rfl, ⟨rfl, rfl⟩, hput _ _ _ _ _ hJ, F.push _, ?_⟩
  · rintro k s' ⟨i, o, m, news, hi, rfl, ho, hJi, F', N'⟩
    have N1 : News g L s'.heap news := fun q hq => N' q (.tail _ hq)
    have hIt : s'.heap.IsListIter s.heap.objs.size D i := ⟨o, (N' _ (.head _)).1, ho.cls, ho.data⟩
    have hne : ∀ q ∈ news, q.1 ≠ s.heap.objs.size := fun q hq e => by
      have h1 := (N1 q hq).1
      rw [e, (N' _ (.head _)).1] at h1
      rcases hcls _ _ _ _ hJi q hq with z | z
      · exact z (by rw [← Option.some.inj h1]; exact ho.cls)
      · exact z _ (by rw [← Option.some.inj h1]; exact ho.data)
    by_cases hlt : i < items.size
    · refine wpAny_pyNext_list_item hIt (lst hJi N1) (Array.getElem?_eq_getElem hlt) fun h₁ hit₁ hs₁ => ?_
      obtain ⟨o₁, e₁, c₁, d₁⟩ := hit₁
      have F₁ : Fr g L h₁ m := ⟨F'.ns.at' fun o e => hs₁.extBut _ _ (Ne.symm hIL) e, fun b o e => hs₁.extBut _ _ (fun q => by rw [q, hIg] at e; cases e) (F'.keep b o e), F'.above⟩
      have N₁ : News g L h₁ ((s.heap.objs.size, o₁) :: news) := fun q hq => by
        rcases List.mem_cons.mp hq with rfl | hq
        · exact ⟨e₁, hIL, hIg⟩
        · exact ⟨hs₁.extBut _ _ (hne q hq) (N1 q hq).1, (N1 q hq).2⟩
      obtain ⟨T, hT⟩ := hrefs i _ (Array.getElem?_eq_getElem hlt)
      dsimp only
      rw [hT]
      refine wpAny_letOwnedTupleGo_listiter ⟨o₁, e₁, c₁, d₁⟩ ?_
      rw [← hT]
      refine wpAny_mono (turn i _ _ o₁ { s' with heap := h₁ } m news (Array.getElem?_eq_getElem hlt) (hput _ _ _ _ _ hJi) ⟨c₁, d₁⟩ F₁ N₁) (fun _ s₂ h₂ => wpAny_mono h₂ (fun f s₃ h₃ => ?_) fun _ _ e => e.elim) fun _ _ e => e.elim
      cases f with
      | ret v => exact h₃
      | brk => exact h₃
      | next =>
        obtain ⟨m', news', J₃, F₃, N₃⟩ := h₃
        exact ⟨items.size + 1 - (i + 1), turn_less hlt, i + 1, o₁, m', news', hlt, rfl, ⟨c₁, d₁⟩, J₃, F₃, N₃⟩
      | cont =>
        obtain ⟨m', news', J₃, F₃, N₃⟩ := h₃
        exact ⟨items.size + 1 - (i + 1), turn_less hlt, i + 1, o₁, m', news', hlt, rfl, ⟨c₁, d₁⟩, J₃, F₃, N₃⟩
    · have hin : i = items.size := by omega
      subst hin
      refine wpAny_pyNext_list_end hh hIt (lst hJi N1) (Array.getElem?_eq_none (Nat.le_refl _)) fun h₁ hs₁ => wpAny_execs_nil ?_
      exact done { s' with heap := h₁ } m news (hput _ _ _ _ _ hJi) ⟨F'.ns.at' fun o e => hs₁ _ _ (Ne.symm hIL) e, fun b o e => hs₁ _ _ (fun q => by rw [q, hIg] at e; cases e) (F'.keep b o e), F'.above⟩ (fun q hq => ⟨hs₁ _ _ (hne q hq) (N1 q hq).1, (N1 q hq).2⟩)
  · intro q hq
    rcases List.mem_cons.mp hq with rfl | hq
    · exact ⟨Heap.get?_push_size _ rfl, hIL, hIg⟩
    · exact ⟨Heap.get?_push_of_some _ (N q hq).1, (N q hq).2⟩
end
end Mine
end

section
set_option maxRecDepth 100000
namespace Mine
open PySem PySem.W PySem.Calls PyProof.Rows PySem.Spec
section
variable {w : World} {E : Value → Shared → Prop} {s : Shared} {g : Heap} {L : Addr} {m : Str → Option Value} {env : Env}
  {mean : ExcName → Option Value} {mg mb : Str → Option Value} {news others : List (Addr × Obj)} {Q : Value → Shared → Prop}
/-- what can be no table of codes -/
noncomputable def NoTab (q : Addr × Obj) : Prop := q.2.cls ≠ .none ∨ ∃ v, q.2.data = .cell v
/-- texts that _platform may be called with -/
structure PlatOk (ts : List Str) : Prop where
  ys : ∀ y ∈ ts, y.length ≤ 100000
  len : ts.length ≤ 1000
  jok : JoinOk (Str.ofString "-") ((ts.filter full).map Txt.strip) = true
  jl : (joined ts).length ≤ 100000
theorem plat_L2 {vs : List Value} {ts : List Str} {ps : Array Value} (F : Fr g L s.heap m) (N : News g L s.heap ((24, tabObj ps) :: others)) (X : (Mine.hd.heap_39 w.params).In g) (T : Top vw lo mean mg mb g) (hf : env.frame = some L) (hk : env.scope.kind = .function)
    (hno : ∀ q ∈ others, NoTab q) (tri : TriplesOk ps.toList) (G : AllBare s.gens) (hvs : StrsAre vs ts) (ho : PlatOk ts)
    (h : ∀ h' gens' dr' tk' t ps', TriplesOk ps'.toList → AllBare gens' → Fr g L h' m → News g L h' ((24, tabObj ps') :: others) → Q (.str (platStr ts) t) ⟨h', gens', dr', tk', s.os⟩) :
    wpAny (model Challenge.rw_ny0082_01.row.prog w) (callerA.deeper env) (call (.ref 29) vs) Q E s := by
  refine plat_L (news' := fun ps' => (24, tabObj ps') :: others) F N X T hf hk (.head _) tri G ?_ (by rw [hvs.len_eq]; exact ho.len) hvs ho.ys ho.len ho.jok ho.jl h
  intro ps' q hq
  rcases List.mem_cons.mp hq with rfl | hq
  · exact .inl rfl
  · refine .inr ⟨.tail _ hq, fun e => ?_⟩
    have h1 := (N q (.tail _ hq)).1
    have h2 := (N _ (.head _)).1
    rw [e] at h1
    dsimp only at h2
    rw [h2] at h1
    have h3 := Option.some.inj h1
    rcases hno q hq with z | ⟨v, z⟩
    · exact z (by rw [← h3])
    · rw [← h3] at z; cases z
theorem add_K {A : Around} {prog : Program} {l b : Addr} {its its2 : Array Value} {n1 n2 : Nat} (F : Fr g L s.heap m) (N : News g L s.heap news) (h1 : (l, W.listOf its n1) ∈ news) (h2 : (b, W.listOf its2 n2) ∈ news) (hz : its.size + its2.size ≤ 100000)
    (h : ∀ D h', Fr g L h' m → News g L h' ((D, W.listOf (its.toList ++ its2.toList).toArray 0) :: news) → (∀ p ∈ news, p.1 < D) → Q (.ref D) { s with heap := h' }) :
    wpAny (model prog w) A (binaryOp .Add (.ref l) (.ref b)) Q E s :=
  add_arrays (hsz := Nat.le_trans hz (by size_fits)) F N ⟨_, (N _ h1).1, rfl, _, rfl⟩ ⟨_, (N _ h2).1, rfl, _, rfl⟩ fun h' F' N' => h _ h' F' N' fun p hp => Heap.lt_size (N p hp).1
end
end Mine
end

section
set_option maxRecDepth 100000
namespace Mine
open PySem PySem.W PySem.Calls PyProof.Rows PySem.Spec
/-- the signs about a text -/
noncomputable def sixPairs : List (Str × Str) := [(Str.ofString "", Str.ofString ""), (Str.ofString "(", Str.ofString ")"), (Str.ofString "\"", Str.ofString "\""), (Str.ofString "/", Str.ofString "\\"), (Str.ofString ":", Str.ofString ";"), (Str.ofString " ", Str.ofString " ")]
noncomputable def fixedSpots : List Quad := [(7, 5, 0, 21), (40, 8, 8, 6), (0, 0, 5, 8), (64, 3, 0, 12), (93, 3, 4, 17)]
noncomputable abbrev tupS (a b : Str) (t u : Tok) : Obj := { cls := .type "tuple", data := .seq #[.str a t, .str b u] }
inductive PairsAre (P : Addr × Obj → Prop) : List Value → List (Str × Str) → Prop where
  | nil : PairsAre P [] []
  | cons {D : Addr} {a b : Str} {t u : Tok} {vs : List Value} {cs : List (Str × Str)} : P (D, tupS a b t u) → PairsAre P vs cs → PairsAre P (.ref D :: vs) ((a, b) :: cs)
theorem PairsAre.mono {P Q : Addr × Obj → Prop} {vs : List Value} {cs : List (Str × Str)} (h : PairsAre P vs cs) (hs : ∀ p, P p → Q p) : PairsAre Q vs cs := by
  induction h with
  | nil => exact .nil
  | cons a _ ih => exact .cons (hs _ a) ih
theorem PairsAre.at {P : Addr × Obj → Prop} {vs : List Value} {cs : List (Str × Str)} (h : PairsAre P vs cs) {i : Nat} {p : Str × Str} (hv : cs[i]? = some p) : ∃ D t u, vs[i]? = some (.ref D) ∧ P (D, tupS p.1 p.2 t u) := by
  induction h generalizing i with
  | nil => simp at hv
  | cons q _ ih =>
    cases i with
    | zero => simp at hv; subst hv; exact ⟨_, _, _, rfl, q⟩
    | succ i => simpa using ih (by simpa using hv)
noncomputable def strI (n : Int) : Str := Str.ofString (toString n)
noncomputable def pairAt (look : Int) : Str × Str := sixPairs.getD (((look.fdiv 4).fmod 6).toNat) (Str.empty, Str.empty)
/-- the bare text of a spot -/
noncomputable def coreOf (q : Quad) : Str :=
  if q.2.2.1 = 0 then Txt.mul (Str.ofString "unknown") (q.2.2.2.fmod 2)
  else if q.2.1 = 0 then Str.ofString "unknown" ++ Txt.mul (Str.ofString " ") (1 + q.2.2.2.fmod 3) ++ strI q.2.2.1
  else Txt.join (Str.ofString ".") [strI q.1, strI q.2.1, strI q.2.2.1]
noncomputable def textOf (q : Quad) : Str := (pairAt q.2.2.2).1 ++ coreOf q ++ (pairAt q.2.2.2).2
noncomputable def wordOf (q : Quad) : Str := if q.2.1 = 0 then Txt.mul (Str.ofString "_") (1 + q.2.2.2.fmod 3) ++ strI q.2.2.1 else Txt.join (Str.ofString ".") [strI q.1, strI q.2.1, strI q.2.2.1]
noncomputable def colourOf (q : Quad) : Tri := (partF q.1 q.2.1 q.2.2.1 0, partF q.1 q.2.1 q.2.2.1 32, partF q.1 q.2.1 q.2.2.1 64)
noncomputable def signs : List Str := [Str.ofString "(", Str.ofString "\"", Str.ofString "/", Str.ofString ":"]
structure St where
  due : Str
  begun : Bool
  texts : List Str
  kept : List Tri
noncomputable def nextDue (st : St) (q : Quad) : Str := if q.2.2.1 = 0 then st.due else st.due ++ (if st.begun || signs.contains (pairAt q.2.2.2).1 then Str.ofString "-" else Str.ofString "") ++ wordOf q
noncomputable def step (st : St) (q : Quad) : St :=
  { due := nextDue st q, begun := st.begun || (textOf q != Str.ofString ""), texts := st.texts ++ [textOf q], kept := if q.2.2.1 = 0 then st.kept else st.kept ++ [colourOf q] }
noncomputable def st0 : St := ⟨Str.ofString "", false, [], []⟩
noncomputable def run (qs : List Quad) : St := qs.foldl step st0
theorem run_snoc (qs : List Quad) (q : Quad) : run (qs ++ [q]) = step (run qs) q := by simp [run]
inductive MainL (L TEXTS KEPT PAIRS ALL : Addr) (prs all : Array Value) (qs : List Quad) (st : St) (news : List (Addr × Obj)) : Prop
  | mk (tx : Array Value) (n1 : Nat) (kp : Array Value) (n2 : Nat) (ps : Array Value) (oc : Obj) (v : Option Value) (rest : List (Addr × Obj))
    (e : news = (24, tabObj ps) :: (L + 1, oc) :: (TEXTS, W.listOf tx n1) :: (KEPT, W.listOf kp n2) :: (PAIRS, W.listOf prs 0) :: (ALL, W.listOf all 0) :: rest) (hc : ∀ q ∈ rest, q.2.cls = .type "tuple") (tri : TriplesOk ps.toList) (hov : oc.data = .cell v)
    (htx : StrsAre tx.toList st.texts) (hkp : RowIs (· ∈ rest) kp.toList st.kept) (hpr : PairsAre (· ∈ rest) prs.toList sixPairs) (hsp : SpotsAre (· ∈ rest) all.toList qs) (hL : ∀ q ∈ rest, q.1 ≠ L + 1)
structure MainJ (os : OsState) (L TEXTS KEPT PAIRS ALL : Addr) (prs all : Array Value) (qs : List Quad) (st : St) (s' : Shared) (m : Str → Option Value) (news : List (Addr × Obj)) : Prop where
  gens : AllBare s'.gens
  os : s'.os = os
  pairs : m (Str.ofString "pairs") = some (.ref PAIRS)
  texts : m (Str.ofString "texts") = some (.ref TEXTS)
  kept : m (Str.ofString "kept") = some (.ref KEPT)
  begun : m (Str.ofString "begun") = some (.bool st.begun)
  due : ∃ t, m (Str.ofString "due") = some (.str st.due t)
  told : ∃ t, m (Str.ofString "told") = some (.str st.due t)
  led : MainL L TEXTS KEPT PAIRS ALL prs all qs st news
theorem PairsAre.mono' {P Q : Addr × Obj → Prop} {vs : List Value} {cs : List (Str × Str)} (h : PairsAre P vs cs) (hs : ∀ D a b t u, P (D, tupS a b t u) → Q (D, tupS a b t u)) : PairsAre Q vs cs := by
  induction h with
  | nil => exact .nil
  | cons a _ ih => exact .cons (hs _ _ _ _ _ a) ih
theorem SpotsAre.mono' {P Q : Addr × Obj → Prop} {vs : List Value} {cs : List Quad} (h : SpotsAre P vs cs) (hs : ∀ D a b c d t u x y, P (D, tupI a b c d t u x y) → Q (D, tupI a b c d t u x y)) : SpotsAre Q vs cs := by
  induction h with
  | nil => exact .nil
  | cons a _ ih => exact .cons (hs _ _ _ _ _ _ _ _ _ a) ih
/-- the ledger ahead of the main loop, in order -/
theorem restart {g h : Heap} {L TEXTS KEPT PAIRS SPOTS FIXED : Addr} {oc : Obj} {v₀ : Option Value} (hoc : oc.data = .cell v₀) {prs fx its : Array Value} {n : Nat} {all : List (Addr × Obj)} {ss : List Quad} (NN : News g L h all) (h1 : (24, tabObj #[]) ∈ all) (h2 : (L + 1, oc) ∈ all) (h3 : (TEXTS, W.listOf #[] 0) ∈ all) (h4 : (KEPT, W.listOf #[] 0) ∈ all)
    (h5 : (PAIRS, W.listOf prs 0) ∈ all) (h6 : (SPOTS, W.listOf its n) ∈ all) (h7 : (FIXED, W.listOf fx 0) ∈ all) (hp : PairsAre (· ∈ all) prs.toList sixPairs) (hf : SpotsAre (· ∈ all) fx.toList fixedSpots) (hs : SpotsAre (· ∈ all) its.toList ss) :
    ∃ (prs fx : Array Value) (rest : List (Addr × Obj)), News g L h ((24, tabObj #[]) :: (L + 1, oc) :: (TEXTS, W.listOf #[] 0) :: (KEPT, W.listOf #[] 0) :: (PAIRS, W.listOf prs 0) :: (SPOTS, W.listOf its n) :: (FIXED, W.listOf fx 0) :: rest) ∧ (∀ q ∈ rest, q.2.cls = .type "tuple") ∧
      PairsAre (· ∈ rest) prs.toList sixPairs ∧ SpotsAre (· ∈ rest) fx.toList fixedSpots ∧ SpotsAre (· ∈ rest) its.toList ss ∧ (∀ q ∈ rest, q.1 ≠ L + 1) := by
  have key : ∀ D o vs k, (D, o) ∈ all → o.data = .seq vs k → D ≠ L + 1 := fun D o vs k hm hd e => by
    have z1 := (NN _ hm).1
    have z2 := (NN _ h2).1
    dsimp only at z1 z2
    rw [e, z2] at z1
    rw [← Option.some.inj z1, hoc] at hd
    cases hd
  refine ⟨prs, fx, all.filter (fun q => decide (q.2.cls = .type "tuple" ∧ q.1 ≠ L + 1)), fun q hq => NN q ?_, fun q hq => (of_decide_eq_true (List.mem_filter.mp hq).2).1, hp.mono' fun D a b t u h => List.mem_filter.mpr ⟨h, decide_eq_true ⟨rfl, key D _ _ _ h rfl⟩⟩, hf.mono' fun D a b c d t u x y h => List.mem_filter.mpr ⟨h, decide_eq_true ⟨rfl, key D _ _ _ h rfl⟩⟩, hs.mono' fun D a b c d t u x y h => List.mem_filter.mpr ⟨h, decide_eq_true ⟨rfl, key D _ _ _ h rfl⟩⟩, fun q hq => (of_decide_eq_true (List.mem_filter.mp hq).2).2⟩
  simp only [List.mem_cons] at hq
  rcases hq with rfl | rfl | rfl | rfl | rfl | rfl | rfl | hq
  · exact h1
  · exact h2
  · exact h3
  · exact h4
  · exact h5
  · exact h6
  · exact h7
  · exact (List.mem_filter.mp hq).1
theorem mapAt6 {m : Str → Option Value} {x1 x2 x3 x4 x5 x6 : Str} {v1 v2 v3 v4 v5 v6 : Option Value} (h1 : m x1 = v1) (h2 : m x2 = v2) (h3 : m x3 = v3) (h4 : m x4 = v4) (h5 : m x5 = v5) (h6 : m x6 = v6) :
    m = fun y => if y = x1 then v1 else if y = x2 then v2 else if y = x3 then v3 else if y = x4 then v4 else if y = x5 then v5 else if y = x6 then v6 else m y := by
  funext y
  repeat' split
  all_goals first | (subst_vars; rfl) | rfl
end Mine
end

section
set_option maxRecDepth 100000
namespace Mine
open PySem PySem.W PySem.Calls PyProof.Rows PySem.Spec
/-- a mark: the walk halts ahead of each statement -/
noncomputable def intF (x y : UInt64) : Int := Flt.toInt Float64.truncOf (Float64.mul x y)
/-- what rgb_to_hsv tells of a colour of the wheel -/
structure SeenOk (a b c : Int) (H S V : UInt64) : Prop where
  out : rgbOut (partF a b c 0) (partF a b c 32) (partF a b c 64) = (H, S, V)
  hz : eqF (mn3 (partF a b c 0) (partF a b c 32) (partF a b c 64)) (mx3 (partF a b c 0) (partF a b c 32) (partF a b c 64)) = false → Float64.isZero (mx3 (partF a b c 0) (partF a b c 32) (partF a b c 64)) = false ∧ Float64.isZero (rgF (partF a b c 0) (partF a b c 32) (partF a b c 64)) = false
section
variable {w : World} {E : Value → Shared → Prop} {s : Shared} {g : Heap} {L : Addr} {m : Str → Option Value} {env : Env}
  {mean : ExcName → Option Value} {mg mb : Str → Option Value} {news others : List (Addr × Obj)} {Q : Value → Shared → Prop}
theorem seen_L {a b c : Int} {H S V : UInt64} {t1 t2 t3 : Tok} (F : Fr g L s.heap m) (N : News g L s.heap news) (X : (Mine.hd.heap_39 w.params).In g) (T : Top vw lo mean mg mb g) (hf : env.frame = some L) (hk : env.scope.kind = .function) (ho : SeenOk a b c H S V)
    (h : ∀ D h' tk t u v, Fr g L h' m → News g L h' ((D, tupF H S V t u v) :: news) → Q (.ref D) { s with heap := h', toks := tk }) :
    wpAny (model Challenge.rw_ny0082_01.row.prog w) (callerA.deeper env) (call (.ref 36) [.float (partF a b c 0) t1, .float (partF a b c 32) t2, .float (partF a b c 64) t3]) Q E s := by
  refine rgb_L F N X T hf hk ho.hz ?_
  rw [ho.out]
  exact h
end
end Mine
end

section
set_option maxRecDepth 100000
namespace Mine
theorem len2 {x y : PySem.Str} (hx : x.length ≤ 1000) (hy : y.length ≤ 1000) : (x ++ y).length ≤ 10000 := by rw [PySem.Str.length_append]; omega
open PySem PySem.W PySem.Calls PyProof.Rows PySem.Spec
noncomputable def aheads : List Str := [Str.ofString "", Str.ofString "00", Str.ofString "+", Str.ofString " "]
noncomputable def aheadOf (look : Int) : Str := aheads.getD (look.fmod 4).toNat Str.empty
section
variable {prog : Program} {w : World} {A : Around} {E : Value → Shared → Prop} {s : Shared} {g : Heap} {L : Addr} {m : Str → Option Value} {news rest : List (Addr × Obj)} {Q : Value → Shared → Prop} {value slice : Expr}
theorem fmod_bd (x k : Int) (h : 0 < k) : 0 ≤ x.fmod k ∧ x.fmod k < k := by
  rw [Int.fmod_eq_emod_of_nonneg x (Int.le_of_lt h)]
  exact ⟨Int.emod_nonneg _ (by omega), Int.emod_lt_of_pos _ h⟩
theorem pairs_K {PAIRS : Addr} {prs : Array Value} {n : Nat} {look : Int} {u : Tok} (N : News g L s.heap news) (hP : (PAIRS, W.listOf prs n) ∈ news) (hpr : PairsAre (· ∈ rest) prs.toList sixPairs) (hsub : ∀ q ∈ rest, q ∈ news)
    (h : ∀ D t u, News g L s.heap ((D, tupS (pairAt look).1 (pairAt look).2 t u) :: news) → Q (.ref D) s)
    (hs : subscripted slice false (.ref PAIRS) (.int ((look.fdiv 4).fmod 6) u) = operate [.ref PAIRS, .int ((look.fdiv 4).fmod 6) u] (getItem (.ref PAIRS) (.int ((look.fdiv 4).fmod 6) u)) := by with_unfolding_all rfl) :
    wpAny (model prog w) A (subscriptTail value slice (.ref PAIRS) (.int ((look.fdiv 4).fmod 6) u)) Q E s := by
  have hl : s.heap.IsList PAIRS prs := ⟨_, (N _ hP).1, rfl, _, rfl⟩
  have hb := fmod_bd (look.fdiv 4) 6 (by decide)
  have hx : sixPairs[((look.fdiv 4).fmod 6).toNat]? = some (pairAt look) := by
    unfold pairAt
    have : ((look.fdiv 4).fmod 6).toNat < sixPairs.length := by show _ < 6; omega
    rw [List.getD_eq_getElem?_getD, List.getElem?_eq_getElem this]; rfl
  obtain ⟨D, t, u', hv, hD⟩ := hpr.at hx
  refine tail_any hl.typeIs slot_list_getitem.lookup (wpAny_getItem_list hl hb.1 (by omega) (x := .ref D) (by rw [← hv]; simp) ?_) hs
  exact h D t u' fun q hq => by
    rcases List.mem_cons.mp hq with rfl | hq
    · exact N _ (hsub _ hD)
    · exact N q hq
theorem ahead_K {l : Addr} {t0 t1 t2 t3 : Tok} {n : Nat} {look : Int} {u : Tok} (N : News g L s.heap news) (hl : (l, W.listOf #[.str (Str.ofString "") t0, .str (Str.ofString "00") t1, .str (Str.ofString "+") t2, .str (Str.ofString " ") t3] n) ∈ news)
    (h : ∀ t, Q (.str (aheadOf look) t) s)
    (hs : subscripted slice false (.ref l) (.int (look.fmod 4) u) = operate [.ref l, .int (look.fmod 4) u] (getItem (.ref l) (.int (look.fmod 4) u)) := by with_unfolding_all rfl) :
    wpAny (model prog w) A (subscriptTail value slice (.ref l) (.int (look.fmod 4) u)) Q E s := by
  have hl' : s.heap.IsList l _ := ⟨_, (N _ hl).1, rfl, _, rfl⟩
  have hb := fmod_bd look 4 (by decide)
  have hk : look.fmod 4 = 0 ∨ look.fmod 4 = 1 ∨ look.fmod 4 = 2 ∨ look.fmod 4 = 3 := int4 (fmod_bd look 4 (by decide))
  have hx : ∃ t, (#[Value.str (Str.ofString "") t0, .str (Str.ofString "00") t1, .str (Str.ofString "+") t2, .str (Str.ofString " ") t3])[(look.fmod 4).toNat]? = some (.str (aheadOf look) t) := by
    unfold aheadOf
    rcases hk with e | e | e | e <;> rw [e] <;> exact ⟨_, rfl⟩
  obtain ⟨t, hx⟩ := hx
  exact tail_any hl'.typeIs slot_list_getitem.lookup (wpAny_getItem_list hl' hb.1 (by omega) hx (h t)) hs
end
end Mine
end

section
set_option maxRecDepth 100000
namespace Mine
open PySem PySem.W PySem.Calls PyProof.Rows PySem.Spec
noncomputable def forBody : Stmt → List Stmt
  | .For _ _ b _ _ => b
  | _ => []
noncomputable def forTgt : Stmt → Expr
  | .For t _ _ _ _ => t
  | _ => .Constant .none 0 default
noncomputable def headS : List Stmt → Stmt
  | x :: _ => x
  | [] => .Pass default
/-- the body of law's main loop -/
noncomputable def mainBody (body : List Stmt) : List Stmt := forBody (headS body.tail.tail.tail.tail.tail.tail.tail.tail.tail)
noncomputable def mainTgt (body : List Stmt) : Expr := forTgt (headS body.tail.tail.tail.tail.tail.tail.tail.tail.tail)
inductive LawAt (w : World) (qual : Str) (body : List Stmt) (scope : Scope) : Prop
  | mk (oc : Value) (od : Option Addr) (name : Str) (params : Arguments) (dV kV doc pm : Value) (an : Option Addr) (cdv ct : Value) (osl : Array (Option Value)) (h : (Mine.hd.heap_39 w.params).lookup 67 = some ⟨oc, od, .func (fnOf name qual params body scope dV kV doc pm an cdv ct), osl⟩)
/-- what holds of law's own text holds of whatever is read at its place -/
theorem viaLaw {w : World} {P : Str → List Stmt → Scope → Prop} {oc : Value} {od : Option Addr} {name qual : Str} {params : Arguments} {body : List Stmt} {scope : Scope} {dV kV doc pm cdv ct : Value} {an : Option Addr} {osl : Array (Option Value)}
    (ho : (Mine.hd.heap_39 w.params).lookup 67 = some ⟨oc, od, .func (fnOf name qual params body scope dV kV doc pm an cdv ct), osl⟩) (h : P qual body scope) :
    ∀ qual' body' scope', LawAt w qual' body' scope' → P qual' body' scope' := by
  rintro q' b' s' ⟨oc', od', n', p', dV', kV', doc', pm', an', cdv', ct', osl', e⟩
  rw [ho] at e
  have h1 := Option.some.inj e
  have h2 := congrArg Obj.data h1
  simp only [Data.func.injEq] at h2
  have e1 : qual = q' := congrArg FuncData.qualname h2
  have e2 : body = b' := by have h3 := congrArg FuncData.body h2; injection h3
  have e3 : scope = s' := congrArg FuncData.scope h2
  subst e1 e2 e3
  exact h
theorem newsOf {g h : Heap} {L : Addr} {all l : List (Addr × Obj)} (N : News g L h all) (hs : ∀ q ∈ l, q ∈ all) : News g L h l := fun q hq => N q (hs q hq)
theorem subC {a : Addr × Obj} {l all : List (Addr × Obj)} (h : a ∈ all) (k : ∀ q ∈ l, q ∈ all) : ∀ q ∈ a :: l, q ∈ all := List.forall_mem_cons.mpr ⟨h, k⟩
/-- what the frame holds behind the turn's first five statements -/
structure M5 (TEXTS KEPT PAIRS COL SEEN WANTED : Addr) (st : St) (a b c d : Int) (t1 t2 t3 t4 t5 t6 t7 : Tok) (m : Str → Option Value) : Prop where
  all : ∀ p ∈ [(Str.ofString "pairs", Value.ref PAIRS), (Str.ofString "texts", Value.ref TEXTS), (Str.ofString "kept", Value.ref KEPT), (Str.ofString "begun", Value.bool st.begun), (Str.ofString "due", Value.str st.due t1), (Str.ofString "where", Value.int a t2), (Str.ofString "pale", Value.int b t3), (Str.ofString "light", Value.int c t4), (Str.ofString "look", Value.int d t5),
    (Str.ofString "colour", Value.ref COL), (Str.ofString "seen", Value.ref SEEN), (Str.ofString "before", Value.str (pairAt d).1 t6), (Str.ofString "behind", Value.str (pairAt d).2 t7), (Str.ofString "wanted", Value.ref WANTED)], m p.1 = some p.2
end Mine
end

section
set_option maxRecDepth 100000
namespace Mine
open PySem PySem.W PySem.Calls PyProof.Rows PySem.Spec
noncomputable def is0 (x : UInt64) : Bool := Float64.cmpInt x 0 == some Ordering.eq
/-- what the law asks of the three numbers -/
structure SeenMore (a b c : Int) (H S V : UInt64) : Prop where
  v0 : (Float64.cmpInt V 0 == some Ordering.eq) = decide (c = 0)
  s0 : c ≠ 0 → (Float64.cmpInt S 0 == some Ordering.eq) = decide (b = 0)
  vf : c ≠ 0 → Float64.isFinite (Float64.mul V (Float64.ofInt 8)) = true
  v8 : c ≠ 0 → Flt.toInt Float64.truncOf (Float64.mul V (Float64.ofInt 8)) = c
  sf : c ≠ 0 → b ≠ 0 → Float64.isFinite (Float64.mul S (Float64.ofInt 8)) = true
  s8 : c ≠ 0 → b ≠ 0 → Flt.toInt Float64.truncOf (Float64.mul S (Float64.ofInt 8)) = b
  hf : c ≠ 0 → b ≠ 0 → Float64.isFinite (Float64.mul H (Float64.ofInt 96)) = true
  h96 : c ≠ 0 → b ≠ 0 → Flt.toInt Float64.truncOf (Float64.mul H (Float64.ofInt 96)) = a
section
variable {prog : Program} {w : World} {A : Around} {E : Value → Shared → Prop} {s : Shared} {Q : Value → Shared → Prop}
theorem intF_K {x : UInt64} {n : Int} {t : Tok} (hA : A.handled = none) (hf : Float64.isFinite x = true) (hv : Flt.toInt Float64.truncOf x = n) (h : ∀ t k, Q (.int n t) { s with toks := k }) : wpAny (model prog w) A (call (.type "int") [.float x t]) Q E s := by
  have hnan := Flt.not_nan_of_finite hf
  have hinf : Float64.isInf x = false := by have := hf; rw [Flt.nan_or_inf_or_finite] at this; simp at this; exact this.2
  refine Flt.call_int_float3 hA (fun e => ?_) (fun e => ?_) (fun _ => ?_)
  · rw [hnan] at e; cases e
  · rw [hinf] at e; cases e
  · rw [hv]; exact h _ _
theorem addS_K {x y : Str} {t u : Tok} (hx : x.length ≤ 10000) (hy : y.length ≤ 10000) (h : ∀ t' tk, Q (.str (x ++ y) t') { s with toks := tk }) : wpAny (model prog w) A (binaryOp .Add (.str x t) (.str y u)) Q E s :=
  PyProof.Rows.add_str h (Nat.le_trans (Nat.add_le_add hx hy) (by size_fits))
theorem strI_K {n : Int} {t : Tok} (h0 : 0 ≤ n) (h1 : n < 100) (h : ∀ t' k, Q (.str (strI n) t') { s with toks := k }) : wpAny (model prog w) A (call (.type "str") [.int n t]) Q E s :=
  PySem.P.str_of_int (Nat.lt_of_le_of_lt (Nat.log2_le_self _) (by omega)) (h _ _)
end
/-- what the frame holds behind the text -/
structure M7 (TEXTS KEPT PAIRS COL WANTED : Addr) (st : St) (a b c d : Int) (t1 t3 t4 t5 t6 t7 : Tok) (m : Str → Option Value) : Prop where
  all : ∀ p ∈ [(Str.ofString "pairs", Value.ref PAIRS), (Str.ofString "texts", Value.ref TEXTS), (Str.ofString "kept", Value.ref KEPT), (Str.ofString "begun", Value.bool st.begun), (Str.ofString "due", Value.str st.due t1), (Str.ofString "pale", Value.int b t3), (Str.ofString "light", Value.int c t4), (Str.ofString "look", Value.int d t5),
    (Str.ofString "colour", Value.ref COL), (Str.ofString "before", Value.str (pairAt d).1 t6), (Str.ofString "text", Value.str (textOf (a, b, c, d)) t7), (Str.ofString "wanted", Value.ref WANTED)], m p.1 = some p.2
theorem pair_len (d : Int) : (pairAt d).1.length ≤ 1 ∧ (pairAt d).2.length ≤ 1 := by
  have hb := fmod_bd (d.fdiv 4) 6 (by decide)
  unfold pairAt
  have : ((d.fdiv 4).fmod 6).toNat < 6 := by omega
  generalize ((d.fdiv 4).fmod 6).toNat = k at this
  have hk : k = 0 ∨ k = 1 ∨ k = 2 ∨ k = 3 ∨ k = 4 ∨ k = 5 := nat6 this
  rcases hk with rfl | rfl | rfl | rfl | rfl | rfl <;> decide
theorem mul_len (x : Str) (n : Int) (hn : n ≤ 3) (hx : x.length ≤ 7) : (Txt.mul x n).length ≤ 100 := Nat.le_trans (len_mul_leN (L := 7) (N := 3) hx hn) (by decide)
theorem strI_len {n : Int} (h0 : 0 ≤ n) (h1 : n < 100) : (strI n).length ≤ 2 := by
  have : ∀ k : Fin 100, (Str.ofString (toString ((k.val : Nat) : Int))).length ≤ 2 := by decide +kernel
  have h := this ⟨n.toNat, by omega⟩
  have e : ((n.toNat : Nat) : Int) = n := by omega
  simp only [e] at h
  exact h
end Mine
end

section
set_option maxRecDepth 100000
namespace Mine
open PySem PySem.W PySem.Calls PyProof.Rows PySem.Spec
/-- the else branch of an if -/
noncomputable def elseBody : Stmt → List Stmt
  | .If _ _ e _ => e
  | _ => []
/-- the statements behind `spelled` in the turn's coloured branch -/
noncomputable def innerBody (body : List Stmt) : List Stmt := (elseBody (headS (elseBody (headS (mainBody body).tail.tail.tail.tail.tail)))).tail.tail
noncomputable def spelledOf (a b c d : Int) : List Str := [aheadOf d ++ strI a, aheadOf d ++ strI b, aheadOf d ++ strI c, aheadOf d ++ strI 99]
noncomputable def spoiltAt (l : List Str) (k : Nat) (y : Str) : List Str := l.take k ++ [y] ++ l.drop (k + 1)
noncomputable def spoiltOf (a b c d : Int) : List Str := spoiltAt (spelledOf a b c d) (a.fmod 4).toNat (if (a.fdiv 4).fmod 2 = 1 then (spelledOf a b c d).getD (a.fmod 4).toNat Str.empty ++ Str.ofString "b" else Str.ofString "")
/-- what the coloured branch leans on -/
structure ColourOk (a b c d : Int) : Prop where
  s1 : StraightOk (spelledOf a b c d) [strI a, strI b, strI c] 1
  s2 : StraightOk (spoiltOf a b c d) ((spoiltOf a b c d).take 3) (a.fmod 4 + 1)
  n : NormOk (Txt.join (Str.ofString ".") (spelledOf a b c d)) (Str.ofString "") (Txt.join (Str.ofString ".") [strI a, strI b, strI c])
section
variable {prog : Program} {w : World} {A : Around} {E : Value → Shared → Prop} {s : Shared} {h₀ : Heap} {L : Addr} {m : Str → Option Value} {env : Env}
/-- a tuple of the ledger as the source of a comprehension -/
noncomputable def SrcT (prog : Program) (w : World) (A : Around) (h₀ : Heap) (L : Addr) (m : Str → Option Value) (env : Env) (elt : Expr) (x : Str) (scope : Scope) (cl : List (Str × Addr)) (y : Str) (Q : Flow → Shared → Prop) (xv : Value) (s₁ : Shared) : Prop :=
  ∃ T its news, xv = .ref T ∧ A.handled = none ∧ Fr h₀ L s₁.heap m ∧ News h₀ L s₁.heap news ∧ (T, ({ cls := .type "tuple", data := .seq its } : Obj)) ∈ news ∧ its.size ≤ 1000 ∧
    ∀ g, LCg.CompRest prog w A h₀ L m env elt x scope cl { s₁ with heap := g } (fun nw => (T, ({ cls := .type "tuple", data := .seq its } : Obj)) ∈ nw) (fun i v => its[i]? = some v) (LCg.FinA h₀ L m { s₁ with heap := g } y Q) its.size 0 [] news
theorem comp_tuple {elt iter : Expr} {x y : Str} {px py : Pos} {scope : Scope} {cl : List (Str × Addr)} {pos spos : Pos} {Q : Flow → Shared → Prop} (_F₀ : Fr h₀ L s.heap m) (hLe : env.locals = L)
    (hsw : swapsWith (.ListComp elt [⟨.Name x px, iter, [], 0⟩] scope pos) (some (.Name y py)) spos.line env = pure true)
    (hclos : closureFor scope env = pure cl) (hcell : ∀ z ∈ scope.names, z.2 ≠ .cell) (hkind : scope.kind = .function)
    (hnames : ∀ z ∈ scope.names, z.2 = .local → scope.names.lookup z.1 = some .local) (hx : scope.names.lookup x = some .local)
    (hy : env.kindOf y = some .local) (hp : (env.scope.kind == .class || (env.scope.kind == .module && env.locals != env.globals)) = false)
    (h : wpAny (model prog w) A (eval iter env) (SrcT prog w A h₀ L m env elt x scope cl y Q) E s)
    (hs : ∀ x, foldedSetIterable iter env x = pure x) :
    wpAny (model prog w) A (exec (.Assign [.Name y py] (.ListComp elt [⟨.Name x px, iter, [], 0⟩] scope pos) spos) env) Q E s := by
  subst hLe
  rw [exec_Assign_Name_used _ _ _ _ hsw]
  refine wpAny_bind (wpAny_standAt (wpAny_bind ?_))
  show wpAny _ A (do let _ ← comprehension (.ListComp elt [⟨.Name x px, iter, [], 0⟩] scope pos) scope env _ (newList []) false (eval iter env) (some (assign (.Name y py) env))) _ _ s
  refine wpAny_bind (wpAny_mono (wpAny_comprehension_free (use := some (assign (.Name y py) env)) (Q := fun _ s' => Q .next s') rfl hs hclos hkind hnames
    (wpAny_mono h (fun xv s₁ h₁ => ?_) fun _ _ e => e)) (fun _ s' hq => wpAny_pure (wpAny_pure hq)) fun _ _ e => e)
  obtain ⟨T, its, news, rfl, hh, F, N, hT, hsz, R⟩ := h₁
  have ht : s₁.heap.IsTuple T its := ⟨_, (N _ hT).1, rfl, 0, rfl⟩
  have hlt : T < s₁.heap.objs.size := Heap.lt_size (N _ hT).1
  refine wpAny_pyIter_tuple ht ?_
  refine LCg.block_U (Walks.tuple hh s₁.heap.objs.size T (Nat.ne_of_lt hlt) its) (Nat.le_trans hsz (by size_fits)) (fun i h st => by obtain ⟨o, e, _⟩ := st.1; exact ⟨o, e⟩) ?_ hcell hkind hx ⟨⟨_, Heap.get?_push_size _ rfl, rfl, rfl⟩, ht.push _⟩ ?_
    (F.push _) (N.grown fun _ _ e => Heap.get?_push_of_some _ e) (Nat.ne_of_lt F.ns.lt) (next_is_new F) (fun p hp => Nat.ne_of_lt (Heap.lt_size (N p hp).1)) hT (R _) ?_
  · intro i h h' o nw st e e' _ N' S'
    refine ⟨?_, ⟨_, (N' _ S').1, rfl, 0, rfl⟩⟩
    obtain ⟨o', q, r⟩ := st.1
    rw [e] at q; cases q
    exact ⟨o, e', r⟩
  · intro b hb
    show b < (s₁.heap.push _).objs.size
    rw [Heap.size_push]
    simp only [List.mem_cons, List.not_mem_nil, or_false] at hb
    rcases hb with rfl | rfl
    · exact Nat.lt_succ_self _
    · exact Nat.lt_succ_of_lt hlt
  · intro D C h' tk m' ys news' F' N' o1 hn hC₀ hD₀ hCL hDL hCD offC fin
    show wpAny _ A (assign (.Name y py) env (.ref D)) _ _ _
    refine wpAny_assign_Name (wpAny_storeName_local hy F'.ns (fun h₂ hn₂ hs₂ => ?_) hp)
    refine ⟨m', hn.sameBut hs₂ hCL, fun h'' hs'' => fin D h'' _ ((F'.set hn₂ hs₂).change hs'' hCL hC₀) (fun p hp => ?_) o1⟩
    have hpC : p.1 ≠ C := by
      rcases List.mem_cons.mp hp with rfl | hp
      · exact Ne.symm hCD
      · exact offC p hp
    exact ⟨hs''.extBut _ _ hpC (hs₂.extBut _ _ (N' p hp).2.1 (N' p hp).1), (N' p hp).2⟩
end
end Mine
end

section
set_option maxRecDepth 100000
namespace Mine
open PySem PySem.W PySem.Calls PySem.StrLaws PySem.Builtin PySem.Builtin.Str PyProof.Rows PySem.Spec
noncomputable def FreeW (x : Str) : Prop := 46 ∉ ls x ∧ x.length ≤ 5
structure Wd (x : Str) (n : Int) : Prop where
  int : PySem.intText? x = some n
  free : FreeW x
  lo : 0 ≤ n
  hi : n < 100
noncomputable def BadW (y : Str) : Prop := Bad y ∧ FreeW y
theorem dot_eq : Str.ofString "." = ⟨#[46]⟩ := by decide
theorem strI_nat {n : Int} (h : 0 ≤ n) : strI n = Str.ofString (toString ((n.toNat : Nat) : Int)) := by unfold strI; rw [Int.toNat_of_nonneg h]
theorem strI_dig {n : Int} (h0 : 0 ≤ n) (h1 : n < 100) : digs (ls (strI n)) = true := by
  rw [strI_nat h0]; exact tabDig ⟨n.toNat, by omega⟩
theorem digs_len {l : List Nat} (h : digs l = true) : l ≠ [] ∧ l.length ≤ 2 ∧ ∀ c ∈ l, 48 ≤ c ∧ c ≤ 57 := by
  unfold digs at h
  simp only [Bool.and_eq_true, decide_eq_true_eq, List.all_eq_true, Bool.not_eq_true'] at h
  exact ⟨fun e => by rw [e] at h; simp at h, h.1.2, h.2⟩
theorem aheads_free : ∀ k : Fin 4, 46 ∉ ls (aheads4.getD k.val Str.empty) ∧ (aheads4.getD k.val Str.empty).length ≤ 2 ∧ ∀ c ∈ ls (aheads4.getD k.val Str.empty), c < 128 := by decide +kernel
theorem aheadOf_eq (d : Int) : aheadOf d = aheads4.getD (d.fmod 4).toNat Str.empty := rfl
theorem fmod4_nat (d : Int) : (d.fmod 4).toNat < 4 := by have := fmod_bd d 4 (by decide); omega
theorem wd_ahead {n : Int} (d : Int) (h0 : 0 ≤ n) (h1 : n < 100) : Wd (aheadOf d ++ strI n) n := by
  have ha := aheads_free ⟨_, fmod4_nat d⟩
  have hd := digs_len (strI_dig h0 h1)
  rw [aheadOf_eq]
  refine ⟨?_, ⟨?_, ?_⟩, h0, h1⟩
  · have := tabInt ⟨_, fmod4_nat d⟩ ⟨n.toNat, by omega⟩
    dsimp only at this
    rw [strI_nat h0]; rw [this, Int.toNat_of_nonneg h0]
  · rw [ls_app, List.mem_append]
    rintro (h | h)
    · exact ha.1 h
    · have := hd.2.2 _ h; omega
  · rw [ls_len, ls_app, List.length_append, ← ls_len]
    have := ha.2.1
    have := hd.2.1
    dsimp only at *
    omega
theorem badW_of {y : Str} (h : PySem.intText? y = none) (hf : FreeW y) (hc : ∀ c ∈ ls y, c < 128) : BadW y := by
  refine ⟨⟨h, Nat.le_trans hf.2 (by decide), ?_⟩, hf⟩
  refine Nat.le_trans (reprText_len y fun c hc' => Nat.lt_of_lt_of_le (hc c hc') (by decide)) ?_
  have := hf.2
  have e : sizeLine = 16777216 := by decide
  omega
theorem badW_b {n : Int} (d : Int) (h0 : 0 ≤ n) (h1 : n < 100) : BadW (aheadOf d ++ strI n ++ Str.ofString "b") := by
  have ha := aheads_free ⟨_, fmod4_nat d⟩
  have hd := digs_len (strI_dig h0 h1)
  rw [aheadOf_eq]
  have eb : ls (Str.ofString "b") = [98] := by decide
  refine badW_of ?_ ⟨?_, ?_⟩ ?_
  · have := tabBad ⟨_, fmod4_nat d⟩ ⟨n.toNat, by omega⟩
    dsimp only at this
    rw [strI_nat h0]; exact this
  · rw [ls_app, ls_app, eb, List.mem_append, List.mem_append]
    rintro ((h | h) | h)
    · exact ha.1 h
    · have := hd.2.2 _ h; omega
    · simp at h
  · rw [ls_len, ls_app, ls_app, eb, List.length_append, List.length_append, ← ls_len]
    have := ha.2.1
    have := hd.2.1
    dsimp only at *
    simp only [List.length_cons, List.length_nil]
    omega
  · intro c hc
    rw [ls_app, ls_app, eb, List.mem_append, List.mem_append] at hc
    rcases hc with (h | h) | h
    · exact ha.2.2 c h
    · have := hd.2.2 _ h; omega
    · simp at h; omega
theorem badW_nil : BadW (Str.ofString "") := badW_of tabBad0 ⟨by decide, by decide⟩ (by decide)
theorem pieces1 {xs : List Str} (h : xs ≠ []) (hx : ∀ x ∈ xs, FreeW x) : pieces (Txt.join (Str.ofString ".") xs) (Str.ofString "") = xs := by
  unfold pieces
  rw [dot_eq, split_join h fun x hx' => (hx x hx').1, if_pos (by decide), List.append_nil]
theorem pieces2 {xs : List Str} {b : Str} (h : xs ≠ []) (hx : ∀ x ∈ xs, FreeW x) (hb : b ≠ Str.ofString "") : pieces (Txt.join (Str.ofString ".") xs) b = xs ++ [b] := by
  unfold pieces
  rw [dot_eq, split_join h fun x hx' => (hx x hx').1, if_neg]
  intro e; apply hb
  have e2 : ls b = [] := List.eq_nil_of_length_eq_zero (by rw [← ls_len]; exact e)
  exact ls_inj (by rw [e2]; decide)
theorem joinW_len {xs : List Str} (hx : ∀ x ∈ xs, FreeW x) (hl : xs.length ≤ 4) : (Txt.join (Str.ofString ".") xs).length < 100 := by
  rw [txt_join]
  have h1 := StrLaws.join_length_le (Str.ofString ".") xs
  have h2 := sum_le (ys := xs) (B := 5) fun y hy => (hx y hy).2
  have h3 : xs.length * 5 ≤ 4 * 5 := Nat.mul_le_mul_right _ hl
  have e : (Str.ofString ".").length = 1 := by decide
  rw [e] at h1
  omega
theorem normOk_good {a b : Str} (xs : List (Str × Int)) (hx : ∀ p ∈ xs, Wd p.1 p.2) (hl : xs.length ≤ 4) (ha : a.length < 100) (hb : b.length < 100) (hp : pieces a b = xs.map (·.1)) :
    NormOk a b (Txt.join (Str.ofString ".") ((xs.map fun p => strI p.2).take 3)) := by
  refine ⟨ha, hb, xs, [], ?_, fun y r e => (nomatch e), ?_, by omega, Nat.zero_le _, ?_, ?_, ?_⟩
  · rw [hp, List.append_nil]
  · intro p hp
    have h := hx p hp
    refine ⟨h.int, Nat.le_trans h.free.2 (by decide), ?_⟩
    have h0 := h.lo
    have h1 := h.hi
    refine Nat.lt_of_le_of_lt (Nat.log2_le_self _) ?_
    omega
  · intro y hy
    obtain ⟨p, hp, rfl⟩ := List.mem_map.mp hy
    exact Nat.le_trans (strI_len (hx p hp).lo (hx p hp).hi) (by decide)
  · intro y hy
    rw [List.append_nil] at hy
    obtain ⟨p, hp, rfl⟩ := List.mem_map.mp hy
    exact Nat.le_trans (hx p hp).free.2 (by decide)
  · rw [normList_ok rfl]; rfl
theorem normOk_bad {a b : Str} (xs : List (Str × Int)) {y : Str} (zs : List Str) (hx : ∀ p ∈ xs, Wd p.1 p.2) (hy : BadW y) (hz : ∀ z ∈ zs, FreeW z) (hl : xs.length ≤ 4) (hl2 : zs.length ≤ 4) (ha : a.length < 100) (hb : b.length < 100)
    (hp : pieces a b = xs.map (·.1) ++ y :: zs) : NormOk a b (Txt.join (Str.ofString ".") ((xs.map (·.1) ++ y :: zs).take 3)) := by
  refine ⟨ha, hb, xs, y :: zs, hp, fun y' r e => by rw [← (List.cons.inj e).1]; exact hy.1, ?_, by omega, by simp only [List.length_cons]; omega, ?_, ?_, ?_⟩
  · intro p hp
    have h := hx p hp
    refine ⟨h.int, Nat.le_trans h.free.2 (by decide), ?_⟩
    have h0 := h.lo
    have h1 := h.hi
    refine Nat.lt_of_le_of_lt (Nat.log2_le_self _) ?_
    omega
  · intro y hy
    obtain ⟨p, hp, rfl⟩ := List.mem_map.mp hy
    exact Nat.le_trans (strI_len (hx p hp).lo (hx p hp).hi) (by decide)
  · intro w hw
    rcases List.mem_append.mp hw with hw | hw
    · obtain ⟨p, hp, rfl⟩ := List.mem_map.mp hw
      exact Nat.le_trans (hx p hp).free.2 (by decide)
    · rcases List.mem_cons.mp hw with rfl | hw
      · exact Nat.le_trans hy.2.2 (by decide)
      · exact Nat.le_trans (hz _ hw).2 (by decide)
  · rw [normList_bad (List.cons_ne_nil _ _)]
/-- a text of good pieces, bare -/
theorem n1g (ws : List Str) (xs : List (Str × Int)) (e : ws = xs.map (·.1)) (h : ws ≠ []) (hx : ∀ p ∈ xs, Wd p.1 p.2) (hl : xs.length ≤ 4) :
    NormOk (Txt.join (Str.ofString ".") ws) (Str.ofString "") (Txt.join (Str.ofString ".") ((xs.map fun p => strI p.2).take 3)) := by
  subst e
  have hf : ∀ x ∈ xs.map (·.1), FreeW x := fun x hx' => by obtain ⟨p, hp, rfl⟩ := List.mem_map.mp hx'; exact (hx p hp).free
  exact normOk_good xs hx hl (joinW_len hf (by rw [List.length_map]; exact hl)) (by decide) (pieces1 h hf)
theorem n2g (ws : List Str) (b : Str) (xs : List (Str × Int)) (e : ws ++ [b] = xs.map (·.1)) (h : ws ≠ []) (hb : b ≠ Str.ofString "") (hx : ∀ p ∈ xs, Wd p.1 p.2) (hl : xs.length ≤ 4) :
    NormOk (Txt.join (Str.ofString ".") ws) b (Txt.join (Str.ofString ".") ((xs.map fun p => strI p.2).take 3)) := by
  have hf : ∀ x ∈ ws ++ [b], FreeW x := fun x hx' => by rw [e] at hx'; obtain ⟨p, hp, rfl⟩ := List.mem_map.mp hx'; exact (hx p hp).free
  have hfw : ∀ x ∈ ws, FreeW x := fun x hx' => hf x (List.mem_append_left _ hx')
  have hfb := hf b (List.mem_append_right _ (.head _))
  have hlw : ws.length ≤ 4 := by have := congrArg List.length e; rw [List.length_append, List.length_map] at this; exact Nat.le_trans (Nat.le_add_right _ _) (this ▸ hl)
  exact normOk_good xs hx hl (joinW_len hfw hlw) (Nat.lt_of_le_of_lt hfb.2 (by decide)) (by rw [pieces2 h hfw hb, e])
theorem n1b (ws : List Str) (xs : List (Str × Int)) (y : Str) (zs : List Str) (e : ws = xs.map (·.1) ++ y :: zs) (hx : ∀ p ∈ xs, Wd p.1 p.2) (hy : BadW y) (hz : ∀ z ∈ zs, FreeW z) (hl : ws.length ≤ 4) :
    NormOk (Txt.join (Str.ofString ".") ws) (Str.ofString "") (Txt.join (Str.ofString ".") (ws.take 3)) := by
  have hlw := hl
  rw [e] at hl
  simp only [List.length_append, List.length_map, List.length_cons] at hl
  have hf : ∀ x ∈ ws, FreeW x := fun x hx' => by
    rw [e] at hx'
    rcases List.mem_append.mp hx' with hw | hw
    · obtain ⟨p, hp, rfl⟩ := List.mem_map.mp hw; exact (hx p hp).free
    · rcases List.mem_cons.mp hw with rfl | hw
      · exact hy.2
      · exact hz _ hw
  have := normOk_bad (a := Txt.join (Str.ofString ".") ws) (b := Str.ofString "") xs zs hx hy hz (Nat.le_trans (Nat.le_add_right _ _) hl) (Nat.le_trans (Nat.le_succ _) (Nat.le_trans (Nat.le_add_left _ _) hl)) (joinW_len hf hlw) (by decide) (by rw [pieces1 (by rw [e]; simp) hf, e])
  rw [← e] at this; exact this
theorem n2b (ws : List Str) (b : Str) (xs : List (Str × Int)) (y : Str) (zs : List Str) (e : ws ++ [b] = xs.map (·.1) ++ y :: zs) (h : ws ≠ []) (hb : b ≠ Str.ofString "") (hx : ∀ p ∈ xs, Wd p.1 p.2) (hy : BadW y) (hz : ∀ z ∈ zs, FreeW z) (hl : ws.length ≤ 3) :
    NormOk (Txt.join (Str.ofString ".") ws) b (Txt.join (Str.ofString ".") ((ws ++ [b]).take 3)) := by
  have hl2 : (ws ++ [b]).length ≤ 4 := by rw [List.length_append]; exact Nat.add_le_add_right hl 1
  have hl3 := hl2
  rw [e] at hl3
  simp only [List.length_append, List.length_map, List.length_cons] at hl3
  have hf : ∀ x ∈ ws ++ [b], FreeW x := fun x hx' => by
    rw [e] at hx'
    rcases List.mem_append.mp hx' with hw | hw
    · obtain ⟨p, hp, rfl⟩ := List.mem_map.mp hw; exact (hx p hp).free
    · rcases List.mem_cons.mp hw with rfl | hw
      · exact hy.2
      · exact hz _ hw
  have hfw : ∀ x ∈ ws, FreeW x := fun x hx' => hf x (List.mem_append_left _ hx')
  have hfb := hf b (List.mem_append_right _ (.head _))
  have := normOk_bad (a := Txt.join (Str.ofString ".") ws) (b := b) xs zs hx hy hz (Nat.le_trans (Nat.le_add_right _ _) hl3) (Nat.le_trans (Nat.le_succ _) (Nat.le_trans (Nat.le_add_left _ _) hl3)) (joinW_len hfw (Nat.le_succ_of_le hl)) (Nat.lt_of_le_of_lt hfb.2 (by decide)) (by rw [pieces2 h hfw hb, e])
  rw [← e] at this; exact this
theorem bne_ne {x y : Str} (h : (x != y) = true) : x ≠ y := by simpa using h
theorem cases4 {c : Int} {k : Nat} (h1 : (k : Int) ≤ c) (h4 : c ≤ 4) : c = 0 ∧ k = 0 ∨ c < 0 ∨ c = 1 ∨ c = 2 ∨ c = 3 ∨ c = 4 := by
  obtain ⟨j, rfl, hj⟩ := intAt (n := 5) (Int.le_trans (Int.natCast_nonneg k) h1) (Int.lt_of_le_of_lt h4 (by decide))
  match j, hj with
  | 0, _ => exact .inl ⟨rfl, Nat.le_zero.mp (Int.ofNat_le.mp h1)⟩
  | 1, _ => exact .inr (.inr (.inl rfl))
  | 2, _ => exact .inr (.inr (.inr (.inl rfl)))
  | 3, _ => exact .inr (.inr (.inr (.inr (.inl rfl))))
  | 4, _ => exact .inr (.inr (.inr (.inr (.inr rfl))))
theorem straight_good {x0 x1 x2 x3 : Str} {n0 n1 n2 n3 : Int} (h0 : Wd x0 n0) (h1 : Wd x1 n1) (h2 : Wd x2 n2) (h3 : Wd x3 n3) : StraightOk [x0, x1, x2, x3] [strI n0, strI n1, strI n2] 1 := by
  have g1 : ∀ p ∈ [(x0, n0)], Wd p.1 p.2 := List.forall_mem_cons.mpr ⟨h0, List.forall_mem_nil _⟩
  have g2 : ∀ p ∈ [(x0, n0), (x1, n1)], Wd p.1 p.2 := List.forall_mem_cons.mpr ⟨h0, List.forall_mem_cons.mpr ⟨h1, List.forall_mem_nil _⟩⟩
  have g3 : ∀ p ∈ [(x0, n0), (x1, n1), (x2, n2)], Wd p.1 p.2 := List.forall_mem_cons.mpr ⟨h0, List.forall_mem_cons.mpr ⟨h1, List.forall_mem_cons.mpr ⟨h2, List.forall_mem_nil _⟩⟩⟩
  have g4 : ∀ p ∈ [(x0, n0), (x1, n1), (x2, n2), (x3, n3)], Wd p.1 p.2 := List.forall_mem_cons.mpr ⟨h0, List.forall_mem_cons.mpr ⟨h1, List.forall_mem_cons.mpr ⟨h2, List.forall_mem_cons.mpr ⟨h3, List.forall_mem_nil _⟩⟩⟩⟩
  refine ⟨rfl, by simp, ?_, ?_, by decide, by decide, ?_, ?_⟩
  · intro y hy
    simp only [List.mem_cons, List.not_mem_nil, or_false] at hy
    rcases hy with rfl | rfl | rfl | rfl
    · exact Nat.le_trans h0.free.2 (by decide)
    · exact Nat.le_trans h1.free.2 (by decide)
    · exact Nat.le_trans h2.free.2 (by decide)
    · exact Nat.le_trans h3.free.2 (by decide)
  · intro y hy
    simp only [List.mem_cons, List.not_mem_nil, or_false] at hy
    rcases hy with rfl | rfl | rfl
    · exact Nat.le_trans (strI_len h0.lo h0.hi) (by decide)
    · exact Nat.le_trans (strI_len h1.lo h1.hi) (by decide)
    · exact Nat.le_trans (strI_len h2.lo h2.hi) (by decide)
  · intro c hc1 hc4
    rcases one4 hc1 hc4 with rfl | rfl | rfl | rfl
    · exact n1g [x0] [(x0, n0)] rfl (List.cons_ne_nil _ _) g1 (by simp)
    · exact n1g [x0, x1] [(x0, n0), (x1, n1)] rfl (List.cons_ne_nil _ _) g2 (by simp)
    · exact n1g [x0, x1, x2] [(x0, n0), (x1, n1), (x2, n2)] rfl (List.cons_ne_nil _ _) g3 (by simp)
    · exact n1g [x0, x1, x2, x3] [(x0, n0), (x1, n1), (x2, n2), (x3, n3)] rfl (List.cons_ne_nil _ _) g4 (by simp)
  · intro c hc1 hc4 hc hne
    rcases one4 hc1 hc4 with rfl | rfl | rfl | rfl
    · exact absurd hc (by decide)
    · exact n2g [x0] x1 [(x0, n0), (x1, n1)] rfl (List.cons_ne_nil _ _) (bne_ne hne) g2 (by simp)
    · exact n2g [x0, x1] x2 [(x0, n0), (x1, n1), (x2, n2)] rfl (List.cons_ne_nil _ _) (bne_ne hne) g3 (by simp)
    · exact n2g [x0, x1, x2] x3 [(x0, n0), (x1, n1), (x2, n2), (x3, n3)] rfl (List.cons_ne_nil _ _) (bne_ne hne) g4 (by simp)
theorem straight_bad (xs : List (Str × Int)) (y : Str) (zs : List Str) (hx : ∀ p ∈ xs, Wd p.1 p.2) (hy : BadW y) (hz : ∀ z ∈ zs, FreeW z) (hl : xs.length + zs.length = 3) :
    StraightOk (xs.map (·.1) ++ y :: zs) ((xs.map (·.1) ++ y :: zs).take 3) ((xs.length : Int) + 1) := by
  have hf : ∀ x ∈ xs.map (·.1) ++ y :: zs, FreeW x := fun x hx' => by
    rcases List.mem_append.mp hx' with hw | hw
    · obtain ⟨p, hp, rfl⟩ := List.mem_map.mp hw; exact (hx p hp).free
    · rcases List.mem_cons.mp hw with rfl | hw
      · exact hy.2
      · exact hz _ hw
  have hlen : (xs.map (·.1) ++ y :: zs).length = 4 := by rw [List.length_append, List.length_map, List.length_cons, ← Nat.add_assoc, hl]
  have cut : ∀ n : Nat, xs.length + 1 ≤ n → (xs.map (·.1) ++ y :: zs).take n = xs.map (·.1) ++ y :: zs.take (n - xs.length - 1) := by
    intro n hn
    rw [List.take_append, List.take_of_length_le (by rw [List.length_map]; exact Nat.le_of_succ_le hn), List.length_map]
    obtain ⟨j, hj⟩ : ∃ j, n - xs.length = j + 1 := ⟨n - xs.length - 1, (Nat.sub_add_cancel (Nat.le_sub_of_add_le (by rw [Nat.add_comm]; exact hn))).symm⟩
    rw [hj]; rfl
  have low : ∀ {c : Int}, (xs.length : Int) + 1 ≤ c → xs.length + 1 ≤ c.toNat := fun {c} h => (Int.le_toNat (Int.le_trans (Int.add_nonneg (Int.natCast_nonneg _) (by decide)) h)).mpr h
  have comm : ∀ n : Nat, ((xs.map (·.1) ++ y :: zs).take 3).take n = ((xs.map (·.1) ++ y :: zs).take n).take 3 := fun n => by rw [List.take_take, List.take_take, Nat.min_comm]
  have hx3 : xs.length + 1 ≤ 4 := Nat.add_le_add_right (hl ▸ Nat.le_add_right _ _) 1
  refine ⟨hlen, Nat.le_trans (List.length_take_le _ _) (by decide), fun y hy => Nat.le_trans (hf y hy).2 (by decide), fun y hy => Nat.le_trans (hf y (List.mem_of_mem_take hy)).2 (by decide), Int.le_add_of_nonneg_left (Int.natCast_nonneg _), Int.ofNat_le.mpr hx3, ?_, ?_⟩
  · intro c hc1 hc4
    rw [comm]
    exact n1b _ xs y (zs.take (c.toNat - xs.length - 1)) (cut _ (low hc1)) hx hy (fun z hz' => hz z (List.mem_of_mem_take hz')) (Nat.le_trans (List.length_take_le _ _) (Int.toNat_le.mpr hc4))
  · intro c hc1 hc4 hc hne
    rw [comm]
    have hcn : (c - 1).toNat + 1 = c.toNat := by
      rcases one4 (Int.le_of_lt hc) hc4 with rfl | rfl | rfl | rfl <;> first | rfl | exact absurd hc (by decide)
    have hc5 : (c - 1).toNat + 1 ≤ 4 := Nat.le_trans (Nat.le_of_eq hcn) (Int.toNat_le.mpr hc4)
    have hget : (xs.map (·.1) ++ y :: zs).take (c - 1).toNat ++ [(xs.map (·.1) ++ y :: zs).getD (c - 1).toNat Str.empty] = (xs.map (·.1) ++ y :: zs).take c.toNat := by
      rw [← hcn, List.take_add_one, List.getD_eq_getElem?_getD, List.getElem?_eq_getElem (by rw [hlen]; exact hc5)]
      rfl
    rw [← hget]
    refine n2b _ _ xs y (zs.take (c.toNat - xs.length - 1)) (by rw [hget]; exact cut _ (low hc1)) ?_ (bne_ne hne) hx hy (fun z hz' => hz z (List.mem_of_mem_take hz')) (Nat.le_trans (List.length_take_le _ _) (Nat.le_of_succ_le_succ hc5))
    intro e
    have := congrArg List.length e
    rw [List.length_take, hlen] at this
    exact absurd this (Nat.ne_of_gt (Nat.lt_min.mpr ⟨Int.lt_toNat.mpr (Int.sub_pos_of_lt hc), by decide⟩))
theorem colour_ok' {a b c d : Int} (ha : 0 ≤ a) (ha' : a < 96) (hb : 0 ≤ b) (hb' : b < 9) (hc : 0 ≤ c) (hc' : c < 9) : ColourOk a b c d := by
  have w0 := wd_ahead (n := a) d ha (by omega)
  have w1 := wd_ahead (n := b) d hb (by omega)
  have w2 := wd_ahead (n := c) d hc (by omega)
  have w3 := wd_ahead (n := 99) d (by decide) (by decide)
  have nil : ∀ p ∈ ([] : List (Str × Int)), Wd p.1 p.2 := List.forall_mem_nil _
  refine ⟨straight_good w0 w1 w2 w3, ?_, n1g (spelledOf a b c d) [(_, a), (_, b), (_, c), (_, 99)] rfl (List.cons_ne_nil _ _) (List.forall_mem_cons.mpr ⟨w0, List.forall_mem_cons.mpr ⟨w1, List.forall_mem_cons.mpr ⟨w2, List.forall_mem_cons.mpr ⟨w3, nil⟩⟩⟩⟩) (by simp)⟩
  have hb4 := fmod_bd a 4 (by decide)
  have hk4 : a.fmod 4 = 0 ∨ a.fmod 4 = 1 ∨ a.fmod 4 = 2 ∨ a.fmod 4 = 3 := int4 (fmod_bd a 4 (by decide))
  unfold spoiltOf
  rcases hk4 with e | e | e | e <;> rw [e]
  · have hy : BadW (if (a.fdiv 4).fmod 2 = 1 then (spelledOf a b c d).getD 0 Str.empty ++ Str.ofString "b" else Str.ofString "") := by
      split
      · exact badW_b d ha (by omega)
      · exact badW_nil
    exact straight_bad [] _ [_, _, _] nil hy (List.forall_mem_cons.mpr ⟨w1.free, List.forall_mem_cons.mpr ⟨w2.free, List.forall_mem_cons.mpr ⟨w3.free, List.forall_mem_nil _⟩⟩⟩) rfl
  · have hy : BadW (if (a.fdiv 4).fmod 2 = 1 then (spelledOf a b c d).getD 1 Str.empty ++ Str.ofString "b" else Str.ofString "") := by
      split
      · exact badW_b d hb (by omega)
      · exact badW_nil
    exact straight_bad [(_, a)] _ [_, _] (List.forall_mem_cons.mpr ⟨w0, nil⟩) hy (List.forall_mem_cons.mpr ⟨w2.free, List.forall_mem_cons.mpr ⟨w3.free, List.forall_mem_nil _⟩⟩) rfl
  · have hy : BadW (if (a.fdiv 4).fmod 2 = 1 then (spelledOf a b c d).getD 2 Str.empty ++ Str.ofString "b" else Str.ofString "") := by
      split
      · exact badW_b d hc (by omega)
      · exact badW_nil
    exact straight_bad [(_, a), (_, b)] _ [_] (List.forall_mem_cons.mpr ⟨w0, List.forall_mem_cons.mpr ⟨w1, nil⟩⟩) hy (List.forall_mem_cons.mpr ⟨w3.free, List.forall_mem_nil _⟩) rfl
  · have hy : BadW (if (a.fdiv 4).fmod 2 = 1 then (spelledOf a b c d).getD 3 Str.empty ++ Str.ofString "b" else Str.ofString "") := by
      split
      · exact badW_b d (by decide) (by decide)
      · exact badW_nil
    exact straight_bad [(_, a), (_, b), (_, c)] _ [] (List.forall_mem_cons.mpr ⟨w0, List.forall_mem_cons.mpr ⟨w1, List.forall_mem_cons.mpr ⟨w2, nil⟩⟩⟩) hy (List.forall_mem_nil _) rfl
end Mine
end

section
set_option maxRecDepth 100000
namespace Mine
open PySem PySem.W PySem.Calls PySem.StrLaws PySem.Builtin PySem.Builtin.Str PyProof.Rows PySem.Spec
noncomputable def sw (o n c : Nat) : Nat := if c = o then n else c
theorem repS_one (o n : Nat) : ∀ l, repS [o] [n] 0 l = l.map (sw o n) := by
  intro l
  induction l with
  | nil => rfl
  | cons c r ih =>
    by_cases h : c = o
    · subst h
      simp [repS, List.isPrefixOf, sw, ih]
    · have h' : (o == c) = false := by simpa using fun e => h e.symm
      simp [repS, List.isPrefixOf, sw, ih, h', h]
theorem rep1 (x : Str) (o n : Nat) : ls (Txt.replace x ⟨#[o]⟩ ⟨#[n]⟩) = (ls x).map (sw o n) := by
  show (Txt.replace x _ _).cps.toList = _
  rw [replace_repS x _ _ (by show 0 < 1; decide)]
  exact repS_one o n _
noncomputable def mc (c : Nat) : Nat := sw 41 45 (sw 40 45 (sw 34 45 (sw 59 45 (sw 58 45 (sw 92 45 (sw 47 45 (sw 32 95 c)))))))
noncomputable def unk : List Nat := [117, 110, 107, 110, 111, 119, 110]
theorem unk_eq : Str.ofString "unknown" = ⟨unk.toArray⟩ := by decide
noncomputable def ru (l : List Nat) : List Nat := repS unk [] 0 l
theorem chain_ls (x : Str) : ls (chain x) = ru ((ls x).map mc) := by
  unfold chain
  rw [show Str.ofString " " = ⟨#[32]⟩ by decide, show Str.ofString "_" = ⟨#[95]⟩ by decide, show Str.ofString "/" = ⟨#[47]⟩ by decide, show Str.ofString "-" = ⟨#[45]⟩ by decide, show Str.ofString "\\" = ⟨#[92]⟩ by decide, show Str.ofString ":" = ⟨#[58]⟩ by decide,
    show Str.ofString ";" = ⟨#[59]⟩ by decide, show Str.ofString "\"" = ⟨#[34]⟩ by decide, show Str.ofString "(" = ⟨#[40]⟩ by decide, show Str.ofString ")" = ⟨#[41]⟩ by decide, unk_eq, show Str.ofString "" = ⟨#[]⟩ by decide]
  show (Txt.replace _ _ _).cps.toList = _
  rw [replace_repS _ _ _ (by decide)]
  have e := fun y : Str => fun o n : Nat => rep1 y o n
  simp only [ls] at e
  rw [e, e, e, e, e, e, e, e]
  simp only [List.map_map]
  rfl
/-- a piece of a text, and what is left of it -/
noncomputable def Seg (a f : List Nat) : Prop := ∀ b, ru (a.map mc ++ b) = f ++ ru b
theorem Seg.nil : Seg [] [] := fun _ => rfl
theorem Seg.app {a f b g : List Nat} (h1 : Seg a f) (h2 : Seg b g) : Seg (a ++ b) (f ++ g) := fun r => by
  rw [List.map_append, List.append_assoc, h1, h2, List.append_assoc]
theorem ru_skip {c : Nat} (h : c ≠ 117) (b : List Nat) : ru (c :: b) = c :: ru b := by
  have h' : (117 == c) = false := by simpa using fun e => h e.symm
  simp [ru, repS, unk, List.isPrefixOf, h']
theorem Seg.free : ∀ {a : List Nat}, (∀ c ∈ a, mc c ≠ 117) → Seg a (a.map mc) := by
  intro a
  induction a with
  | nil => exact fun _ => Seg.nil
  | cons c r ih =>
    intro h b
    rw [List.map_cons, List.cons_append, ru_skip (h c (.head _)), ih (fun c hc => h c (.tail _ hc)) b]
    rfl
theorem Seg.unknown : Seg unk [] := fun b => by
  have e : unk.map mc = unk := by decide
  rw [e]
  simp [ru, repS, unk, List.isPrefixOf]
theorem Seg.out {a f : List Nat} (h : Seg a f) : ru (a.map mc) = f := by
  have := h []
  rw [List.append_nil] at this
  rw [this]; show f ++ [] = f; rw [List.append_nil]
/-- one sign taken: what is out, and whether a dash waits -/
noncomputable def tr (s : List Nat × Bool) (c : Nat) : List Nat × Bool := if c = 45 then (s.1, true) else (s.1 ++ (if s.2 then [45] else []) ++ [c], false)
theorem tr_dash (s : List Nat × Bool) : tr s 45 = (s.1, true) := rfl
theorem tr_other {c : Nat} (h : c ≠ 45) (s : List Nat × Bool) : tr s c = (s.1 ++ (if s.2 then [45] else []) ++ [c], false) := if_neg h
theorem dd_prefix {c : Nat} {r : List Nat} (h : ([45, 45] : List Nat).isPrefixOf (c :: r) = true) : c = 45 ∧ ∃ r', r = 45 :: r' := by
  cases r with
  | nil => simp [List.isPrefixOf] at h
  | cons d r => simp [List.isPrefixOf] at h; exact ⟨h.1.symm, r, by rw [← h.2]⟩
theorem tr_rep : ∀ (n : Nat) (l : List Nat) (s : List Nat × Bool), l.length ≤ n → (repS [45, 45] [45] 0 l).foldl tr s = l.foldl tr s := by
  intro n
  induction n with
  | zero =>
    intro l s h
    have e : l = [] := List.eq_nil_of_length_eq_zero (by omega)
    subst e; rfl
  | succ n ih =>
    intro l s h
    cases l with
    | nil => rfl
    | cons c r =>
      simp only [List.length_cons] at h
      by_cases hp : ([45, 45] : List Nat).isPrefixOf (c :: r) = true
      · obtain ⟨rfl, r', rfl⟩ := dd_prefix hp
        have e : repS [45, 45] [45] 0 (45 :: 45 :: r') = 45 :: repS [45, 45] [45] 0 r' := by simp [repS, List.isPrefixOf]
        rw [e, List.foldl_cons, ih r' _ (by simp at h; omega)]
        rfl
      · have e : repS [45, 45] [45] 0 (c :: r) = c :: repS [45, 45] [45] 0 r := by
          rw [Bool.not_eq_true] at hp
          simp [repS, hp]
        rw [e, List.foldl_cons, List.foldl_cons, ih r _ (by omega)]
theorem fix_tr : ∀ (l : List Nat) (o : List Nat) (p : Bool), repS [45, 45] [45] 0 l = l → (p = true → l.head? ≠ some 45) →
    (l.foldl tr (o, p)).1 ++ (if (l.foldl tr (o, p)).2 then [45] else []) = o ++ (if p then [45] else []) ++ l := by
  intro l
  induction l with
  | nil => intro o p _ _; rw [List.append_nil]; rfl
  | cons c r ih =>
    intro o p h hp
    have hnp : ([45, 45] : List Nat).isPrefixOf (c :: r) = false := by
      rw [← Bool.not_eq_true]
      intro hh
      obtain ⟨rfl, r', rfl⟩ := dd_prefix hh
      have e : repS [45, 45] [45] 0 (45 :: 45 :: r') = 45 :: repS [45, 45] [45] 0 r' := by simp [repS, List.isPrefixOf]
      rw [e] at h
      have h1 := congrArg List.length h
      have h2 := repS_len [45, 45] [45] (by decide) (by decide) r' 0 (Nat.zero_le _)
      simp only [List.length_cons] at h1
      omega
    have e : repS [45, 45] [45] 0 (c :: r) = c :: repS [45, 45] [45] 0 r := by simp [repS, hnp]
    rw [e] at h
    have hr := (List.cons.inj h).2
    by_cases hc : c = 45
    · subst hc
      have hpf : p = false := by
        cases p with
        | false => rfl
        | true => exact absurd rfl (hp rfl)
      subst hpf
      rw [List.foldl_cons, tr_dash]
      rw [ih o true hr ?_]
      · simp
      · intro _ hh
        cases r with
        | nil => simp at hh
        | cons d r => simp at hh; subst hh; simp [List.isPrefixOf] at hnp
    · rw [List.foldl_cons, tr_other hc]
      rw [ih _ false hr (fun h => nomatch h)]
      simp
theorem tr_last : ∀ (l : List Nat) (o : List Nat) (p : Bool), o.getLast? ≠ some 45 → (l.foldl tr (o, p)).1.getLast? ≠ some 45 := by
  intro l
  induction l with
  | nil => intro o p h; exact h
  | cons c r ih =>
    intro o p h
    rw [List.foldl_cons]
    by_cases hc : c = 45
    · subst hc; exact ih _ _ h
    · rw [tr_other hc]
      refine ih _ _ ?_
      simp [hc]
theorem dd_eq : Str.ofString "--" = ⟨#[45, 45]⟩ := by decide
theorem d_eq : Str.ofString "-" = ⟨#[45]⟩ := by decide
theorem rep_dd (y : Str) : ls (Txt.replace y (Str.ofString "--") (Str.ofString "-")) = repS [45, 45] [45] 0 (ls y) := by
  rw [dd_eq, d_eq]
  exact replace_repS y _ _ (by show 0 < 2; decide)
theorem clean_tr : ∀ (n : Nat) (y : Str) (s : List Nat × Bool), (ls (cleanS n y)).foldl tr s = (ls y).foldl tr s := by
  intro n
  induction n with
  | zero => intro y s; rfl
  | succ n ih =>
    intro y s
    unfold cleanS
    split
    · rfl
    · rw [ih, rep_dd, tr_rep _ _ _ (Nat.le_refl _)]
theorem clean_fix : ∀ (n : Nat) (y : Str), y.length ≤ n → Txt.replace (cleanS n y) (Str.ofString "--") (Str.ofString "-") = cleanS n y := by
  intro n
  induction n with
  | zero =>
    intro y h
    refine ls_inj ?_
    rw [rep_dd]
    have : ls y = [] := List.eq_nil_of_length_eq_zero (by rw [← ls_len]; omega)
    show repS [45, 45] [45] 0 (ls y) = ls y
    rw [this]; rfl
  | succ n ih =>
    intro y h
    unfold cleanS
    split
    · assumption
    · rename_i hne
      have := replace_lt y (Str.ofString "--") (Str.ofString "-") (by decide) hne
      exact ih _ (by omega)
theorem item_last (y : Str) : (Txt.item y (-1) == Str.ofString "-") = true ↔ (ls y).getLast? = some 45 := by
  rw [beq_iff_eq, d_eq]
  have key : Txt.charAt y (-1) = (ls y).getLast? := by
    unfold Txt.charAt seqIndex?
    rw [if_pos (show (-1 : Int) < 0 by decide)]
    by_cases h : y.length = 0
    · have e : ls y = [] := List.eq_nil_of_length_eq_zero (by rw [← ls_len]; exact h)
      rw [e, h]; rfl
    · have h1 : (decide (0 ≤ (-1 : Int) + (y.length : Int)) && decide ((-1 : Int) + (y.length : Int) < (y.length : Int))) = true := by
        rw [Bool.and_eq_true, decide_eq_true_eq, decide_eq_true_eq]; omega
      dsimp only
      rw [if_pos h1, Option.bind_some, List.getLast?_eq_getElem?, ← ls_len]
      have h2 : ((-1 : Int) + (y.length : Int)).toNat = y.length - 1 := by omega
      rw [h2]; simp [ls]
  unfold Txt.item
  rw [key]
  constructor
  · intro e
    have e2 : ((ls y).getLast?.getD 0) = 45 := by
      have := congrArg (fun z : Str => ls z) e
      simpa [ls] using this
    cases hh : (ls y).getLast? with
    | none => rw [hh] at e2; simp at e2
    | some v => rw [hh] at e2; simp at e2; rw [e2]
  · intro e; rw [e]; rfl
theorem rdash_o : ∀ (n : Nat) (y : Str), (ls y).getLast? ≠ some 45 → rdash n y = y := by
  intro n y h
  cases n with
  | zero => rfl
  | succ n =>
    unfold rdash
    rw [if_neg (fun e => h ((item_last y).mp e))]
theorem rdash_ls (y : Str) (o : List Nat) (ho : o.getLast? ≠ some 45) (h : ls y = o ∨ ls y = o ++ [45]) : ls (rdash y.length y) = o := by
  rcases h with h | h
  · rw [rdash_o _ _ (by rw [h]; exact ho), h]
  · have hlen : y.length = o.length + 1 := by rw [ls_len, h]; simp
    rw [hlen]
    unfold rdash
    have hl : (Txt.item y (-1) == Str.ofString "-") = true := (item_last y).mpr (by rw [h]; simp)
    rw [if_pos hl]
    have e : ls (Txt.slice y none (some (-1))) = o := by
      have := slice_last y (by omega)
      show (Txt.slice y none (some (-1))).cps.toList = o
      rw [this]
      show (ls y).dropLast = o
      rw [h]; simp
    rw [rdash_o _ _ (by rw [e]; exact ho), e]
theorem plat_out (x : Str) : ls (ended (cleaned x)) = ((ls x).foldl tr ([], false)).1 := by
  unfold ended cleaned
  have h1 := clean_tr x.length x ([], false)
  have h2 := clean_fix x.length x (Nat.le_refl _)
  generalize cleanS x.length x = y at h1 h2
  have h3 : repS [45, 45] [45] 0 (ls y) = ls y := by rw [← rep_dd, h2]
  have h4 := fix_tr (ls y) [] false h3 (fun h => nomatch h)
  have h5 := tr_last (ls y) [] false (by simp)
  rw [h1] at h4 h5
  refine rdash_ls y _ h5 ?_
  by_cases hp : (List.foldl tr ([], false) (ls x)).2 = true
  · right; rw [if_pos hp] at h4; simpa using h4.symm
  · left; rw [if_neg hp] at h4; simpa using h4.symm
theorem tr_dashes : ∀ (l : List Nat) (s : List Nat × Bool), (∀ c ∈ l, c = 45) → (l.foldl tr s).1 = s.1 := by
  intro l
  induction l with
  | nil => intros; rfl
  | cons c r ih =>
    intro s h
    rw [List.foldl_cons, ih _ (fun c hc => h c (.tail _ hc)), h c (.head _)]
    rfl
theorem tr_plain : ∀ (l : List Nat) (o : List Nat), 45 ∉ l → l.foldl tr (o, false) = (o ++ l, false) := by
  intro l
  induction l with
  | nil => intro o _; simp
  | cons c r ih =>
    intro o h
    rw [List.foldl_cons, tr_other (fun e => h (by rw [e]; exact .head _)), ih _ (fun hh => h (.tail _ hh))]
    simp
theorem tr_word {l : List Nat} (o : List Nat) (p : Bool) (hne : l ≠ []) (h : 45 ∉ l) : l.foldl tr (o, p) = (o ++ (if p then [45] else []) ++ l, false) := by
  cases l with
  | nil => exact absurd rfl hne
  | cons c r =>
    rw [List.foldl_cons, tr_other (fun e => h (by rw [e]; exact .head _)), tr_plain _ _ (fun hh => h (.tail _ hh))]
    simp
end Mine
end

section
set_option maxRecDepth 100000
namespace Mine
open PySem PySem.W PySem.Calls PyProof.Rows
noncomputable def Pn (n : Nat) : UInt64 := Float64.ofFrac false n 1024
noncomputable def Pu (c b u : Nat) : UInt64 := Pn (c * (128 - b * u))
noncomputable def Sx (u : Nat) : UInt64 := Float64.ofFrac false u 16
noncomputable def uTri (a : Nat) : Nat × Nat × Nat := if a / 16 = 0 then (0, 16 - a % 16, 16) else if a / 16 = 1 then (a % 16, 0, 16) else if a / 16 = 2 then (16, 0, 16 - a % 16) else if a / 16 = 3 then (16, a % 16, 0) else if a / 16 = 4 then (16 - a % 16, 16, 0) else (0, 16, a % 16)
theorem clipT : ∀ a : Fin 96, ((clipI (wayI a.val 0)).toNat, (clipI (wayI a.val 32)).toNat, (clipI (wayI a.val 64)).toNat) = uTri a.val := by decide +kernel
theorem fin8 {P : Nat → Prop} (h0 : P 0) (h1 : P 1) (h2 : P 2) (h3 : P 3) (h4 : P 4) (h5 : P 5) (h6 : P 6) (h7 : P 7) : ∀ c : Fin 8, P c.val
  | ⟨0, _⟩ => h0 | ⟨1, _⟩ => h1 | ⟨2, _⟩ => h2 | ⟨3, _⟩ => h3 | ⟨4, _⟩ => h4 | ⟨5, _⟩ => h5 | ⟨6, _⟩ => h6 | ⟨7, _⟩ => h7
noncomputable abbrev rowA (c b u : Nat) : Prop := Float64.div (Float64.sub (Pu (c+1) (b+1) 0) (Pu (c+1) (b+1) u)) (Float64.ofFrac false (16 * (c+1) * (b+1)) 1024) = Float64.ofFrac false u 16
theorem tabA : ∀ c : Fin 8, ∀ b : Fin 8, ∀ u : Fin 17, rowA c.val b.val u.val := fin8 (P := fun c => ∀ b : Fin 8, ∀ u : Fin 17, rowA c b.val u.val) (by decide +kernel) (by decide +kernel) (by decide +kernel) (by decide +kernel) (by decide +kernel) (by decide +kernel) (by decide +kernel) (by decide +kernel)
noncomputable abbrev rowL (c b u : Nat) : Prop := ltF (Pu (c+1) (b+1) 0) (Pu (c+1) (b+1) u) = false ∧ ltF (Pu (c+1) (b+1) u) (Pu (c+1) (b+1) 0) = decide (0 < u) ∧ ltF (Pu (c+1) (b+1) u) (Pu (c+1) (b+1) 16) = false ∧ ltF (Pu (c+1) (b+1) 16) (Pu (c+1) (b+1) u) = decide (u < 16) ∧ eqF (Pu (c+1) (b+1) u) (Pu (c+1) (b+1) 0) = decide (u = 0)
theorem tabL : ∀ c : Fin 8, ∀ b : Fin 8, ∀ u : Fin 17, rowL c.val b.val u.val := fin8 (P := fun c => ∀ b : Fin 8, ∀ u : Fin 17, rowL c b.val u.val) (by decide +kernel) (by decide +kernel) (by decide +kernel) (by decide +kernel) (by decide +kernel) (by decide +kernel) (by decide +kernel) (by decide +kernel)
theorem tabR : ∀ c : Fin 8, ∀ b : Fin 8, Float64.sub (Pu (c.val+1) (b.val+1) 0) (Pu (c.val+1) (b.val+1) 16) = Float64.ofFrac false (16 * (c.val+1) * (b.val+1)) 1024 ∧ Float64.div (Float64.ofFrac false (16 * (c.val+1) * (b.val+1)) 1024) (Pu (c.val+1) (b.val+1) 0) = Float64.ofFrac false (b.val + 1) 8 ∧ Float64.isZero (Pu (c.val+1) (b.val+1) 0) = false ∧ Float64.isZero (Float64.ofFrac false (16 * (c.val+1) * (b.val+1)) 1024) = false := by decide +kernel
noncomputable def hueN (t : Nat × Nat × Nat) : UInt64 := if t.1 = 0 then Float64.sub (Sx t.2.2) (Sx t.2.1) else if t.2.1 = 0 then Float64.sub (Float64.add 4611686018427387904 (Sx t.1)) (Sx t.2.2) else Float64.sub (Float64.add 4616189618054758400 (Sx t.2.1)) (Sx t.1)
noncomputable def hueA (a : Nat) : UInt64 := (Float64.divmod (Float64.div (hueN (uTri a)) 4618441417868443648) 4607182418800017408).2
theorem tabH : ∀ a : Fin 96, Float64.isFinite (Float64.mul (hueA a.val) (Float64.ofInt 96)) = true ∧ Flt.toInt Float64.truncOf (Float64.mul (hueA a.val) (Float64.ofInt 96)) = ((a.val : Nat) : Int) := by decide +kernel
theorem tabV : ∀ c : Fin 9, (Float64.cmpInt (Pn (c.val * 128)) 0 == some Ordering.eq) = decide (c.val = 0) ∧ Float64.isFinite (Float64.mul (Pn (c.val * 128)) (Float64.ofInt 8)) = true ∧ Flt.toInt Float64.truncOf (Float64.mul (Pn (c.val * 128)) (Float64.ofInt 8)) = ((c.val : Nat) : Int) ∧ ltF (Pn (c.val * 128)) (Pn (c.val * 128)) = false ∧ eqF (Pn (c.val * 128)) (Pn (c.val * 128)) = true := by decide +kernel
theorem tabS : ∀ b : Fin 9, (Float64.cmpInt (Float64.ofFrac false b.val 8) 0 == some Ordering.eq) = decide (b.val = 0) ∧ Float64.isFinite (Float64.mul (Float64.ofFrac false b.val 8) (Float64.ofInt 8)) = true ∧ Flt.toInt Float64.truncOf (Float64.mul (Float64.ofFrac false b.val 8) (Float64.ofInt 8)) = ((b.val : Nat) : Int) := by decide +kernel
theorem partP {a b c : Int} (k : Int) (hb : 0 ≤ b) (hb' : b < 9) (hc : 0 ≤ c) (hc' : c < 9) : partF a b c k = Pu c.toNat b.toNat (clipI (wayI a k)).toNat := by
  rw [part_eq k hb hb' hc hc']
  unfold Pu Pn
  congr 1
  unfold numI
  have h := clip_bd (wayI a k)
  generalize clipI (wayI a k) = u at h
  obtain ⟨b, rfl⟩ : ∃ n : Nat, b = n := ⟨b.toNat, by omega⟩
  obtain ⟨c, rfl⟩ : ∃ n : Nat, c = n := ⟨c.toNat, by omega⟩
  obtain ⟨u, rfl⟩ : ∃ n : Nat, u = n := ⟨u.toNat, by omega⟩
  have h2 : b * u ≤ 8 * 16 := Nat.mul_le_mul (by omega) (by omega)
  simp only [Int.toNat_natCast]
  have : ((c : Int) * (128 - (b : Int) * (u : Int))) = ((c * (128 - b * u) : Nat) : Int) := by
    rw [Int.natCast_mul, Int.natCast_sub h2, Int.natCast_mul]; rfl
  rw [this]; rfl
section
variable {X : Nat → UInt64} (h : ∀ u, u < 17 → ltF (X 0) (X u) = false ∧ ltF (X u) (X 0) = decide (0 < u) ∧ ltF (X u) (X 16) = false ∧ ltF (X 16) (X u) = decide (u < 16))
include h
theorem mx_X {u v w : Nat} (hu : u < 17) (hv : v < 17) (hw : w < 17) (hz : u = 0 ∨ v = 0 ∨ w = 0) : mx3 (X u) (X v) (X w) = X 0 := by
  unfold mx3
  rcases hz with rfl | rfl | rfl
  · simp [(h v hv).1, (h w hw).1]
  · rw [(h u hu).2.1, (h w hw).1]
    by_cases e : 0 < u
    · simp [e]
    · have : u = 0 := by omega
      subst this; simp [(h w hw).1]
  · rw [(h u hu).2.1, (h v hv).2.1]
    by_cases e : 0 < u
    · by_cases e' : 0 < v
      · simp [e, e']
      · have : v = 0 := by omega
        subst this; simp [e, (h u hu).2.1]
    · have : u = 0 := by omega
      subst this; simp [(h v hv).1]
theorem mn_X {u v w : Nat} (hu : u < 17) (hv : v < 17) (hw : w < 17) (hz : u = 16 ∨ v = 16 ∨ w = 16) : mn3 (X u) (X v) (X w) = X 16 := by
  unfold mn3
  rcases hz with rfl | rfl | rfl
  · simp [(h v hv).2.2.1, (h w hw).2.2.1]
  · rw [(h u hu).2.2.2, (h w hw).2.2.1]
    by_cases e : u < 16
    · simp [e]
    · have : u = 16 := by omega
      subst this; simp [(h w hw).2.2.1]
  · rw [(h u hu).2.2.2, (h v hv).2.2.2]
    by_cases e : u < 16
    · by_cases e' : v < 16
      · simp [e, e']
      · have : v = 16 := by omega
        subst this; simp [e, (h u hu).2.2.2]
    · have : u = 16 := by omega
      subst this; simp [(h v hv).2.2.1]
end
theorem uTri_ok {a : Nat} (ha : a < 96) : (uTri a).1 < 17 ∧ (uTri a).2.1 < 17 ∧ (uTri a).2.2 < 17 ∧ ((uTri a).1 = 0 ∨ (uTri a).2.1 = 0 ∨ (uTri a).2.2 = 0) ∧ ((uTri a).1 = 16 ∨ (uTri a).2.1 = 16 ∨ (uTri a).2.2 = 16) := by
  have : ∀ a : Fin 96, (uTri a.val).1 < 17 ∧ (uTri a.val).2.1 < 17 ∧ (uTri a.val).2.2 < 17 ∧ ((uTri a.val).1 = 0 ∨ (uTri a.val).2.1 = 0 ∨ (uTri a.val).2.2 = 0) ∧ ((uTri a.val).1 = 16 ∨ (uTri a.val).2.1 = 16 ∨ (uTri a.val).2.2 = 16) := by decide +kernel
  exact this ⟨a, ha⟩
/-- what the wheel's colour is told as -/
theorem rgb_wheel {a b c : Nat} (ha : a < 96) (hb : 0 < b) (hb' : b < 9) (hc : 0 < c) (hc' : c < 9) :
    let X := Pu c b; let t := uTri a
    rgbOut (X t.1) (X t.2.1) (X t.2.2) = (hueA a, Float64.ofFrac false b 8, Pn (c * 128)) ∧ mx3 (X t.1) (X t.2.1) (X t.2.2) = X 0 ∧ mn3 (X t.1) (X t.2.1) (X t.2.2) = X 16 ∧ Float64.isZero (X 0) = false ∧ Float64.isZero (Float64.sub (X 0) (X 16)) = false := by
  intro X t
  obtain ⟨b, rfl⟩ : ∃ n : Nat, b = n + 1 := ⟨b - 1, by omega⟩
  obtain ⟨c, rfl⟩ : ∃ n : Nat, c = n + 1 := ⟨c - 1, by omega⟩
  have L := fun (u : Nat) (hu : u < 17) => tabL ⟨c, by omega⟩ ⟨b, by omega⟩ ⟨u, hu⟩
  have A := fun (u : Nat) (hu : u < 17) => tabA ⟨c, by omega⟩ ⟨b, by omega⟩ ⟨u, hu⟩
  have R := tabR ⟨c, by omega⟩ ⟨b, by omega⟩
  dsimp only at L A R
  have hX : ∀ u, u < 17 → ltF (X 0) (X u) = false ∧ ltF (X u) (X 0) = decide (0 < u) ∧ ltF (X u) (X 16) = false ∧ ltF (X 16) (X u) = decide (u < 16) := fun u hu => ⟨(L u hu).1, (L u hu).2.1, (L u hu).2.2.1, (L u hu).2.2.2.1⟩
  obtain ⟨t1, t2, t3, z0, z16⟩ := uTri_ok ha
  have hmx := mx_X hX t1 t2 t3 z0
  have hmn := mn_X hX t1 t2 t3 z16
  refine ⟨?_, hmx, hmn, R.2.2.1, by rw [show Float64.sub (X 0) (X 16) = _ from R.1]; exact R.2.2.2⟩
  have hA : ∀ u, u < 17 → arF (X t.1) (X t.2.1) (X t.2.2) (X u) = Sx u := fun u hu => by
    unfold arF rgF; rw [hmx, hmn, show Float64.sub (X 0) (X 16) = _ from R.1]; exact A u hu
  unfold rgbOut hueF
  rw [hmx, hmn, hA _ t1, hA _ t2, hA _ t3, (show eqF (X 16) (X 0) = false from (L 16 (by decide)).2.2.2.2), (show eqF (X t.1) (X 0) = decide (t.1 = 0) from (L _ t1).2.2.2.2), (show eqF (X t.2.1) (X 0) = decide (t.2.1 = 0) from (L _ t2).2.2.2.2)]
  have e1 : Float64.div (rgF (X t.1) (X t.2.1) (X t.2.2)) (X 0) = Float64.ofFrac false (b + 1) 8 := by
    unfold rgF; rw [hmx, hmn, show Float64.sub (X 0) (X 16) = _ from R.1]; exact R.2.1
  rw [e1, if_neg (by decide)]
  have e2 : X 0 = Pn ((c + 1) * 128) := by show Pn _ = Pn _; rw [Nat.mul_zero]
  rw [e2]
  refine Prod.ext ?_ rfl
  show (Float64.divmod (Float64.div _ _) _).2 = (Float64.divmod (Float64.div (hueN (uTri a)) _) _).2
  unfold hueN
  simp only [decide_eq_true_eq]
  rfl
noncomputable abbrev rowQ (c b u : Nat) : Prop := Float64.mul (Float64.ofFrac false (c+1) 8) (Float64.sub 4607182418800017408 (Float64.mul (Float64.ofFrac false (b+1) 8) (Float64.ofFrac false u 16))) = Pu (c+1) (b+1) u
theorem tabQ : ∀ c : Fin 8, ∀ b : Fin 8, ∀ u : Fin 17, rowQ c.val b.val u.val := fin8 (P := fun c => ∀ b : Fin 8, ∀ u : Fin 17, rowQ c b.val u.val) (by decide +kernel) (by decide +kernel) (by decide +kernel) (by decide +kernel) (by decide +kernel) (by decide +kernel) (by decide +kernel) (by decide +kernel)
theorem tabP : ∀ c : Fin 8, ∀ b : Fin 8, Float64.mul (Float64.ofFrac false (c.val+1) 8) (Float64.sub 4607182418800017408 (Float64.ofFrac false (b.val+1) 8)) = Pu (c.val+1) (b.val+1) 16 := by decide +kernel
theorem tabW : ∀ c : Fin 9, Float64.ofFrac false c.val 8 = Pn (c.val * 128) := by decide +kernel
theorem tabF : ∀ a : Fin 96, hFr (Float64.ofFrac false a.val 96) = Float64.ofFrac false (a.val % 16) 16 := by decide +kernel
theorem tabO : ∀ u : Fin 17, Float64.sub 4607182418800017408 (Float64.ofFrac false u.val 16) = Float64.ofFrac false (16 - u.val) 16 := by decide +kernel
theorem hsv_wheel {a b c : Nat} (ha : a < 96) (hb : 0 < b) (hb' : b < 9) (hc : 0 < c) (hc' : c < 9) :
    hsvOut (Float64.ofFrac false a 96) (Float64.ofFrac false b 8) (Float64.ofFrac false c 8) = (Pu c b (uTri a).1, Pu c b (uTri a).2.1, Pu c b (uTri a).2.2) := by
  have F := tabF ⟨a, ha⟩
  have W := tabW ⟨c, hc'⟩
  have I := t96_hI ⟨a, ha⟩
  obtain ⟨b, rfl⟩ : ∃ n : Nat, b = n + 1 := ⟨b - 1, by omega⟩
  obtain ⟨c, rfl⟩ : ∃ n : Nat, c = n + 1 := ⟨c - 1, by omega⟩
  have Q := fun (u : Nat) (hu : u < 17) => tabQ ⟨c, by omega⟩ ⟨b, by omega⟩ ⟨u, hu⟩
  have P := tabP ⟨c, by omega⟩ ⟨b, by omega⟩
  have O := fun (u : Nat) (hu : u < 17) => tabO ⟨u, hu⟩
  dsimp only at F W I Q P O
  have hm : a % 16 < 16 := Nat.mod_lt _ (by decide)
  have e0 : Float64.ofFrac false (c + 1) 8 = Pu (c + 1) (b + 1) 0 := by rw [W]; show Pn _ = Pn _; rw [Nat.mul_zero]
  have eq : qF (Float64.ofFrac false a 96) (Float64.ofFrac false (b + 1) 8) (Float64.ofFrac false (c + 1) 8) = Pu (c + 1) (b + 1) (a % 16) := by
    unfold qF; rw [F]; exact Q _ (by omega)
  have et : tF (Float64.ofFrac false a 96) (Float64.ofFrac false (b + 1) 8) (Float64.ofFrac false (c + 1) 8) = Pu (c + 1) (b + 1) (16 - a % 16) := by
    unfold tF; rw [F, O _ (by omega)]; exact Q _ (by omega)
  have ep : pF (Float64.ofFrac false (b + 1) 8) (Float64.ofFrac false (c + 1) 8) = Pu (c + 1) (b + 1) 16 := P
  have hs : a / 16 < 6 := by omega
  unfold hsvOut uTri
  rw [I, eq, et, ep, e0]
  have hk : a / 16 = 0 ∨ a / 16 = 1 ∨ a / 16 = 2 ∨ a / 16 = 3 ∨ a / 16 = 4 ∨ a / 16 = 5 := nat6 (by omega)
  rcases hk with hk | hk | hk | hk | hk | hk <;> rw [hk] <;> rfl
end Mine
end

section
set_option maxRecDepth 100000
namespace Mine
open PySem PySem.W PySem.Calls PyProof.Rows
theorem part_u {a b c : Int} (ha : 0 ≤ a) (ha' : a < 96) (hb : 0 ≤ b) (hb' : b < 9) (hc : 0 ≤ c) (hc' : c < 9) :
    partF a b c 0 = Pu c.toNat b.toNat (uTri a.toNat).1 ∧ partF a b c 32 = Pu c.toNat b.toNat (uTri a.toNat).2.1 ∧ partF a b c 64 = Pu c.toNat b.toNat (uTri a.toNat).2.2 := by
  have h := clipT ⟨a.toNat, by omega⟩
  have e : ((a.toNat : Nat) : Int) = a := by omega
  dsimp only at h
  rw [e] at h
  rw [← h]
  exact ⟨partP 0 hb hb' hc hc', partP 32 hb hb' hc hc', partP 64 hb hb' hc hc'⟩
theorem part_grey {a b c : Int} (k : Int) (hb : 0 ≤ b) (hb' : b < 9) (hc : 0 ≤ c) (hc' : c < 9) (h : b = 0 ∨ c = 0) : partF a b c k = Pn (c.toNat * 128) := by
  rw [partP k hb hb' hc hc']
  unfold Pu
  rcases h with rfl | rfl <;> simp
theorem seen_all {a b c : Int} (ha : 0 ≤ a) (ha' : a < 96) (hb : 0 ≤ b) (hb' : b < 9) (hc : 0 ≤ c) (hc' : c < 9) : ∃ H S V, SeenOk a b c H S V ∧ SeenMore a b c H S V := by
  have V := tabV ⟨c.toNat, by omega⟩
  have ec : ((c.toNat : Nat) : Int) = c := by omega
  have eb : ((b.toNat : Nat) : Int) = b := by omega
  have ea : ((a.toNat : Nat) : Int) = a := by omega
  dsimp only at V
  have dc : decide (c.toNat = 0) = decide (c = 0) := by congr 1; exact propext ⟨fun h => by omega, fun h => by omega⟩
  rw [ec, dc] at V
  by_cases hg : b = 0 ∨ c = 0
  · have p := fun k => part_grey (a := a) k hb hb' hc hc' hg
    have m1 : mx3 (Pn (c.toNat * 128)) (Pn (c.toNat * 128)) (Pn (c.toNat * 128)) = Pn (c.toNat * 128) := by unfold mx3; simp [V.2.2.2.1]
    have m2 : mn3 (Pn (c.toNat * 128)) (Pn (c.toNat * 128)) (Pn (c.toNat * 128)) = Pn (c.toNat * 128) := by unfold mn3; simp [V.2.2.2.1]
    refine ⟨0, 0, Pn (c.toNat * 128), ⟨?_, ?_⟩, ⟨V.1, fun h => ?_, fun _ => V.2.1, fun _ => V.2.2.1, fun h h' => ?_, fun h h' => ?_, fun h h' => ?_, fun h h' => ?_⟩⟩
    · rw [p, p, p, rgb_g (by rw [m1, m2]; exact V.2.2.2.2), m1]
    · intro h
      rw [p, p, p, m1, m2, V.2.2.2.2] at h
      cases h
    · have hb0 : b = 0 := by rcases hg with h0 | h0; exact h0; exact absurd h0 h
      subst hb0; decide +kernel
    all_goals exact absurd hg (by rintro (h0 | h0); exact h' h0; exact h h0)
  · have hb0 : b ≠ 0 := fun h => hg (.inl h)
    have hc0 : c ≠ 0 := fun h => hg (.inr h)
    have W := rgb_wheel (a := a.toNat) (b := b.toNat) (c := c.toNat) (by omega) (by omega) (by omega) (by omega) (by omega)
    dsimp only at W
    obtain ⟨p1, p2, p3⟩ := part_u ha ha' hb hb' hc hc'
    have S := tabS ⟨b.toNat, by omega⟩
    have H := tabH ⟨a.toNat, by omega⟩
    dsimp only at S H
    rw [ea] at H
    have db : decide (b.toNat = 0) = decide (b = 0) := by congr 1; exact propext ⟨fun h => by omega, fun h => by omega⟩
    rw [eb, db] at S
    refine ⟨hueA a.toNat, Float64.ofFrac false b.toNat 8, Pn (c.toNat * 128), ⟨?_, fun _ => ?_⟩, ⟨V.1, fun h => S.1, fun _ => V.2.1, fun _ => V.2.2.1, fun _ _ => S.2.1, fun _ _ => S.2.2, fun _ _ => H.1, fun _ _ => H.2⟩⟩
    · rw [p1, p2, p3]; exact W.1
    · rw [p1, p2, p3]; unfold rgF; rw [W.2.1, W.2.2.1]; exact W.2.2.2
theorem word_colour {a b c : Int} (d : Int) (ha : 0 ≤ a) (ha' : a < 96) (hb : 0 < b) (hb' : b < 9) (hc : 0 < c) (hc' : c < 9) : hsvOut (fr a 96) (fr b 8) (fr c 8) = colourOf (a, b, c, d) := by
  obtain ⟨p1, p2, p3⟩ := part_u ha ha' (by omega) hb' (by omega) hc'
  unfold colourOf
  dsimp only
  rw [p1, p2, p3, show (8 : Int) = ((8 : Nat) : Int) from rfl, show (96 : Int) = ((96 : Nat) : Int) from rfl, fr_toNat ha, fr_toNat (by omega), fr_toNat (by omega)]
  exact hsv_wheel (by omega) (by omega) (by omega) (by omega) (by omega)
theorem grey_colour {c : Int} (a d : Int) (hc : 0 ≤ c) (hc' : c < 9) : (fr c 8, fr c 8, fr c 8) = colourOf (a, 0, c, d) := by
  have p := fun k => part_grey (a := a) (b := 0) k (by decide) (by decide) hc hc' (.inl rfl)
  have W := tabW ⟨c.toNat, by omega⟩
  unfold colourOf
  dsimp only at W ⊢
  rw [p, p, p, show (8 : Int) = ((8 : Nat) : Int) from rfl, fr_toNat hc, W]
end Mine
end

section
set_option maxRecDepth 100000
namespace Mine
open PySem PySem.W PySem.Calls PySem.StrLaws PySem.Builtin PySem.Builtin.Str PyProof.Rows PySem.Spec
noncomputable def Valid (q : Quad) : Prop := (0 ≤ q.1 ∧ q.1 < 96) ∧ (0 ≤ q.2.1 ∧ q.2.1 < 9) ∧ (0 ≤ q.2.2.1 ∧ q.2.2.1 < 9)
noncomputable def sgn (d : Int) : Bool := signs.contains (pairAt d).1
/-- signs that stay as they are -/
noncomputable def Stay (c : Nat) : Prop := (48 ≤ c ∧ c ≤ 57) ∨ c = 46 ∨ c = 95
theorem mc_stay {c : Nat} (h : Stay c) : mc c = c := by
  unfold mc sw
  rcases h with h | rfl | rfl
  · rw [if_neg (show ¬ c = 32 by omega), if_neg (show ¬ c = 47 by omega), if_neg (show ¬ c = 92 by omega), if_neg (show ¬ c = 58 by omega), if_neg (show ¬ c = 59 by omega), if_neg (show ¬ c = 34 by omega), if_neg (show ¬ c = 40 by omega), if_neg (show ¬ c = 41 by omega)]
  · rfl
  · rfl
theorem map_stay : ∀ {l : List Nat}, (∀ c ∈ l, Stay c) → l.map mc = l := by
  intro l
  induction l with
  | nil => exact fun _ => rfl
  | cons c r ih => intro h; rw [List.map_cons, mc_stay (h c (.head _)), ih fun c hc => h c (.tail _ hc)]
theorem Seg.stay {l : List Nat} (h : ∀ c ∈ l, Stay c) : Seg l l := by
  have := Seg.free (a := l) fun c hc => by
    rw [mc_stay (h c hc)]
    rcases h c hc with h | h | h <;> omega
  rw [map_stay h] at this; exact this
theorem stay_no {l : List Nat} (h : ∀ c ∈ l, Stay c) : 45 ∉ l := fun hm => by rcases h _ hm with h | h | h <;> omega
noncomputable def nbl (c : Nat) : Prop := Unicode.isSpace c = false
theorem nbl_digit {c : Nat} (h : 48 ≤ c ∧ c ≤ 57) : nbl c := by
  have t : ∀ k : Fin 10, Unicode.isSpace (k.val + 48) = false := by decide +kernel
  have := t ⟨c - 48, by omega⟩
  dsimp only at this
  rw [Nat.sub_add_cancel h.1] at this; exact this
/-- nothing, or no blank at either end -/
structure EndsW (l : List Nat) : Prop where
  a : ∃ c r, l = c :: r ∧ nbl c
  b : ∃ c r, l = r ++ [c] ∧ nbl c
theorem EndsW.app {l m : List Nat} (h1 : EndsW l) (h2 : EndsW m) (x : List Nat) : EndsW (l ++ x ++ m) := by
  obtain ⟨⟨c, r, rfl, hc⟩, _⟩ := h1
  obtain ⟨_, ⟨d, s, rfl, hd⟩⟩ := h2
  exact ⟨⟨c, r ++ x ++ (s ++ [d]), by simp, hc⟩, ⟨d, c :: r ++ x ++ s, by simp, hd⟩⟩
theorem EndsW.one {c : Nat} (h : nbl c) : EndsW [c] := ⟨⟨c, [], rfl, h⟩, ⟨c, [], rfl, h⟩⟩
theorem ends_digs {l : List Nat} (h : digs l = true) : EndsW l := by
  obtain ⟨hne, _, hd⟩ := digs_len h
  constructor
  · cases l with
    | nil => exact absurd rfl hne
    | cons c r => exact ⟨c, r, rfl, nbl_digit (hd c (.head _))⟩
  · refine ⟨l.getLast hne, l.dropLast, (List.dropLast_concat_getLast hne).symm, nbl_digit (hd _ (List.getLast_mem hne))⟩
/-- the signs about a text, of three kinds -/
inductive PairK : Str × Str → Bool → Prop where
  | bare : PairK (Str.ofString "", Str.ofString "") false
  | blank : PairK (Str.ofString " ", Str.ofString " ") false
  | sign {x y : Nat} : mc x = 45 → mc y = 45 → nbl x → nbl y → PairK (⟨#[x]⟩, ⟨#[y]⟩) true
theorem pairK (d : Int) : PairK (pairAt d) (sgn d) := by
  have hb := fmod_bd (d.fdiv 4) 6 (by decide)
  unfold sgn pairAt
  have : ((d.fdiv 4).fmod 6).toNat < 6 := by omega
  generalize ((d.fdiv 4).fmod 6).toNat = k at this
  have hk : k = 0 ∨ k = 1 ∨ k = 2 ∨ k = 3 ∨ k = 4 ∨ k = 5 := nat6 this
  rcases hk with rfl | rfl | rfl | rfl | rfl | rfl
  · exact PairK.bare
  · exact PairK.sign (x := 40) (y := 41) (by decide) (by decide) (by unfold nbl; decide +kernel) (by unfold nbl; decide +kernel)
  · exact PairK.sign (x := 34) (y := 34) (by decide) (by decide) (by unfold nbl; decide +kernel) (by unfold nbl; decide +kernel)
  · exact PairK.sign (x := 47) (y := 92) (by decide) (by decide) (by unfold nbl; decide +kernel) (by unfold nbl; decide +kernel)
  · exact PairK.sign (x := 58) (y := 59) (by decide) (by decide) (by unfold nbl; decide +kernel) (by unfold nbl; decide +kernel)
  · exact PairK.blank
theorem full_iff (y : Str) : full y = (y != Str.ofString "") := by
  unfold full
  have e0 : Str.ofString "" = ⟨#[]⟩ := by decide
  rw [e0, Bool.eq_iff_iff, bne_iff_ne, bne_iff_ne]
  constructor
  · intro h e; apply h; rw [e]; rfl
  · intro h e; apply h
    have e2 : ls y = [] := List.eq_nil_of_length_eq_zero (by rw [← ls_len]; omega)
    exact ls_inj e2
theorem ls_emp : ls (Str.ofString "") = [] := by decide
theorem ls_bl : ls (Str.ofString " ") = [32] := by decide
theorem bl_space : ∀ c ∈ ([32] : List Nat), Unicode.isSpace c = true := by decide +kernel
theorem strip_two : Txt.strip (Str.ofString " " ++ Str.ofString "" ++ Str.ofString " ") = Str.ofString "" := by decide +kernel
/-- a text of a core about which the signs stand -/
theorem seg_text {p : Str × Str} {g : Bool} (hk : PairK p g) {x : Str} {f : List Nat} (hx : ls x = [] ∨ EndsW (ls x)) (hs : Seg (ls x) f) :
    (full (p.1 ++ x ++ p.2) = false → ls x = []) ∧ (full (p.1 ++ x ++ p.2) = true → ∃ z, (∀ c ∈ z, c = 45) ∧ Seg (ls (Txt.strip (p.1 ++ x ++ p.2))) ((if g then [45] else []) ++ f ++ z)) := by
  have hfull : ∀ {y : Str}, full y = false → ls y = [] := fun {y} h => by
    rw [full_iff] at h
    have : y = Str.ofString "" := by simpa using h
    rw [this]; exact ls_emp
  cases hk with
  | bare =>
    have e : Str.ofString "" ++ x ++ Str.ofString "" = x := ls_inj (by rw [ls_app, ls_app, ls_emp]; simp)
    dsimp only
    rw [e]
    refine ⟨hfull, fun h => ⟨[], fun c hc => (nomatch hc), ?_⟩⟩
    rcases hx with hx | hx
    · rw [full_iff] at h
      exact absurd (ls_inj (by rw [hx, ls_emp])) (bne_ne h)
    · rw [strip_mid (x := x) (pre := []) (post := []) (mid := ls x) (by simp) (fun c hc => (nomatch hc)) (fun c hc => (nomatch hc)) hx.a hx.b]
      simpa using hs
  | blank =>
    dsimp only
    have e : ls (Str.ofString " " ++ x ++ Str.ofString " ") = [32] ++ ls x ++ [32] := by rw [ls_app, ls_app, ls_bl]
    refine ⟨fun h => ?_, fun h => ⟨[], fun c hc => (nomatch hc), ?_⟩⟩
    · have := hfull h; rw [e] at this; simp at this
    rcases hx with hx | hx
    · have hx' : x = Str.ofString "" := ls_inj (by rw [hx, ls_emp])
      subst hx'
      rw [strip_two, ls_emp]
      have hf := hs.out
      rw [ls_emp] at hf
      have : f = [] := by rw [← hf]; rfl
      subst this
      exact Seg.nil
    · rw [strip_mid e bl_space bl_space hx.a hx.b]
      simpa using hs
  | @sign a b ha hb na nb =>
    dsimp only
    have e : ls ((⟨#[a]⟩ : Str) ++ x ++ ⟨#[b]⟩) = [a] ++ ls x ++ [b] := by rw [ls_app, ls_app]
    refine ⟨fun h => ?_, fun h => ⟨[45], by simp, ?_⟩⟩
    · have := hfull h; rw [e] at this; simp at this
    have hE : EndsW ([a] ++ ls x ++ [b]) := (EndsW.one na).app (EndsW.one nb) _
    rw [strip_mid (pre := []) (post := []) (mid := [a] ++ ls x ++ [b]) (by rw [e]; simp) (fun c hc => (nomatch hc)) (fun c hc => (nomatch hc)) hE.a hE.b]
    have s1 : Seg [a] [45] := by
      have := Seg.free (a := [a]) (fun c hc => by simp at hc; subst hc; rw [ha]; decide)
      simpa [ha] using this
    have s2 : Seg [b] [45] := by
      have := Seg.free (a := [b]) (fun c hc => by simp at hc; subst hc; rw [hb]; decide)
      simpa [hb] using this
    exact (s1.app hs).app s2
theorem ends_unk : EndsW unk := ⟨⟨117, _, rfl, by unfold nbl; decide +kernel⟩, ⟨110, [117, 110, 107, 110, 111, 119], rfl, by unfold nbl; decide +kernel⟩⟩
theorem ls_unk : ls (Str.ofString "unknown") = unk := by decide
/-- what a spot's text is to _platform -/
theorem core_dark {a b c d : Int} (hc : c = 0) : (ls (coreOf (a, b, c, d)) = [] ∨ EndsW (ls (coreOf (a, b, c, d)))) ∧ Seg (ls (coreOf (a, b, c, d))) [] ∧ (coreOf (a, b, c, d)).length ≤ 20 := by
  unfold coreOf
  dsimp only
  rw [if_pos hc]
  have hb := fmod_bd d 2 (by decide)
  have : d.fmod 2 = 0 ∨ d.fmod 2 = 1 := by omega
  rcases this with e | e <;> rw [e]
  · have e2 : Txt.mul (Str.ofString "unknown") 0 = Str.ofString "" := by decide
    rw [e2, ls_emp]; exact ⟨.inl rfl, Seg.nil, by decide⟩
  · have e2 : Txt.mul (Str.ofString "unknown") 1 = Str.ofString "unknown" := by decide
    rw [e2, ls_unk]; exact ⟨.inr ends_unk, Seg.unknown, by decide⟩
theorem mul_bl {d : Int} : ∃ k : Nat, k ≤ 3 ∧ 0 < k ∧ ls (Txt.mul (Str.ofString " ") (1 + d.fmod 3)) = List.replicate k 32 ∧ ls (Txt.mul (Str.ofString "_") (1 + d.fmod 3)) = List.replicate k 95 := by
  have hb := fmod_bd d 3 (by decide)
  have : d.fmod 3 = 0 ∨ d.fmod 3 = 1 ∨ d.fmod 3 = 2 := int3 (fmod_bd d 3 (by decide))
  rcases this with e | e | e <;> rw [e]
  · exact ⟨1, by decide, by decide, by decide, by decide⟩
  · exact ⟨2, by decide, by decide, by decide, by decide⟩
  · exact ⟨3, by decide, by decide, by decide, by decide⟩
theorem word_ls {a b c d : Int} (hb0 : b ≠ 0) : ls (wordOf (a, b, c, d)) = ls (strI a) ++ [46] ++ (ls (strI b) ++ [46] ++ ls (strI c)) := by
  unfold wordOf
  dsimp only
  rw [if_neg hb0, txt_join, dot_eq, ls_join_cons _ _ _ (by simp), ls_join_cons _ _ _ (by simp)]
  rfl
theorem core_light {a b c d : Int} (hv : Valid (a, b, c, d)) (hc : c ≠ 0) : EndsW (ls (coreOf (a, b, c, d))) ∧ Seg (ls (coreOf (a, b, c, d))) (ls (wordOf (a, b, c, d))) ∧ ls (wordOf (a, b, c, d)) ≠ [] ∧ (∀ x ∈ ls (wordOf (a, b, c, d)), Stay x) ∧ (ls (wordOf (a, b, c, d))).length ≤ 8 ∧ (coreOf (a, b, c, d)).length ≤ 20 := by
  obtain ⟨⟨ha0, ha1⟩, ⟨hb0, hb1⟩, hc0, hc1⟩ := hv
  dsimp only at ha0 ha1 hb0 hb1 hc0 hc1
  have da := strI_dig (n := a) ha0 (by omega)
  have db := strI_dig (n := b) hb0 (by omega)
  have dc := strI_dig (n := c) hc0 (by omega)
  have stay : ∀ {l : List Nat}, digs l = true → ∀ x ∈ l, Stay x := fun h x hx => .inl ((digs_len h).2.2 x hx)
  by_cases hb : b = 0
  · have ew : wordOf (a, b, c, d) = Txt.mul (Str.ofString "_") (1 + d.fmod 3) ++ strI c := by unfold wordOf; dsimp only; rw [if_pos hb]
    have ec : coreOf (a, b, c, d) = Str.ofString "unknown" ++ Txt.mul (Str.ofString " ") (1 + d.fmod 3) ++ strI c := by unfold coreOf; dsimp only; rw [if_neg hc, if_pos hb]
    obtain ⟨k, hk3, hk0, e1, e2⟩ := mul_bl (d := d)
    have lc : ls (coreOf (a, b, c, d)) = unk ++ List.replicate k 32 ++ ls (strI c) := by rw [ec, ls_app, ls_app, ls_unk, e1]
    have lw : ls (wordOf (a, b, c, d)) = List.replicate k 95 ++ ls (strI c) := by rw [ew, ls_app, e2]
    rw [ls_len (coreOf _), lc, lw]
    refine ⟨ends_unk.app (ends_digs dc) _, ?_, ?_, ?_, ?_, ?_⟩
    · have s1 : Seg (List.replicate k 32) (List.replicate k 95) := by
        have := Seg.free (a := List.replicate k 32) (fun c hc => by rw [List.eq_of_mem_replicate hc]; decide)
        rw [List.map_replicate] at this; exact this
      exact (Seg.unknown.app s1).app (Seg.stay (stay dc))
    · intro h; rw [List.append_eq_nil_iff] at h; exact (digs_len dc).1 h.2
    · intro x hx
      rcases List.mem_append.mp hx with hx | hx
      · exact .inr (.inr (List.eq_of_mem_replicate hx))
      · exact stay dc x hx
    · rw [List.length_append, List.length_replicate]; have := (digs_len dc).2.1; omega
    · rw [List.length_append, List.length_append, List.length_replicate]; have := (digs_len dc).2.1; simp only [unk, List.length_cons, List.length_nil]; omega
  · have ew := word_ls (a := a) (c := c) (d := d) hb
    have ec : coreOf (a, b, c, d) = wordOf (a, b, c, d) := by unfold coreOf wordOf; dsimp only; rw [if_neg hc, if_neg hb, if_neg hb]
    rw [ls_len (coreOf _), ec, ew]
    have hst : ∀ x ∈ ls (strI a) ++ [46] ++ (ls (strI b) ++ [46] ++ ls (strI c)), Stay x := by
      intro x hx
      simp only [List.mem_append, List.mem_singleton] at hx
      rcases hx with (hx | hx) | (hx | hx) | hx
      · exact stay da x hx
      · exact .inr (.inl hx)
      · exact stay db x hx
      · exact .inr (.inl hx)
      · exact stay dc x hx
    have hlen : (ls (strI a) ++ [46] ++ (ls (strI b) ++ [46] ++ ls (strI c))).length ≤ 8 := by
      simp only [List.length_append, List.length_cons, List.length_nil]
      have := (digs_len da).2.1; have := (digs_len db).2.1; have := (digs_len dc).2.1
      omega
    refine ⟨?_, Seg.stay hst, by simp, hst, hlen, by omega⟩
    exact (ends_digs da).app ((ends_digs db).app (ends_digs dc) _) _
end Mine
end

section
set_option maxRecDepth 100000
namespace Mine
open PySem PySem.W PySem.Calls PySem.StrLaws PySem.Builtin PySem.Builtin.Str PyProof.Rows PySem.Spec
theorem tabGrey : ∀ c : Fin 9, ∀ k : Fin 3, (Txt.slice (Txt.mul (Str.ofString "_") (1 + ((k.val : Nat) : Int)) ++ Str.ofString (toString ((c.val : Nat) : Int))) none (some 1) == Str.ofString "_") = true ∧
    PySem.intText? (Txt.slice (Txt.mul (Str.ofString "_") (1 + ((k.val : Nat) : Int)) ++ Str.ofString (toString ((c.val : Nat) : Int))) (some (-1)) none) = some ((c.val : Nat) : Int) := by decide +kernel
theorem slice_one (y : Str) (h : 1 ≤ y.length) : ls (Txt.slice y none (some 1)) = (ls y).take 1 := by
  have e1 : Txt.slice y none (some 1) = StrLaws.sliceText y (some ((0 : Nat) : Int)) (some ((1 : Nat) : Int)) := by
    show StrLaws.sliceText y none (some 1) = _
    unfold StrLaws.sliceText
    rw [StrLaws.sliceIdx_none_lo]
    rfl
  rw [e1, StrLaws.sliceText_nat y (Nat.zero_le _) h]
  simp [ls]
theorem int_strI {n : Int} (h0 : 0 ≤ n) (h1 : n < 100) : PySem.intText? (strI n) = some n := by
  have := tabInt ⟨0, by decide⟩ ⟨n.toNat, by omega⟩
  dsimp only at this
  have e : aheads4.getD 0 Str.empty ++ Str.ofString (toString ((n.toNat : Nat) : Int)) = strI n := by
    rw [strI_nat h0]
    exact ls_inj (by rw [ls_app, show ls (aheads4.getD 0 Str.empty) = [] by decide]; rfl)
  rw [e, Int.toNat_of_nonneg h0] at this
  exact this
theorem piece_word {a b c d : Int} (hv : Valid (a, b, c, d)) (hc : c ≠ 0) : PieceOk (wordOf (a, b, c, d)) (some (colourOf (a, b, c, d))) := by
  have hvv := hv
  obtain ⟨⟨ha0, ha1⟩, ⟨hb0, hb1⟩, hc0, hc1⟩ := hv
  dsimp only at ha0 ha1 hb0 hb1 hc0 hc1
  by_cases hb : b = 0
  · subst hb
    rw [← grey_colour a d hc0 hc1]
    have hk := fmod_bd d 3 (by decide)
    have t := tabGrey ⟨c.toNat, by omega⟩ ⟨(d.fmod 3).toNat, by omega⟩
    dsimp only at t
    rw [Int.toNat_of_nonneg hk.1, Int.toNat_of_nonneg hc0] at t
    have ew : wordOf (a, 0, c, d) = Txt.mul (Str.ofString "_") (1 + d.fmod 3) ++ Str.ofString (toString c) := by unfold wordOf strI; dsimp only; rw [if_pos rfl]
    rw [ew]
    exact PieceOk.grey t.1 t.2 hc0 hc1
  · have hb' : 0 < b := by omega
    have hc' : 0 < c := by omega
    rw [← word_colour d ha0 ha1 hb' hb1 hc' hc1]
    have hw := word_ls (a := a) (c := c) (d := d) hb
    have hda := digs_len (strI_dig (n := a) ha0 (by omega))
    have hdb := digs_len (strI_dig (n := b) hb0 (by omega))
    have hdc := digs_len (strI_dig (n := c) hc0 (by omega))
    have hlen : 1 ≤ (wordOf (a, b, c, d)).length := by rw [ls_len, hw]; simp only [List.length_append, List.length_cons]; omega
    refine PieceOk.word (a := a) (b := b) (c := c) (x1 := strI a) (x2 := strI b) (x3 := strI c) ?_ ?_ ?_ (int_strI ha0 (by omega)) (int_strI hb0 (by omega)) (int_strI hc0 (by omega)) ha0 ha1 hb' hb1 hc0 hc1 (Nat.le_trans (strI_len ha0 (by omega)) (by decide)) (Nat.le_trans (strI_len hb0 (by omega)) (by decide)) (Nat.le_trans (strI_len hc0 (by omega)) (by decide))
    · rw [← Bool.not_eq_true, beq_iff_eq]
      intro e
      have e2 := congrArg ls e
      rw [slice_one _ hlen, hw] at e2
      cases ha : ls (strI a) with
      | nil => exact hda.1 ha
      | cons x r =>
        have hx := hda.2.2 x (by rw [ha]; exact .head _)
        rw [ha] at e2
        have e3 : [x] = ls (Str.ofString "_") := by simpa using e2
        rw [show ls (Str.ofString "_") = [95] by decide] at e3
        have := (List.cons.inj e3).1
        omega
    · rw [bne_iff_ne]
      intro e
      rw [e] at hlen
      revert hlen; decide
    · unfold wordOf
      dsimp only
      rw [if_neg hb, dot_eq]
      have nodot : ∀ {l : List Nat}, (∀ c ∈ l, 48 ≤ c ∧ c ≤ 57) → 46 ∉ l := fun h hm => by have := h _ hm; omega
      exact split_join (List.cons_ne_nil _ _) (List.forall_mem_cons.mpr ⟨nodot hda.2.2, List.forall_mem_cons.mpr ⟨nodot hdb.2.2, List.forall_mem_cons.mpr ⟨nodot hdc.2.2, List.forall_mem_nil _⟩⟩⟩)
inductive Pieces : List Str → List (Option Tri) → Prop where
  | nil : Pieces [] []
  | cons {y : Str} {o : Option Tri} {ys : List Str} {os : List (Option Tri)} : PieceOk y o → Pieces ys os → Pieces (y :: ys) (o :: os)
theorem Pieces.snoc {ys : List Str} {os : List (Option Tri)} (h : Pieces ys os) {y : Str} {o : Option Tri} (hp : PieceOk y o) : Pieces (ys ++ [y]) (os ++ [o]) := by
  induction h with
  | nil => exact .cons hp .nil
  | cons a _ ih => exact .cons a ih
theorem Pieces.len {ys : List Str} {os : List (Option Tri)} (h : Pieces ys os) : os.length = ys.length := by
  induction h with
  | nil => rfl
  | cons _ _ ih => simp [ih]
theorem Pieces.at {ys : List Str} {os : List (Option Tri)} (h : Pieces ys os) : ∀ (i : Nat) y o, ys[i]? = some y → os[i]? = some o → PieceOk y o := by
  induction h with
  | nil => intro i y o h; simp at h
  | cons a _ ih =>
    intro i y o h1 h2
    cases i with
    | zero => simp at h1 h2; subst h1; subst h2; exact a
    | succ i => exact ih i y o (by simpa using h1) (by simpa using h2)
structure Inv (n : Nat) (st : St) : Prop where
  seg : ∃ f p, Seg (ls (joined st.texts)) f ∧ f.foldl tr ([], false) = (ls st.due, p)
  nb : st.begun = false → st.texts.filter full = [] ∧ st.due = Str.ofString "" ∧ st.kept = []
  bg : st.begun = true → st.texts.filter full ≠ []
  txt : ∀ y ∈ st.texts, y.length ≤ 100
  tn : st.texts.length ≤ n
  due : st.due.length ≤ 20 * n
  read : ∃ ys os, st.due = Txt.join (Str.ofString "-") ys ∧ ys ≠ [] ∧ (∀ y ∈ ys, 45 ∉ ls y) ∧ (∀ y ∈ ys, y.length ≤ 640) ∧ ys.length ≤ n + 1 ∧ Pieces ys os ∧ os.filterMap id = st.kept
theorem ls_d : ls (Str.ofString "-") = [45] := by decide
theorem joined_app (ts : List Str) (t : Str) : joined (ts ++ [t]) = if full t then (if ts.filter full = [] then Txt.strip t else joined ts ++ Str.ofString "-" ++ Txt.strip t) else joined ts := by
  unfold joined
  rw [List.filter_append, txt_join, txt_join]
  by_cases h : full t = true
  · rw [if_pos h, List.filter_cons_of_pos h, List.filter_nil, List.map_append]
    split
    · rename_i e; rw [e]; rfl
    · rename_i e
      exact join_snoc _ _ _ (by simpa using e)
  · rw [if_neg h, List.filter_cons_of_neg h, List.filter_nil, List.append_nil]
theorem text_eq (q : Quad) : textOf q = (pairAt q.2.2.2).1 ++ coreOf q ++ (pairAt q.2.2.2).2 := rfl
theorem text_len {q : Quad} (h : (coreOf q).length ≤ 20) : (textOf q).length ≤ 100 := by
  have := pair_len q.2.2.2
  rw [text_eq, ls_len, ls_app, ls_app, List.length_append, List.length_append, ← ls_len, ← ls_len, ← ls_len]
  omega
theorem inv_step {n : Nat} {st : St} {q : Quad} (I : Inv n st) (hv : Valid q) : Inv (n + 1) (step st q) := by
  obtain ⟨a, b, c, d⟩ := q
  obtain ⟨⟨f, p, hsg, hfl⟩, inb, ibg, itx, itn, idue, ys, os, r1, r2, r3, r4, r5, r6, r7⟩ := I
  have hbeg : (step st (a, b, c, d)).begun = (st.begun || full (textOf (a, b, c, d))) := by rw [full_iff]; rfl
  have htx : (step st (a, b, c, d)).texts = st.texts ++ [textOf (a, b, c, d)] := rfl
  have hwds := text_eq (a, b, c, d)
  dsimp only at hwds
  by_cases hc : c = 0
  · have hdue : (step st (a, b, c, d)).due = st.due := by show nextDue st _ = _; unfold nextDue; rw [if_pos hc]
    have hkept : (step st (a, b, c, d)).kept = st.kept := if_pos hc
    obtain ⟨k1, k2, k3⟩ := core_dark (a := a) (b := b) (c := c) (d := d) hc
    have sg := (seg_text (pairK d) k1 k2).2
    rw [← hwds] at sg
    refine ⟨?_, ?_, ?_, ?_, by rw [htx, List.length_append]; simp only [List.length_cons, List.length_nil]; omega, by rw [hdue]; omega, ys, os, by rw [hdue]; exact r1, r2, r3, r4, by omega, r6, by rw [hkept]; exact r7⟩
    · rw [hdue, htx, joined_app]
      by_cases hf : full (textOf (a, b, c, d)) = true
      · obtain ⟨z, hz, hseg⟩ := sg hf
        have hdash : ∀ c ∈ (if sgn d then [45] else []) ++ [] ++ z, c = 45 := by
          intro c hc
          rcases List.mem_append.mp hc with hc | hc
          · rw [List.append_nil] at hc
            split at hc
            · simpa using hc
            · simp at hc
          · exact hz c hc
        rw [if_pos hf]
        split
        · rename_i e
          have hbf : st.begun = false := by
            cases hb : st.begun with
            | false => rfl
            | true => exact absurd e (ibg hb)
          have hd0 := (inb hbf).2.1
          refine ⟨_, _, hseg, Prod.ext ?_ rfl⟩
          rw [tr_dashes _ _ hdash, hd0, ls_emp]
        · refine ⟨_, _, by rw [ls_app, ls_app]; exact (hsg.app (by rw [ls_d]; exact Seg.free (a := [45]) (by decide))).app hseg, Prod.ext ?_ rfl⟩
          rw [List.foldl_append, tr_dashes _ _ hdash, List.foldl_append, hfl]
          rfl
      · rw [if_neg hf]
        exact ⟨f, p, hsg, hfl⟩
    · intro hb
      rw [hbeg, Bool.or_eq_false_iff] at hb
      obtain ⟨x1, x2, x3⟩ := inb hb.1
      refine ⟨?_, by rw [hdue]; exact x2, by rw [hkept]; exact x3⟩
      rw [htx, List.filter_append, x1, List.filter_cons_of_neg (by rw [hb.2]; decide)]; rfl
    · intro hb
      rw [hbeg, Bool.or_eq_true] at hb
      rw [htx, List.filter_append]
      rcases hb with hb | hb
      · intro e; exact ibg hb (List.append_eq_nil_iff.mp e).1
      · rw [List.filter_cons_of_pos hb]; simp
    · intro y hy
      rw [htx] at hy
      rcases List.mem_append.mp hy with hy | hy
      · exact itx y hy
      · rw [List.mem_singleton.mp hy]; exact text_len k3
  · have hdue : (step st (a, b, c, d)).due = st.due ++ (if st.begun || sgn d then Str.ofString "-" else Str.ofString "") ++ wordOf (a, b, c, d) := by show nextDue st _ = _; unfold nextDue; rw [if_neg hc]; rfl
    have hkept : (step st (a, b, c, d)).kept = st.kept ++ [colourOf (a, b, c, d)] := if_neg hc
    obtain ⟨k1, k2, k3, k4, k5, k6⟩ := core_light hv hc
    obtain ⟨sg1, sg2⟩ := seg_text (pairK d) (.inr k1) k2
    rw [← hwds] at sg1 sg2
    have hf : full (textOf (a, b, c, d)) = true := by
      cases h : full (textOf (a, b, c, d)) with
      | true => rfl
      | false => obtain ⟨⟨x, r, e, _⟩, _⟩ := k1; rw [sg1 h] at e; cases e
    obtain ⟨z, hz, hseg⟩ := sg2 hf
    have hpw := piece_word hv hc
    have h45 := stay_no k4
    have lsD : ls (st.due ++ (if st.begun || sgn d then Str.ofString "-" else Str.ofString "") ++ wordOf (a, b, c, d)) = ls st.due ++ (if st.begun || sgn d then [45] else []) ++ ls (wordOf (a, b, c, d)) := by
      rw [ls_app, ls_app]
      split
      · rw [ls_d]
      · rw [ls_emp]
    have hwl : (wordOf (a, b, c, d)).length ≤ 8 := by rw [ls_len]; exact k5
    refine ⟨?_, ?_, ?_, ?_, by rw [htx, List.length_append]; simp only [List.length_cons, List.length_nil]; omega, ?_, ?_⟩
    · rw [hdue, htx, joined_app, if_pos hf, lsD]
      split
      · rename_i e
        have hbf : st.begun = false := by
          cases hb : st.begun with
          | false => rfl
          | true => exact absurd e (ibg hb)
        have hd0 := (inb hbf).2.1
        refine ⟨_, _, hseg, Prod.ext ?_ rfl⟩
        rw [hbf, hd0, ls_emp, Bool.false_or, List.foldl_append, List.foldl_append, tr_dashes z _ hz]
        cases sgn d with
        | true => rw [if_pos rfl, List.foldl_cons, List.foldl_nil, tr_dash, tr_word _ _ k3 h45]; rfl
        | false => rw [if_neg (by decide), List.foldl_nil, tr_word _ _ k3 h45]; rfl
      · rename_i e
        have hbt : st.begun = true := by
          cases hb : st.begun with
          | true => rfl
          | false => exact absurd (inb hb).1 e
        refine ⟨_, _, by rw [ls_app, ls_app]; exact (hsg.app (by rw [ls_d]; exact Seg.free (a := [45]) (by decide))).app hseg, Prod.ext ?_ rfl⟩
        rw [hbt, Bool.true_or, List.foldl_append, List.foldl_append, tr_dashes z _ hz, List.foldl_append, List.foldl_append, hfl]
        have em : ([45] : List Nat).map mc = [45] := by decide
        rw [em, List.foldl_cons, List.foldl_nil, tr_dash]
        cases sgn d with
        | true => rw [if_pos rfl, List.foldl_cons, List.foldl_nil, tr_dash, tr_word _ _ k3 h45]; rfl
        | false => rw [if_neg (by decide), List.foldl_nil, tr_word _ _ k3 h45]
    · intro hb
      rw [hbeg, hf, Bool.or_true] at hb; cases hb
    · intro _
      rw [htx, List.filter_append, List.filter_cons_of_pos hf]; simp
    · intro y hy
      rw [htx] at hy
      rcases List.mem_append.mp hy with hy | hy
      · exact itx y hy
      · rw [List.mem_singleton.mp hy]; exact text_len k6
    · rw [hdue, ls_len, lsD]
      simp only [List.length_append]
      rw [← ls_len, ← ls_len]
      have : (if st.begun || sgn d then [45] else [] : List Nat).length ≤ 1 := by split <;> simp
      omega
    · rw [hdue, hkept]
      by_cases hs : (st.begun || sgn d) = true
      · rw [if_pos hs]
        refine ⟨ys ++ [wordOf (a, b, c, d)], os ++ [some (colourOf (a, b, c, d))], ?_, by simp, ?_, ?_, by rw [List.length_append]; simp only [List.length_cons, List.length_nil]; omega, r6.snoc hpw, ?_⟩
        · rw [r1, txt_join, txt_join, join_snoc _ _ _ r2]
        · intro y hy
          rcases List.mem_append.mp hy with hy | hy
          · exact r3 y hy
          · rw [List.mem_singleton.mp hy]; exact h45
        · intro y hy
          rcases List.mem_append.mp hy with hy | hy
          · exact r4 y hy
          · rw [List.mem_singleton.mp hy]; omega
        · rw [List.filterMap_append, r7]; rfl
      · rw [if_neg hs]
        rw [Bool.not_eq_true, Bool.or_eq_false_iff] at hs
        obtain ⟨_, x2, x3⟩ := inb hs.1
        refine ⟨[wordOf (a, b, c, d)], [some (colourOf (a, b, c, d))], ?_, by simp, ?_, ?_, by simp, .cons hpw .nil, ?_⟩
        · rw [x2, txt_join]
          exact ls_inj (by rw [ls_app, ls_app, ls_emp]; rfl)
        · intro y hy; rw [List.mem_singleton.mp hy]; exact h45
        · intro y hy; rw [List.mem_singleton.mp hy]; omega
        · rw [x3]; rfl
theorem inv_run : ∀ (qs : List Quad) (n : Nat) (st : St), Inv n st → (∀ q ∈ qs, Valid q) → Inv (n + qs.length) (qs.foldl step st) := by
  intro qs
  induction qs with
  | nil => intro n st h _; exact h
  | cons q r ih =>
    intro n st h hv
    have := ih (n + 1) (step st q) (inv_step h (hv q (.head _))) fun q hq => hv q (.tail _ hq)
    rw [List.length_cons, show n + (r.length + 1) = n + 1 + r.length by omega]
    exact this
theorem inv0 : Inv 0 st0 := by
  refine ⟨⟨[], false, Seg.nil, rfl⟩, fun _ => ⟨rfl, rfl, rfl⟩, fun h => (nomatch h), fun y hy => (nomatch hy), Nat.le_refl _, by decide, [Str.ofString ""], [none], rfl, by simp, by decide, by decide, by decide, .cons .nil .nil, rfl⟩
theorem inv_all {qs : List Quad} (hv : ∀ q ∈ qs, Valid q) : Inv qs.length (run qs) := by
  have := inv_run qs 0 st0 inv0 hv
  rw [Nat.zero_add] at this; exact this
theorem plain_plat {qs : List Quad} (hv : ∀ q ∈ qs, Valid q) (hl : qs.length ≤ 13) : PlatOk (run qs).texts ∧ platStr (run qs).texts = (run qs).due ∧ (run qs).due.length ≤ 1000 := by
  have I := inv_all hv
  have hft : ((run qs).texts.filter full).length ≤ 13 := Nat.le_trans (List.length_filter_le _ _) (Nat.le_trans I.tn hl)
  have hB : ∀ y ∈ ((run qs).texts.filter full).map Txt.strip, y.length ≤ 100 := by
    intro y hy
    obtain ⟨x, hx, rfl⟩ := List.mem_map.mp hy
    exact Nat.le_trans (len_strip x) (I.txt x (List.mem_filter.mp hx).1)
  have e1 : (Str.ofString "-").length = 1 := by decide
  refine ⟨⟨fun y hy => Nat.le_trans (I.txt y hy) (by decide), Nat.le_trans I.tn (by omega), ?_, ?_⟩, ?_, by have := I.due; omega⟩
  · unfold JoinOk
    rw [joinFits hB (by rw [List.length_map, e1]; omega)]
    rfl
  · unfold joined
    rw [txt_join]
    have h1 := StrLaws.join_length_le (Str.ofString "-") (((run qs).texts.filter full).map Txt.strip)
    have h2 := sum_le hB
    rw [e1] at h1
    rw [List.length_map] at h1 h2
    omega
  · obtain ⟨f, p, h1, h2⟩ := I.seg
    refine ls_inj ?_
    unfold platStr
    rw [plat_out, chain_ls, h1.out, h2]
theorem plain_read {qs : List Quad} (hv : ∀ q ∈ qs, Valid q) (hl : qs.length ≤ 13) : ∃ (ys : List Str) (os : List (Option Tri)), Txt.split (run qs).due (Str.ofString "-") = ys ∧ (∀ y ∈ ys, y.length ≤ 640) ∧ ys.length ≤ 1000 ∧ os.length = ys.length ∧ (∀ (i : Nat) y o, ys[i]? = some y → os[i]? = some o → PieceOk y o) ∧ os.filterMap id = (run qs).kept := by
  obtain ⟨ys, os, r1, r2, r3, r4, r5, r6, r7⟩ := (inv_all hv).read
  refine ⟨ys, os, ?_, r4, by omega, r6.len, r6.at, r7⟩
  rw [r1, d_eq]
  exact split_join r2 r3
theorem colour_ok {a b c d : Int} (hv : Valid (a, b, c, d)) : ColourOk a b c d := colour_ok' hv.1.1 hv.1.2 hv.2.1.1 hv.2.1.2 hv.2.2.1 hv.2.2.2
end Mine
end

section
set_option maxRecDepth 100000
namespace Mine
open PySem PySem.W PySem.Calls PyProof.Rows PySem.Spec PySem.SeqAt
theorem tabSelf : ∀ n : Fin 1025, eqF (Pn n.val) (Pn n.val) = true := by decide +kernel
noncomputable def SelfEq (c : Tri) : Prop := eqF c.1 c.1 = true ∧ eqF c.2.1 c.2.1 = true ∧ eqF c.2.2 c.2.2 = true
theorem part_self {a b c : Int} (k : Int) (hb : 0 ≤ b) (hb' : b < 9) (hc : 0 ≤ c) (hc' : c < 9) : eqF (partF a b c k) (partF a b c k) = true := by
  rw [partP k hb hb' hc hc']
  unfold Pu
  have h1 : c.toNat * (128 - b.toNat * (clipI (wayI a k)).toNat) ≤ 8 * 128 := Nat.mul_le_mul (by omega) (Nat.sub_le _ _)
  exact tabSelf ⟨_, Nat.lt_succ_of_le h1⟩
theorem colour_self {q : Quad} (hv : Valid q) : SelfEq (colourOf q) := by
  obtain ⟨a, b, c, d⟩ := q
  obtain ⟨_, ⟨hb, hb'⟩, hc, hc'⟩ := hv
  exact ⟨part_self 0 hb hb' hc hc', part_self 32 hb hb' hc hc', part_self 64 hb hb' hc hc'⟩
theorem kept_self : ∀ (qs : List Quad) (st : St), (∀ c ∈ st.kept, SelfEq c) → (∀ q ∈ qs, Valid q) → ∀ c ∈ (qs.foldl step st).kept, SelfEq c := by
  intro qs
  induction qs with
  | nil => intro st h _; exact h
  | cons q r ih =>
    intro st h hv
    refine ih (step st q) ?_ fun q hq => hv q (.tail _ hq)
    intro c hc
    have e : (step st q).kept = if q.2.2.1 = 0 then st.kept else st.kept ++ [colourOf q] := rfl
    rw [e] at hc
    split at hc
    · exact h c hc
    · rcases List.mem_append.mp hc with hc | hc
      · exact h c hc
      · rw [List.mem_singleton.mp hc]; exact colour_self (hv q (.head _))
section
variable {A : Around} {s : Shared}
/-- no reader has booked a number: told by the text's own part of the heap -/
noncomputable def bookFree (o : Option Obj) : Bool := match o with
  | some ⟨_, _, .dict es _, _⟩ => (es.toList.all fun e => match e.key with | .str _ _ => true | _ => false) && (nsFind es sharingNotToldKey).isNone
  | _ => false
theorem none_booked {w : World} {h : Heap} (X : (Mine.hd.heap_39 w.params).In h) : NoneBooked h := by
  have hb : bookFree ((Mine.hd.heap_39 w.params).lookup 2) = true := by kernel_rfl
  cases e : (Mine.hd.heap_39 w.params).lookup 2 with
  | none => rw [e] at hb; cases hb
  | some o =>
    rw [e] at hb
    have hg := X 2 o e
    obtain ⟨cls, dd, data, sl⟩ := o
    cases data with
    | dict es ep =>
      simp only [bookFree, Bool.and_eq_true, List.all_eq_true, Option.isNone_iff_eq_none] at hb
      refine ⟨nsFind es, ⟨_, es, ep, hg, rfl, ?_, fun _ => rfl⟩, hb.2⟩
      intro d hd
      have := hb.1 d (by simpa using hd)
      cases hk : d.key with
      | str x t => exact ⟨x, t, rfl⟩
      | _ => rw [hk] at this; cases this
    | _ => cases hb
theorem isSameF {M : Model} {E : Value → Shared → Prop} {Q : Bool → Shared → Prop} {a : UInt64} {t u : Tok} (ht : 0 < t) (hu : 0 < u) (hb : NoneBooked s.heap) (hq : ∀ b, Q b s) : wpAny M A (isSame (.float a t) (.float a u)) Q E s := by
  have z1 : (t == 0 || u == 0) = false := by
    rw [Bool.or_eq_false_iff]; exact ⟨beq_false_of_ne (Nat.ne_of_gt ht), beq_false_of_ne (Nat.ne_of_gt hu)⟩
  show wpAny M A (isSame.created (a == a && !Float64.isNaN a) t u) Q E s
  unfold isSame.created
  rw [z1]
  refine wpAny_ite_split (fun h => absurd h Bool.false_ne_true) fun _ => ?_
  refine wpAny_ite_split (fun _ => wpAny_pure (hq _)) fun _ => ?_
  refine wpAny_ite_split (fun _ => wpAny_pure (hq _)) fun _ => ?_
  refine wpAny_bind (wpAny_sharingNotTold_none hb ?_)
  refine wpAny_ite_split (fun h => absurd h Bool.false_ne_true) fun _ => ?_
  refine wpAny_bind (wpAny_sharingNotTold_none hb ?_)
  refine wpAny_ite_split (fun h => absurd h Bool.false_ne_true) fun _ => ?_
  exact wpAny_bind (wpAny_rule (wpAny_bind (wpAny_askSetting (wpAny_pure (hq _)))))
theorem EqAtF {a : UInt64} {t u : Tok} (ht : 0 < t) (hu : 0 < u) (hb : NoneBooked s.heap) (h : eqF a a = true) : EqAt A s (.float a t) (.float a u) true := fun prog w E Q hq => by
  unfold eqBool
  refine wpAny_holding ?_
  refine wpAny_ite_split (fun _ => wpAny_bind (wpAny_rule (wpAny_pure hq))) (fun _ => ?_)
  refine wpAny_bind (isSameF ht hu hb fun b => ?_)
  refine wpAny_ite_split (fun _ => wpAny_pure hq) (fun _ => ?_)
  refine wpAny_bind (AutoFloatOps.eq_0 ?_)
  show wpAny _ _ (truthOfDropped (.bool (eqF a a))) Q E s
  rw [h]
  exact wpAny_truthy_bool hq
theorem EqAtT {D D' : Addr} {x y z : UInt64} {t u v t' u' v' : Tok} (h1 : s.heap.get? D = some (tupF x y z t u v)) (h2 : s.heap.get? D' = some (tupF x y z t' u' v')) (q1 : 0 < t) (q2 : 0 < u) (q3 : 0 < v) (r1 : 0 < t') (r2 : 0 < u') (r3 : 0 < v') (hb : NoneBooked s.heap) (hs : SelfEq (x, y, z)) (hu : A.units < cLine) : EqAt A s (.ref D) (.ref D') true := by
  by_cases e : D = D'
  · subst e; exact EqAt.same _
  · have l1 : s.heap.IsTuple D #[.float x t, .float y u, .float z v] := ⟨_, h1, rfl, _, rfl⟩
    have l2 : s.heap.IsTuple D' #[.float x t', .float y u', .float z v'] := ⟨_, h2, rfl, _, rfl⟩
    refine EqAt.of_refs e ?_
    refine RcAt.tuples (e := fun _ => true) l1 l2 hu ?_
    intro j j1 j2
    have hj : j = 0 ∨ j = 1 ∨ j = 2 := nat3 j1
    rcases hj with rfl | rfl | rfl
    · exact EqAtF q1 r1 hb hs.1
    · exact EqAtF q2 r2 hb hs.2.1
    · exact EqAtF q3 r3 hb hs.2.2
theorem rows_at {vs ws : List Value} {cs : List Tri} (h1 : RowIs (fun q => s.heap.get? q.1 = some q.2) vs cs) (h2 : RowIs (fun q => s.heap.get? q.1 = some q.2) ws cs) (hb : NoneBooked s.heap) (hs : ∀ c ∈ cs, SelfEq c) (hu : A.units < cLine) :
    ∀ j (j1 : j < vs.length) (j2 : j < ws.length), EqAt A s vs[j] ws[j] true := by
  induction h1 generalizing ws with
  | nil => intro j j1; exact absurd j1 (Nat.not_lt_zero _)
  | cons a q1 q2 q3 _ ih =>
    cases h2 with
    | cons b r1 r2 r3 r =>
      intro j j1 j2
      cases j with
      | zero => exact EqAtT a b q1 q2 q3 r1 r2 r3 hb (hs _ (.head _)) hu
      | succ j => exact ih r (fun c hc => hs c (.tail _ hc)) j (by simpa using j1) (by simpa using j2)
end
section
variable {prog : Program} {w : World} {A : Around} {E : Value → Shared → Prop} {s : Shared} {Q : Value → Shared → Prop}
theorem rows_eq {a b : Addr} {its its2 : Array Value} {n1 n2 : Nat} {cs : List Tri} (h1 : s.heap.get? a = some (W.listOf its n1)) (h2 : s.heap.get? b = some (W.listOf its2 n2)) (R1 : RowIs (fun q => s.heap.get? q.1 = some q.2) its.toList cs) (R2 : RowIs (fun q => s.heap.get? q.1 = some q.2) its2.toList cs)
    (hb : NoneBooked s.heap) (hs : ∀ c ∈ cs, SelfEq c) (hu : A.units < cLine) (hu1 : A.in1.units < cLine) (h : Q (.bool true) s) : wpAny (model prog w) A (compareOp .Eq (.ref a) (.ref b)) Q E s := by
  have e1 := R1.len
  have e2 := R2.len
  rw [Array.length_toList] at e1 e2
  refine eq_listAt (e := fun _ => true) ⟨_, h1, rfl, _, rfl⟩ ⟨_, h2, rfl, _, rfl⟩ (e1.trans e2.symm) hu ?_ ?_
  · intro j j1 j2
    have := rows_at (A := A.in1) R1 R2 hb hs hu1 j (by simpa using j1) (by simpa using j2)
    simpa using this
  · have : (List.range its.size).all (fun _ => true) = true := by rw [List.all_eq_true]; intros; rfl
    rw [this]; exact h
end
end Mine
end

section
set_option maxRecDepth 100000
namespace Mine
open PySem PySem.W PySem.Calls PyProof.Rows PySem.Spec
local macro_rules | `(tactic| walk_at "none 0") => `(tactic| fail)
local macro_rules | `(tactic| walk_at "none 1") => `(tactic| fail)
local macro_rules | `(tactic| walk_at "none 2") => `(tactic| fail)
local macro_rules | `(tactic| walk_at "none 3") => `(tactic| fail)
local macro_rules | `(tactic| walk_at "none 4") => `(tactic| fail)
local macro_rules | `(tactic| walk_at "exec For") => return haltT
local macro_rules | `(tactic| k_ne) => return neT true false
local macro_rules | `(tactic| k_all) => allM false
local macro_rules | `(tactic| k_upd) => updM
local macro_rules | `(tactic| walk_at "call builtin:list.append") => appM
local macro_rules | `(tactic| walk_at "call ref") => lineM ' ' (reE 50 "iii") `Mine.wheel_L "kkaarraaaa!" 11 true []
local macro_rules | `(tactic| walk_at "call ref") => lineM ' ' (reE 36 "fff") `Mine.seen_L "kkaarra!" 8 true []
local macro_rules | `(tactic| walk_at "execs cons") => markM
local macro_rules | `(tactic| walk_at "subscriptTail") => lineM 'u' (e_sub e_4) `Mine.ahead_K "km!U" 1 true []
local macro_rules | `(tactic| walk_at "subscriptTail") => lineM ' ' (e_sub e_46) `Mine.pairs_K "kmaM!U" 4 true [2, 0, 1, 3, 5]
local macro_rules | `(tactic| walk_at "subscriptTail Name Constant ref int") => lineM 'd' (e_sub e_un) `Mine.item_tupleT "Tddqq!" 0 true []
set_option maxHeartbeats 8000000 in
theorem turn1 : ∀ (w : World) (qual : Str) (body : List Stmt) (scope : Scope), LawAt w qual body scope → ∀ (mean : ExcName → Option Value) (mg mb : Str → Option Value) (fa : Addr) (cd : Value) (g h : Heap) (L TEXTS KEPT PAIRS ALL D IT : Addr) (o oc : Obj) (prs all tx kp : Array Value) (n1 n2 tk : Nat) (ps : Array Value) (rest : List (Addr × Obj)) (st : St)
    (a b c d : Int) (u1 u2 u3 u4 t1 t2 : Tok) (m : Str → Option Value) (gens : Array GenState) (dr : Drawn) (os : OsState) (H S V : UInt64) (Q : Flow → Shared → Prop)
    (_ : (Mine.hd.heap_39 w.params).In g) (_ : Top vw lo mean mg mb g) (_ : 0 ≤ a) (_ : a < 96) (_ : 0 ≤ b) (_ : b < 9) (_ : 0 ≤ c) (_ : c < 9) (_ : SeenOk a b c H S V) (_ : PairsAre (· ∈ rest) prs.toList sixPairs)
    (_ : Fr g L h m) (_ : ∀ p ∈ [(Str.ofString "pairs", Value.ref PAIRS), (Str.ofString "texts", Value.ref TEXTS), (Str.ofString "kept", Value.ref KEPT), (Str.ofString "begun", Value.bool st.begun), (Str.ofString "due", Value.str st.due t1), (Str.ofString "told", Value.str st.due t2)], m p.1 = some p.2)
    (_ : News g L h ((D, tupI a b c d u1 u2 u3 u4) :: (IT, o) :: (24, tabObj ps) :: (L + 1, oc) :: (TEXTS, W.listOf tx n1) :: (KEPT, W.listOf kp n2) :: (PAIRS, W.listOf prs 0) :: (ALL, W.listOf all 0) :: rest))
    (_ : ∀ h' tk' COL SEEN WANTED m' t1 t2 t3 t4 t5 t6 t7 x1 x2 x3 y1 y2 y3 z1 z2 z3, M5 TEXTS KEPT PAIRS COL SEEN WANTED st a b c d t1 t2 t3 t4 t5 t6 t7 m' → Fr g L h' m' → TEXTS < WANTED → KEPT < WANTED → L + 1 < WANTED →
      News g L h' ((WANTED, W.listOf #[.str (strI a) z1, .str (strI b) z2, .str (strI c) z3] 0) :: (SEEN, tupF H S V y1 y2 y3) :: (COL, tupF (partF a b c 0) (partF a b c 32) (partF a b c 64) x1 x2 x3) :: (IT, o) :: (24, tabObj ps) :: (L + 1, oc) :: (TEXTS, W.listOf tx n1) :: (KEPT, W.listOf kp n2) :: (PAIRS, W.listOf prs 0) :: (ALL, W.listOf all 0) :: rest) → 0 < x1 → 0 < x2 → 0 < x3 →
      wpAny (model Challenge.rw_ny0082_01.row.prog w) (callerA.deeper (envOfC qual scope L fa cd)) (execs (mainBody body).tail.tail.tail.tail.tail (envOfC qual scope L fa cd)) Q (fun _ _ => False) ⟨h', gens, dr, tk', os⟩),
      wpAny (model Challenge.rw_ny0082_01.row.prog w) (callerA.deeper (envOfC qual scope L fa cd)) (assign (mainTgt body) (envOfC qual scope L fa cd) (.ref D)) (fun _ s₂ => wpAny (model Challenge.rw_ny0082_01.row.prog w) (callerA.deeper (envOfC qual scope L fa cd)) (execs (mainBody body) (envOfC qual scope L fa cd)) Q (fun _ _ => False) s₂) (fun _ _ => False) ⟨h, gens, dr, tk, os⟩ := by
  w_top off
  k_fill
  intro w
  refine' viaLaw ?k6 ?_
  case k6 => k_is
  intro mean mg mb fa cd g h L TEXTS KEPT PAIRS ALL D IT o oc prs all tx kp n1 n2 tk ps rest st a b c d u1 u2 u3 u4 t1 t2 m gens dr os H S V Q X T ha0 ha1 hb0 hb1 hc0 hc1 hseen hpr F hm N next
  rw [← overlay_eq hm] at F
  dsimp only [mainBody, mainTgt, List.tail_cons, headS, forBody, forTgt] at next ⊢
  dsimp only [overlay] at F
  clear hm
  have hm9 : HaltMark := trivial
  k_steps
  unfold Halt
  refine wpAny_execs_cons ?_
  k_steps
  · rename (st.due != st.due) = true => hne; simp at hne
  unfold Halt
  dsimp only
  refine wpAny_execs_cons ?_
  k_steps
  unfold Halt
  dsimp only
  refine wpAny_execs_cons ?_
  k_steps
  unfold Halt
  dsimp only
  refine wpAny_execs_cons ?_
  k_steps
  unfold Halt
  dsimp only
  refine wpAny_execs_cons ?_
  k_steps
  unfold Halt
  dsimp only
  rename Fr _ _ _ _ => FF
  rename News _ _ _ _ => NN
  rename _ ∧ _ => l1
  rename_i COL _ _ x1 x2 x3 _ _ _ _ SEEN _ _ y1 y2 y3 _ PT tb ub _ _ _ WAN h8 h9
  refine' next _ _ COL SEEN WAN _ t1 u1 u2 u3 u4 tb ub x1 x2 x3 _ _ _ _ _ _ ?m5 FF ?l1 ?l2 ?l3 ?nn (by assumption) (by assumption) (by assumption)
  case m5 => exact ⟨all_cons (by first | exact Eq.refl (some _) | rfl | exact rfl) (all_cons (by first | exact Eq.refl (some _) | rfl | exact rfl) (all_cons (by first | exact Eq.refl (some _) | rfl | exact rfl) (all_cons (by first | exact Eq.refl (some _) | rfl | exact rfl) (all_cons (by first | exact Eq.refl (some _) | rfl | exact rfl) (all_cons (by first | exact Eq.refl (some _) | rfl | exact rfl) (all_cons (by first | exact Eq.refl (some _) | rfl | exact rfl) (all_cons (by first | exact Eq.refl (some _) | rfl | exact rfl) (all_cons (by first | exact Eq.refl (some _) | rfl | exact rfl) (all_cons (by first | exact Eq.refl (some _) | rfl | exact rfl) (all_cons (by first | exact Eq.refl (some _) | rfl | exact rfl) (all_cons (by first | exact Eq.refl (some _) | rfl | exact rfl) (all_cons (by first | exact Eq.refl (some _) | rfl | exact rfl) (all_cons (by first | exact Eq.refl (some _) | rfl | exact rfl) (List.forall_mem_nil _))))))))))))))⟩
  case nn => exact newsOf NN (subC (by k_mem) (subC (by k_mem) (subC (by k_mem) (subC (by k_mem) (subC (by k_mem) (subC (by k_mem) (subC (by k_mem) (subC (by k_mem) (subC (by k_mem) (subC (by k_mem) ((fun q hq => by repeat (first | exact hq | refine List.Mem.tail _ ?_)))))))))))))
  case l1 => exact l1.2.2.2.2.2.2.2.1
  case l2 => exact l1.2.2.2.2.2.2.2.2.1
  case l3 => exact l1.2.2.2.2.2.2.1

local macro_rules | `(tactic| walk_at "call type:int") => lineM ' ' (tyE "int" "f") `Mine.intF_K "Raa!" 2 false []
local macro_rules | `(tactic| walk_at "call type:str") => lineM ' ' (tyE "str" "i") `Mine.strI_K "bb!" 2 false []
local macro_rules | `(tactic| walk_at "binaryOp Add str str") => lineM ' ' e_add `Mine.addS_K "Le!" 2 false []
set_option maxHeartbeats 8000000 in
theorem turnA : ∀ (w : World) (qual : Str) (body : List Stmt) (scope : Scope), LawAt w qual body scope → ∀ (mean : ExcName → Option Value) (mg mb : Str → Option Value) (fa : Addr) (cd : Value) (g h : Heap) (L TEXTS KEPT PAIRS ALL COL SEEN WANTED IT : Addr) (o oc : Obj) (v : Option Value) (prs all tx kp : Array Value) (n1 n2 tk : Nat) (ps : Array Value) (rest : List (Addr × Obj)) (st : St)
    (a b c d : Int) (t1 t2 t3 t4 t5 t6 t7 x1 x2 x3 y1 y2 y3 z1 z2 z3 : Tok) (m : Str → Option Value) (gens : Array GenState) (dr : Drawn) (os : OsState) (H S V : UInt64) (Q : Flow → Shared → Prop)
    (_ : (Mine.hd.heap_39 w.params).In g) (_ : Top vw lo mean mg mb g) (_ : 0 ≤ a) (_ : a < 96) (_ : 0 ≤ b) (_ : b < 9) (_ : 0 ≤ c) (_ : c < 9) (_ : SeenMore a b c H S V) (_ : oc.data = .cell v) (_ : c = 0)
    (_ : Fr g L h m) (_ : M5 TEXTS KEPT PAIRS COL SEEN WANTED st a b c d t1 t2 t3 t4 t5 t6 t7 m)
    (_ : News g L h ((WANTED, W.listOf #[.str (strI a) z1, .str (strI b) z2, .str (strI c) z3] 0) :: (SEEN, tupF H S V y1 y2 y3) :: (COL, tupF (partF a b c 0) (partF a b c 32) (partF a b c 64) x1 x2 x3) :: (IT, o) :: (24, tabObj ps) :: (L + 1, oc) :: (TEXTS, W.listOf tx n1) :: (KEPT, W.listOf kp n2) :: (PAIRS, W.listOf prs 0) :: (ALL, W.listOf all 0) :: rest))
    (_ : ∀ h' tk' m' oc' v' t1 t3 t4 t5 t6 t7 z1 z2 z3, M7 TEXTS KEPT PAIRS COL WANTED st a b c d t1 t3 t4 t5 t6 t7 m' → Fr g L h' m' → oc'.data = .cell v' →
      News g L h' ((WANTED, W.listOf #[.str (strI a) z1, .str (strI b) z2, .str (strI c) z3] 0) :: (COL, tupF (partF a b c 0) (partF a b c 32) (partF a b c 64) x1 x2 x3) :: (IT, o) :: (24, tabObj ps) :: (L + 1, oc') :: (TEXTS, W.listOf tx n1) :: (KEPT, W.listOf kp n2) :: (PAIRS, W.listOf prs 0) :: (ALL, W.listOf all 0) :: rest) →
      wpAny (model Challenge.rw_ny0082_01.row.prog w) (callerA.deeper (envOfC qual scope L fa cd)) (execs (mainBody body).tail.tail.tail.tail.tail.tail.tail (envOfC qual scope L fa cd)) Q (fun _ _ => False) ⟨h', gens, dr, tk', os⟩),
      wpAny (model Challenge.rw_ny0082_01.row.prog w) (callerA.deeper (envOfC qual scope L fa cd)) (execs (mainBody body).tail.tail.tail.tail.tail (envOfC qual scope L fa cd)) Q (fun _ _ => False) ⟨h, gens, dr, tk, os⟩ := by
  w_top off
  k_fill
  intro w
  refine' viaLaw ?k6 ?_
  case k6 => k_is
  intro mean mg mb fa cd g h L TEXTS KEPT PAIRS ALL COL SEEN WANTED IT o oc v prs all tx kp n1 n2 tk ps rest st a b c d t1 t2 t3 t4 t5 t6 t7 x1 x2 x3 y1 y2 y3 z1 z2 z3 m gens dr os H S V Q X T ha0 ha1 hb0 hb1 hc0 hc1 hsm hov hc F hm N next
  rw [← overlay_eq hm.all] at F
  dsimp only [mainBody, List.tail_cons, headS, forBody] at next ⊢
  dsimp only [overlay] at F
  clear hm
  have hv0 : (Float64.cmpInt V 0 == some Ordering.eq) = true := by rw [hsm.v0, hc]; rfl
  have hq := fmod_bd d 2 (by decide)
  have hl1 : (pairAt d).1.length ≤ 1000 := Nat.le_trans (pair_len d).1 (by decide)
  have hl2 : (pairAt d).2.length ≤ 10000 := Nat.le_trans (pair_len d).2 (by decide)
  have hl3 : (Txt.mul (Str.ofString "unknown") (d.fmod 2)).length ≤ 1000 := Nat.le_trans (mul_len _ _ (by omega) (by decide)) (by decide)
  have hl4 : (pairAt d).1.length ≤ 10000 := by omega
  have hl5 : (Txt.mul (Str.ofString "unknown") (d.fmod 2)).length ≤ 10000 := by omega
  clear hsm
  have htext : (pairAt d).1 ++ Txt.mul (Str.ofString "unknown") (d.fmod 2) ++ (pairAt d).2 = textOf (a, b, c, d) := by unfold textOf coreOf; rw [if_pos hc]
  refine wpAny_execs_cons ?_
  have hm9 : HaltMark := trivial
  k_steps
  unfold Halt
  refine wpAny_execs_cons ?_
  k_steps
  unfold Halt
  dsimp only
  refine wpAny_execs_cons ?_
  k_steps
  unfold Halt
  dsimp only
  rename Fr _ _ _ _ => FF
  rename News _ _ _ _ => NN
  rw [htext] at FF
  refine' next _ _ _ oc v t1 t3 t4 t5 t6 _ z1 z2 z3 ?m7 FF hov ?nn
  case m7 => exact ⟨all_cons (by first | exact Eq.refl (some _) | rfl | exact rfl) (all_cons (by first | exact Eq.refl (some _) | rfl | exact rfl) (all_cons (by first | exact Eq.refl (some _) | rfl | exact rfl) (all_cons (by first | exact Eq.refl (some _) | rfl | exact rfl) (all_cons (by first | exact Eq.refl (some _) | rfl | exact rfl) (all_cons (by first | exact Eq.refl (some _) | rfl | exact rfl) (all_cons (by first | exact Eq.refl (some _) | rfl | exact rfl) (all_cons (by first | exact Eq.refl (some _) | rfl | exact rfl) (all_cons (by first | exact Eq.refl (some _) | rfl | exact rfl) (all_cons (by first | exact Eq.refl (some _) | rfl | exact rfl) (all_cons (by first | exact Eq.refl (some _) | rfl | exact rfl) (all_cons (by first | exact Eq.refl (some _) | rfl | exact rfl) (List.forall_mem_nil _))))))))))))⟩
  case nn => exact newsOf NN (subC (by k_mem) (subC (by k_mem) (subC (by k_mem) (subC (by k_mem) (subC (by k_mem) (subC (by k_mem) (subC (by k_mem) (subC (by k_mem) (subC (by k_mem) ((fun q hq => by repeat (first | exact hq | refine List.Mem.tail _ ?_))))))))))))

set_option maxHeartbeats 8000000 in
theorem turnB : ∀ (w : World) (qual : Str) (body : List Stmt) (scope : Scope), LawAt w qual body scope → ∀ (mean : ExcName → Option Value) (mg mb : Str → Option Value) (fa : Addr) (cd : Value) (g h : Heap) (L TEXTS KEPT PAIRS ALL COL SEEN WANTED IT : Addr) (o oc : Obj) (v : Option Value) (prs all tx kp : Array Value) (n1 n2 tk : Nat) (ps : Array Value) (rest : List (Addr × Obj)) (st : St)
    (a b c d : Int) (t1 t2 t3 t4 t5 t6 t7 x1 x2 x3 y1 y2 y3 z1 z2 z3 : Tok) (m : Str → Option Value) (gens : Array GenState) (dr : Drawn) (os : OsState) (H S V : UInt64) (Q : Flow → Shared → Prop)
    (_ : (Mine.hd.heap_39 w.params).In g) (_ : Top vw lo mean mg mb g) (_ : 0 ≤ a) (_ : a < 96) (_ : 0 ≤ b) (_ : b < 9) (_ : 0 ≤ c) (_ : c < 9) (_ : SeenMore a b c H S V) (_ : oc.data = .cell v) (_ : c ≠ 0) (_ : b = 0)
    (_ : Fr g L h m) (_ : M5 TEXTS KEPT PAIRS COL SEEN WANTED st a b c d t1 t2 t3 t4 t5 t6 t7 m)
    (_ : News g L h ((WANTED, W.listOf #[.str (strI a) z1, .str (strI b) z2, .str (strI c) z3] 0) :: (SEEN, tupF H S V y1 y2 y3) :: (COL, tupF (partF a b c 0) (partF a b c 32) (partF a b c 64) x1 x2 x3) :: (IT, o) :: (24, tabObj ps) :: (L + 1, oc) :: (TEXTS, W.listOf tx n1) :: (KEPT, W.listOf kp n2) :: (PAIRS, W.listOf prs 0) :: (ALL, W.listOf all 0) :: rest))
    (_ : ∀ h' tk' m' oc' v' t1 t3 t4 t5 t6 t7 z1 z2 z3, M7 TEXTS KEPT PAIRS COL WANTED st a b c d t1 t3 t4 t5 t6 t7 m' → Fr g L h' m' → oc'.data = .cell v' →
      News g L h' ((WANTED, W.listOf #[.str (strI a) z1, .str (strI b) z2, .str (strI c) z3] 0) :: (COL, tupF (partF a b c 0) (partF a b c 32) (partF a b c 64) x1 x2 x3) :: (IT, o) :: (24, tabObj ps) :: (L + 1, oc') :: (TEXTS, W.listOf tx n1) :: (KEPT, W.listOf kp n2) :: (PAIRS, W.listOf prs 0) :: (ALL, W.listOf all 0) :: rest) →
      wpAny (model Challenge.rw_ny0082_01.row.prog w) (callerA.deeper (envOfC qual scope L fa cd)) (execs (mainBody body).tail.tail.tail.tail.tail.tail.tail (envOfC qual scope L fa cd)) Q (fun _ _ => False) ⟨h', gens, dr, tk', os⟩),
      wpAny (model Challenge.rw_ny0082_01.row.prog w) (callerA.deeper (envOfC qual scope L fa cd)) (execs (mainBody body).tail.tail.tail.tail.tail (envOfC qual scope L fa cd)) Q (fun _ _ => False) ⟨h, gens, dr, tk, os⟩ := by
  w_top off
  k_fill
  intro w
  refine' viaLaw ?k6 ?_
  case k6 => k_is
  intro mean mg mb fa cd g h L TEXTS KEPT PAIRS ALL COL SEEN WANTED IT o oc v prs all tx kp n1 n2 tk ps rest st a b c d t1 t2 t3 t4 t5 t6 t7 x1 x2 x3 y1 y2 y3 z1 z2 z3 m gens dr os H S V Q X T ha0 ha1 hb0 hb1 hc0 hc1 hsm hov hc hb F hm N next
  rw [← overlay_eq hm.all] at F
  dsimp only [mainBody, List.tail_cons, headS, forBody] at next ⊢
  dsimp only [overlay] at F
  clear hm
  have hv0 : (Float64.cmpInt V 0 == some Ordering.eq) = false := by rw [hsm.v0]; exact decide_eq_false hc
  have hs0 : (Float64.cmpInt S 0 == some Ordering.eq) = true := by rw [hsm.s0 hc, hb]; rfl
  have hvf := hsm.vf hc
  have hv8 := hsm.v8 hc
  have hc100 : c < 100 := by omega
  have hq := fmod_bd d 3 (by decide)
  have hl1 : (pairAt d).1.length ≤ 10000 := Nat.le_trans (pair_len d).1 (by decide)
  have hl2 : (pairAt d).2.length ≤ 10000 := Nat.le_trans (pair_len d).2 (by decide)
  clear hsm
  have htext : (pairAt d).1 ++ (Str.ofString "unknown" ++ Txt.mul (Str.ofString " ") (1 + d.fmod 3) ++ strI c) ++ (pairAt d).2 = textOf (a, b, c, d) := by unfold textOf coreOf; rw [if_neg hc, if_pos hb]
  have hk1 : (Txt.mul (Str.ofString " ") (1 + d.fmod 3)).length ≤ 1000 := Nat.le_trans (mul_len _ _ (by omega) (by decide)) (by decide)
  have hk2 : (Txt.mul (Str.ofString " ") (1 + d.fmod 3)).length ≤ 10000 := by omega
  have hk3 : (Str.ofString "unknown" ++ Txt.mul (Str.ofString " ") (1 + d.fmod 3)).length ≤ 10000 := len2 (by decide) hk1
  have hk4 : (strI c).length ≤ 10000 := Nat.le_trans (strI_len hc0 hc100) (by decide)
  have hk5 : (Str.ofString "unknown" ++ Txt.mul (Str.ofString " ") (1 + d.fmod 3) ++ strI c).length ≤ 10000 := by
    rw [Str.length_append, Str.length_append]
    have h1 := strI_len hc0 hc100
    have h2 : (Str.ofString "unknown").length = 7 := by decide
    omega
  have hk6 : ((pairAt d).1 ++ (Str.ofString "unknown" ++ Txt.mul (Str.ofString " ") (1 + d.fmod 3) ++ strI c)).length ≤ 10000 := by
    rw [Str.length_append, Str.length_append, Str.length_append]
    have h1 := strI_len hc0 hc100
    have h2 : (Str.ofString "unknown").length = 7 := by decide
    have h3 := (pair_len d).1
    omega
  refine wpAny_execs_cons ?_
  have hm9 : HaltMark := trivial
  k_steps
  unfold Halt
  refine wpAny_execs_cons ?_
  k_steps
  unfold Halt
  refine wpAny_execs_cons ?_
  k_steps
  unfold Halt
  dsimp only
  refine wpAny_execs_cons ?_
  k_steps
  unfold Halt
  dsimp only
  rename Fr _ _ _ _ => FF
  rename News _ _ _ _ => NN
  rw [htext] at FF
  refine' next _ _ _ oc v t1 t3 t4 t5 t6 _ z1 z2 z3 ?m7 FF hov ?nn
  case m7 => exact ⟨all_cons (by first | exact Eq.refl (some _) | rfl | exact rfl) (all_cons (by first | exact Eq.refl (some _) | rfl | exact rfl) (all_cons (by first | exact Eq.refl (some _) | rfl | exact rfl) (all_cons (by first | exact Eq.refl (some _) | rfl | exact rfl) (all_cons (by first | exact Eq.refl (some _) | rfl | exact rfl) (all_cons (by first | exact Eq.refl (some _) | rfl | exact rfl) (all_cons (by first | exact Eq.refl (some _) | rfl | exact rfl) (all_cons (by first | exact Eq.refl (some _) | rfl | exact rfl) (all_cons (by first | exact Eq.refl (some _) | rfl | exact rfl) (all_cons (by first | exact Eq.refl (some _) | rfl | exact rfl) (all_cons (by first | exact Eq.refl (some _) | rfl | exact rfl) (all_cons (by first | exact Eq.refl (some _) | rfl | exact rfl) (List.forall_mem_nil _))))))))))))⟩
  case nn => exact newsOf NN (subC (by k_mem) (subC (by k_mem) (subC (by k_mem) (subC (by k_mem) (subC (by k_mem) (subC (by k_mem) (subC (by k_mem) (subC (by k_mem) (subC (by k_mem) ((fun q hq => by repeat (first | exact hq | refine List.Mem.tail _ ?_))))))))))))

theorem item_S {prog : Program} {w : World} {A : Around} {E : Value → Shared → Prop} {s : Shared} {g : Heap} {L : Addr} {news : List (Addr × Obj)} {Q : Value → Shared → Prop} {value slice : Expr} {l : Addr} {vs : List Value} {n : Nat} {k : Int} {u : Tok} {v : Value}
    (N : News g L s.heap news) (hl : (l, W.listOf vs.toArray n) ∈ news) (h0 : 0 ≤ k) (h1 : k < 2 ^ 63) (hx : vs[k.toNat]? = some v) (h : Q v s)
    (hs : subscripted slice false (.ref l) (.int k u) = operate [.ref l, .int k u] (getItem (.ref l) (.int k u)) := by with_unfolding_all rfl) :
    wpAny (model prog w) A (subscriptTail value slice (.ref l) (.int k u)) Q E s := by
  have hl' : s.heap.IsList l vs.toArray := ⟨_, (N _ hl).1, rfl, _, rfl⟩
  exact tail_any hl'.typeIs slot_list_getitem.lookup (wpAny_getItem_list hl' h0 h1 (by simpa using hx) h) hs
local macro_rules | `(tactic| k_ne) => return neT true true
local macro_rules | `(tactic| k_all) => allM true
local macro_rules | `(tactic| walk_at "call ref") => do return seqT [t_H, showT (reE 57 "rri"), ← ruleM `Mine.straight_L "kkaarrmmCCQ!" [] t_l] (introT 4)
theorem joinE_K {prog : Program} {w : World} {A : Around} {E : Value → Shared → Prop} {s : Shared} {g : Heap} {L : Addr} {news : List (Addr × Obj)} {Q : Value → Shared → Prop} {x : Str} {t : Tok} {D : Addr} {vs : List Value} {n : Nat} {ys : List Str}
    (N : News g L s.heap news) (hD : (D, W.listOf vs.toArray n) ∈ news) (hacc : StrsAre vs ys) (hy : ys.length ≤ 4) (hlen : ∀ y ∈ ys, y.length ≤ 1000) (hsep : x.length ≤ 16)
    (h : ∀ t' k', Q (.str (Txt.join x ys) t') { s with toks := k' }) : wpAny (model prog w) A (call (.builtin "str.join") [.str x t, .ref D]) Q E s := by
  refine join_listW (s := s) (items := vs.toArray) ⟨_, (N _ hD).1, rfl, n, rfl⟩ (ys := ys) (by simpa using hacc) hsep ?_ h
  have h1 := sum_le (ys := ys) (B := 1000) hlen
  have h3 : ys.length * 1000 ≤ 4 * 1000 := Nat.mul_le_mul_right _ hy
  omega
local macro_rules | `(tactic| walk_at "call builtin:str.join") => lineM ' ' (biE "str.join" "sr") `Mine.joinE_K "kmCeae!" 2 false []
local macro_rules | `(tactic| walk_at "call ref") => lineM ' ' (reE 22 "s") `Mine.norm1_L "kkaarra!" 5 false []
local macro_rules | `(tactic| walk_at "subscriptTail Name Name ref int") => lineM 'u' (e_sub e_un) `Mine.item_S "kmeeX!U" 0 true []
theorem strs_app {vs us : List Value} {ys zs : List Str} (h : StrsAre vs ys) (k : StrsAre us zs) : StrsAre (vs ++ us) (ys ++ zs) := by
  induction h with
  | nil => exact k
  | cons y t _ ih => exact .cons y t ih
theorem strs_drop {vs : List Value} {ys : List Str} (h : StrsAre vs ys) (n : Nat) : StrsAre (vs.drop n) (ys.drop n) := by
  induction h generalizing n with
  | nil => simpa using StrsAre.nil
  | cons y t h ih => cases n with
    | zero => exact .cons y t h
    | succ n => simpa using ih n
section
variable {prog : Program} {w : World} {A : Around} {E : Value → Shared → Prop} {s : Shared} {g : Heap} {L : Addr} {m : Str → Option Value} {news : List (Addr × Obj)} {Q : Value → Shared → Prop}
/-- a slice, its pick known -/
theorem sliceQ {value slice : Expr} {l : Addr} {vs ps : List Value} {n : Nat} {vl vu : Value} {lo hi : Option Int} (F : Fr g L s.heap m) (N : News g L s.heap news) (hl : (l, W.listOf vs.toArray n) ∈ news) (pl : IsPart vl lo) (pu : IsPart vu hi)
    (hp : slicePick vs.toArray lo hi none = ps.toArray) (hz : vs.length ≤ 4) (h : ∀ D h', Fr g L h' m → News g L h' ((D, W.listOf ps.toArray 0) :: news) → Q (.ref D) { s with heap := h' })
    (hs : subscripted slice false (.ref l) (.ref s.heap.objs.size) = operate [.ref s.heap.objs.size, .ref l] (getItem (.ref l) (.ref s.heap.objs.size))) (ht : ∀ r, letTemporaryGo value (.ref l) r = pure ()) :
    wpAny (model prog w) A (subscriptTail value slice (.ref l) (.ref s.heap.objs.size)) Q E { s with heap := s.heap.push { cls := .type "slice", data := .fields #[vl, vu, .none] } } :=
  slice_list F N ⟨_, (N _ hl).1, rfl, n, rfl⟩ pl pu (fun h' F' N' => h _ h' F' (by rw [hp] at N'; exact N')) hs ht (Nat.le_trans (by simpa using hz) (by size_fits))
theorem addQ {l b : Addr} {us vs : List Value} {n1 n2 : Nat} (F : Fr g L s.heap m) (N : News g L s.heap news) (h1 : (l, W.listOf us.toArray n1) ∈ news) (h2 : (b, W.listOf vs.toArray n2) ∈ news) (hz : us.length + vs.length ≤ 100000)
    (h : ∀ D h', Fr g L h' m → News g L h' ((D, W.listOf (us ++ vs).toArray 0) :: news) → Q (.ref D) { s with heap := h' }) : wpAny (model prog w) A (binaryOp .Add (.ref l) (.ref b)) Q E s :=
  add_K F N h1 h2 (by simpa using hz) fun D h' F' N' _ => h D h' F' N'
end
local macro_rules | `(tactic| walk_at "subscriptTail Name Slice ref ref") => lineM 'u' e_subR `Mine.sliceQ "kkmPPaa!UE" 2 true []
local macro_rules | `(tactic| walk_at "binaryOp Add ref ref") => lineM ' ' e_addR `Mine.addQ "kkmm9!" 4 true []
/-- what the row of spelled numbers gives at the place k -/
theorem spelled_cut {vs : List Value} {s0 s1 s2 s3 : Str} (h : StrsAre vs [s0, s1, s2, s3]) {k : Int} (hk : k = 0 ∨ k = 1 ∨ k = 2 ∨ k = 3) :
    ∃ y t, slicePick vs.toArray none (some k) none = (vs.take k.toNat).toArray ∧ slicePick vs.toArray (some (k + 1)) none none = (vs.drop (k.toNat + 1)).toArray ∧ vs[k.toNat]? = some (.str y t) ∧ [s0, s1, s2, s3].getD k.toNat Str.empty = y ∧ y ∈ [s0, s1, s2, s3] := by
  rcases h with _ | ⟨_, _, _ | ⟨_, _, _ | ⟨_, _, _ | ⟨_, _, _ | _⟩⟩⟩⟩
  rcases hk with rfl | rfl | rfl | rfl <;> exact ⟨_, _, rfl, by with_unfolding_all rfl, rfl, rfl, by simp⟩
theorem pick3 {vs : List Value} {ys : List Str} (h : StrsAre vs ys) (hl : ys.length = 4) : slicePick vs.toArray none (some 3) none = (vs.take 3).toArray := by
  rcases h with _ | ⟨_, _, _ | ⟨_, _, _ | ⟨_, _, _ | ⟨_, _, _ | ⟨_, _, h⟩⟩⟩⟩⟩ <;> first | rfl | (simp at hl)
/-- what stands behind `spoilt` -/
noncomputable def SpoPost (g : Heap) (L : Addr) (sp : List Str) (news : List (Addr × Obj)) (m1 : Str → Option Value) (gens : Array GenState) (dr : Drawn) (os : OsState) (f : Flow) (s' : Shared) : Prop :=
  ∃ SPO zs n h tk, f = .next ∧ s' = ⟨h, gens, dr, tk, os⟩ ∧ StrsAre zs sp ∧ Fr g L h (fun y => if y = Str.ofString "spoilt" then some (.ref SPO) else m1 y) ∧ News g L h ((SPO, W.listOf zs.toArray n) :: news)
theorem spo_cut {M : Model} {A : Around} {E : Value → Shared → Prop} {t : Sem Flow} {Q : Flow → Shared → Prop} {s : Shared} {g : Heap} {L : Addr} (sp : List Str) (news : List (Addr × Obj)) {m1 : Str → Option Value} {gens : Array GenState} {dr : Drawn} {os : OsState}
    (_F : Fr g L s.heap m1) (cut : wpAny M A t (SpoPost g L sp news m1 gens dr os) E s) (cont : ∀ f s', SpoPost g L sp news m1 gens dr os f s' → Q f s') : wpAny M A t Q E s := wpAny_mono cut cont fun _ _ e => e
set_option maxHeartbeats 8000000 in
theorem turnC2 : ∀ (w : World) (qual : Str) (body : List Stmt) (scope : Scope), LawAt w qual body scope → ∀ (mean : ExcName → Option Value) (mg mb : Str → Option Value) (fa : Addr) (cd : Value) (g h : Heap) (L SPELLED WANTED : Addr) (tl : List (Addr × Obj)) (n1 tk : Nat)
    (a b c d : Int) (t2 k1 k2 k3 k4 z1 z2 z3 : Tok) (m : Str → Option Value) (gens : Array GenState) (dr : Drawn) (os : OsState) (Q : Flow → Shared → Prop)
    (_ : (Mine.hd.heap_39 w.params).In g) (_ : Top vw lo mean mg mb g) (_ : 0 ≤ a) (_ : a < 96) (_ : ColourOk a b c d)
    (_ : Fr g L h m) (_ : ∀ p ∈ [(Str.ofString "where", Value.int a t2), (Str.ofString "wanted", Value.ref WANTED), (Str.ofString "spelled", Value.ref SPELLED)], m p.1 = some p.2)
    (_ : News g L h ((SPELLED, W.listOf #[.str (aheadOf d ++ strI a) k1, .str (aheadOf d ++ strI b) k2, .str (aheadOf d ++ strI c) k3, .str (aheadOf d ++ strI 99) k4] n1) :: (WANTED, W.listOf #[.str (strI a) z1, .str (strI b) z2, .str (strI c) z3] 0) :: tl))
    (_ : ∀ h' tk' SPO t u, Fr g L h' (fun y => if y = Str.ofString "text" then some (.str (Txt.join (Str.ofString ".") [strI a, strI b, strI c]) t) else if y = Str.ofString "spoilt" then some (.ref SPO) else if y = Str.ofString "at" then some (.int (a.fmod 4) u) else m y) →
      News g L h' ((SPELLED, W.listOf #[.str (aheadOf d ++ strI a) k1, .str (aheadOf d ++ strI b) k2, .str (aheadOf d ++ strI c) k3, .str (aheadOf d ++ strI 99) k4] n1) :: (WANTED, W.listOf #[.str (strI a) z1, .str (strI b) z2, .str (strI c) z3] 0) :: tl) → Q .next ⟨h', gens, dr, tk', os⟩),
      wpAny (model Challenge.rw_ny0082_01.row.prog w) (callerA.deeper (envOfC qual scope L fa cd)) (execs (innerBody body) (envOfC qual scope L fa cd)) Q (fun _ _ => False) ⟨h, gens, dr, tk, os⟩ := by
  w_top off
  k_fill
  intro w
  refine' viaLaw ?k6 ?_
  case k6 => k_is
  intro mean mg mb fa cd g h L SPELLED WANTED tl n1 tk a b c d t2 k1 k2 k3 k4 z1 z2 z3 m gens dr os Q X T ha0 ha1 hco F hm N next
  rw [← overlay_eq hm] at F next
  dsimp only [innerBody, mainBody, List.tail_cons, headS, forBody, elseBody]
  dsimp only [overlay] at F next
  clear hm
  have hsp : StrsAre [.str (aheadOf d ++ strI a) k1, .str (aheadOf d ++ strI b) k2, .str (aheadOf d ++ strI c) k3, .str (aheadOf d ++ strI 99) k4] (spelledOf a b c d) := by unfold spelledOf; repeat' constructor
  have hwa : StrsAre [.str (strI a) z1, .str (strI b) z2, .str (strI c) z3] [strI a, strI b, strI c] := by repeat' constructor
  generalize hvs : [Value.str (aheadOf d ++ strI a) k1, .str (aheadOf d ++ strI b) k2, .str (aheadOf d ++ strI c) k3, .str (aheadOf d ++ strI 99) k4] = vs at *
  generalize hws : [Value.str (strI a) z1, .str (strI b) z2, .str (strI c) z3] = ws at *
  have hvl : vs.length ≤ 4 := by rw [← hvs]; exact Nat.le_refl _
  clear hvs hws
  have hb4 := fmod_bd a 4 (by decide)
  have hk0 : 0 ≤ a.fmod 4 := hb4.1
  have hk1 : a.fmod 4 < 2 ^ 63 := Int.lt_trans hb4.2 (by decide)
  obtain ⟨y, yt, hA, hC, hg, hy, hym⟩ := spelled_cut (k := a.fmod 4) hsp (int4 hb4)
  have hs1 := hco.s1
  have hsl4 : (spelledOf a b c d).length ≤ 4 := Nat.le_refl 4
  have hs3 : ∀ y ∈ spelledOf a b c d, y.length ≤ 1000 := hco.s1.bp
  have hyl : y.length ≤ 10000 := Nat.le_trans (hs3 _ hym) (by decide)
  have hAs := strs_take hsp (a.fmod 4).toNat
  have hCs := strs_drop hsp ((a.fmod 4).toNat + 1)
  have hAl : (vs.take (a.fmod 4).toNat).length ≤ 4 := by rw [List.length_take]; omega
  have hCl : (vs.drop ((a.fmod 4).toNat + 1)).length ≤ 4 := by rw [List.length_drop]; omega
  have hspo : ∀ z, spoiltAt (spelledOf a b c d) (a.fmod 4).toNat z = (spelledOf a b c d).take (a.fmod 4).toNat ++ [z] ++ (spelledOf a b c d).drop ((a.fmod 4).toNat + 1) := fun _ => rfl
  generalize vs.take (a.fmod 4).toNat = as at *
  generalize vs.drop ((a.fmod 4).toNat + 1) = cs at *
  refine wpAny_execs_cons ?_
  have hm9 : HaltMark := trivial
  k_steps
  unfold Halt
  dsimp only
  rename Fr _ _ _ _ => F1
  rename News _ _ _ _ => N1
  refine wpAny_execs_cons ?_
  refine spo_cut (spoiltOf a b c d) ((SPELLED, W.listOf vs.toArray n1) :: (WANTED, W.listOf ws.toArray 0) :: tl) (gens := gens) (dr := dr) (os := os) F1 ?cut ?cont
  case cut =>
    k_steps
    all_goals
      rename Fr _ _ _ _ => FF
      rename News _ _ _ _ => NN
      refine ⟨_, _, _, _, _, rfl, rfl, ?_, FF, newsOf NN (subC (by k_mem) (subC (by k_mem) (subC (by k_mem) (fun q hq => by repeat (first | exact hq | refine List.Mem.tail _ ?_)))))⟩
      unfold spoiltOf
      rw [hspo, show (spelledOf a b c d).getD (a.fmod 4).toNat Str.empty = y from hy]
      first | rw [if_pos (by assumption)] | rw [if_neg (by assumption)]
      exact strs_app (strs_app hAs (.cons _ _ .nil)) hCs
  case cont =>
    rintro f s' ⟨SPO, zs, n, h', tk', rfl, rfl, hzs, F2, N2⟩
    have hsl : (spoiltOf a b c d).length = 4 := by
      unfold spoiltOf spoiltAt
      simp only [List.length_append, List.length_take, List.length_drop, List.length_cons, List.length_nil, spelledOf]
      omega
    have hp3 := pick3 hzs hsl
    have hz3 := strs_take hzs 3
    have hzl : zs.length ≤ 4 := by rw [StrsAre.length hzs, hsl]; exact Nat.le_refl _
    generalize zs.take 3 = z3 at *
    have hs2 := hco.s2
    have hn := hco.n
    generalize spoiltOf a b c d = spo at *
    dsimp only
    clear F1 N1
    refine wpAny_execs_cons ?_
    k_steps
    unfold Halt
    (try dsimp only)
    refine wpAny_execs_cons ?_
    k_steps
    rename News _ _ _ _ => NN
    rename Fr _ _ _ _ => FF
    exact next _ _ _ _ _ FF (newsOf NN (subC (by k_mem) (subC (by k_mem) (fun q hq => by repeat (first | exact hq | refine List.Mem.tail _ ?_)))))

theorem ahead_len (d : Int) : (aheadOf d).length ≤ 2 := by
  have hb := fmod_bd d 4 (by decide)
  unfold aheadOf
  have : (d.fmod 4).toNat < 4 := by omega
  generalize (d.fmod 4).toNat = k at this
  have hk : k = 0 ∨ k = 1 ∨ k = 2 ∨ k = 3 := nat4 this
  rcases hk with rfl | rfl | rfl | rfl <;> decide
theorem join_str (z : Str) (l : List Str) : Txt.join z l = Str.join z l := by unfold Txt.join; exact StrLaws.glued_eq_join ..
theorem join3_eq (z x1 x2 x3 : Str) : Txt.join z [x1, x2, x3] = x1 ++ z ++ (x2 ++ z ++ x3) := by rw [join_str]; rfl
local macro_rules | `(tactic| walk_at "CompEnd") => ruleM `LCg.CompEnd.intro "aa_hVm!" [3, 0, 1, 4, 5] t_l
local macro_rules | `(tactic| walk_at "exec Assign cons ListComp") => return haltT
set_option maxHeartbeats 8000000 in
theorem turnC : ∀ (w : World) (qual : Str) (body : List Stmt) (scope : Scope), LawAt w qual body scope → ∀ (mean : ExcName → Option Value) (mg mb : Str → Option Value) (fa : Addr) (cd : Value) (g h : Heap) (L TEXTS KEPT PAIRS ALL COL SEEN WANTED IT : Addr) (o oc : Obj) (v : Option Value) (prs all tx kp : Array Value) (n1 n2 tk : Nat) (ps : Array Value) (rest : List (Addr × Obj)) (st : St)
    (a b c d : Int) (t1 t2 t3 t4 t5 t6 t7 x1 x2 x3 y1 y2 y3 z1 z2 z3 : Tok) (m : Str → Option Value) (gens : Array GenState) (dr : Drawn) (os : OsState) (H S V : UInt64) (Q : Flow → Shared → Prop)
    (_ : (Mine.hd.heap_39 w.params).In g) (_ : Top vw lo mean mg mb g) (_ : 0 ≤ a) (_ : a < 96) (_ : 0 ≤ b) (_ : b < 9) (_ : 0 ≤ c) (_ : c < 9) (_ : SeenMore a b c H S V) (_ : ColourOk a b c d) (_ : oc.data = .cell v) (_ : c ≠ 0) (_ : b ≠ 0) (_ : ∀ v, o.data ≠ .cell v) (_ : ∀ q ∈ rest, q.1 ≠ L + 1)
    (_ : Fr g L h m) (_ : M5 TEXTS KEPT PAIRS COL SEEN WANTED st a b c d t1 t2 t3 t4 t5 t6 t7 m)
    (_ : News g L h ((WANTED, W.listOf #[.str (strI a) z1, .str (strI b) z2, .str (strI c) z3] 0) :: (SEEN, tupF H S V y1 y2 y3) :: (COL, tupF (partF a b c 0) (partF a b c 32) (partF a b c 64) x1 x2 x3) :: (IT, o) :: (24, tabObj ps) :: (L + 1, oc) :: (TEXTS, W.listOf tx n1) :: (KEPT, W.listOf kp n2) :: (PAIRS, W.listOf prs 0) :: (ALL, W.listOf all 0) :: rest))
    (_ : ∀ h' tk' m' oc' v' t1 t3 t4 t5 t6 t7 z1 z2 z3, M7 TEXTS KEPT PAIRS COL WANTED st a b c d t1 t3 t4 t5 t6 t7 m' → Fr g L h' m' → oc'.data = .cell v' →
      News g L h' ((WANTED, W.listOf #[.str (strI a) z1, .str (strI b) z2, .str (strI c) z3] 0) :: (COL, tupF (partF a b c 0) (partF a b c 32) (partF a b c 64) x1 x2 x3) :: (IT, o) :: (24, tabObj ps) :: (L + 1, oc') :: (TEXTS, W.listOf tx n1) :: (KEPT, W.listOf kp n2) :: (PAIRS, W.listOf prs 0) :: (ALL, W.listOf all 0) :: rest) →
      wpAny (model Challenge.rw_ny0082_01.row.prog w) (callerA.deeper (envOfC qual scope L fa cd)) (execs (mainBody body).tail.tail.tail.tail.tail.tail.tail (envOfC qual scope L fa cd)) Q (fun _ _ => False) ⟨h', gens, dr, tk', os⟩),
      wpAny (model Challenge.rw_ny0082_01.row.prog w) (callerA.deeper (envOfC qual scope L fa cd)) (execs (mainBody body).tail.tail.tail.tail.tail (envOfC qual scope L fa cd)) Q (fun _ _ => False) ⟨h, gens, dr, tk, os⟩ := by
  w_top off
  k_fill
  intro w qual body scope hl
  have h2 := hl
  revert h2
  revert hl; revert scope; revert body; revert qual
  refine' viaLaw ?k6 ?_
  case k6 => k_is
  intro hl
  intro mean mg mb fa cd g h L TEXTS KEPT PAIRS ALL COL SEEN WANTED IT o oc v prs all tx kp n1 n2 tk ps rest st a b c d t1 t2 t3 t4 t5 t6 t7 x1 x2 x3 y1 y2 y3 z1 z2 z3 m gens dr os H S V Q X T ha0 ha1 hb0 hb1 hc0 hc1 hsm hco hov hc hb hit hrL F hm N next
  rw [← overlay_eq hm.all] at F
  dsimp only [mainBody, List.tail_cons, headS, forBody] at next ⊢
  dsimp only [overlay] at F
  clear hm
  have hv0 : (Float64.cmpInt V 0 == some Ordering.eq) = false := by rw [hsm.v0]; exact decide_eq_false hc
  have hs0 : (Float64.cmpInt S 0 == some Ordering.eq) = false := by rw [hsm.s0 hc]; exact decide_eq_false hb
  have hvf := hsm.vf hc
  have hv8 := hsm.v8 hc
  have hsf := hsm.sf hc hb
  have hs8 := hsm.s8 hc hb
  have hhf := hsm.hf hc hb
  have hh96 := hsm.h96 hc hb
  have ha100 : a < 100 := by omega
  have hb100 : b < 100 := by omega
  have hc100 : c < 100 := by omega
  have hl1 : (pairAt d).1.length ≤ 10000 := Nat.le_trans (pair_len d).1 (by decide)
  have hl2 : (pairAt d).2.length ≤ 10000 := Nat.le_trans (pair_len d).2 (by decide)
  have hla2 : (aheadOf d).length ≤ 1000 := Nat.le_trans (ahead_len d) (by decide)
  have hla : (aheadOf d).length ≤ 10000 := Nat.le_trans (ahead_len d) (by decide)
  have htext : (pairAt d).1 ++ Txt.join (Str.ofString ".") [strI a, strI b, strI c] ++ (pairAt d).2 = textOf (a, b, c, d) := by unfold textOf coreOf; rw [if_neg hc, if_neg hb]
  have hk4 : (strI a).length ≤ 10000 := Nat.le_trans (strI_len ha0 ha100) (by decide)
  have hk5 : (strI b).length ≤ 10000 := Nat.le_trans (strI_len hb0 hb100) (by decide)
  have hk6 : (strI c).length ≤ 10000 := Nat.le_trans (strI_len hc0 hc100) (by decide)
  have hk7 : (strI 99).length ≤ 10000 := by decide
  have hj : (Txt.join (Str.ofString ".") [strI a, strI b, strI c]).length ≤ 8 := by
    rw [join3_eq]
    simp only [Str.length_append]
    have h1 := strI_len ha0 ha100
    have h2 := strI_len hb0 hb100
    have h3 := strI_len hc0 hc100
    have h4 : (Str.ofString ".").length = 1 := by decide
    omega
  have hj1 : (Txt.join (Str.ofString ".") [strI a, strI b, strI c]).length ≤ 10000 := by omega
  have hj2 : ((pairAt d).1 ++ Txt.join (Str.ofString ".") [strI a, strI b, strI c]).length ≤ 10000 := by
    rw [Str.length_append]
    have h3 := (pair_len d).1
    omega
  clear hsm
  have key : ∀ D o', (D, o') ∈ ((WANTED, W.listOf #[.str (strI a) z1, .str (strI b) z2, .str (strI c) z3] 0) :: (SEEN, tupF H S V y1 y2 y3) :: (COL, tupF (partF a b c 0) (partF a b c 32) (partF a b c 64) x1 x2 x3) :: (IT, o) :: (24, tabObj ps) :: (L + 1, oc) :: (TEXTS, W.listOf tx n1) :: (KEPT, W.listOf kp n2) :: (PAIRS, W.listOf prs 0) :: (ALL, W.listOf all 0) :: rest : List (Addr × Obj)) → (∀ v, o'.data ≠ .cell v) → D ≠ L + 1 := fun D o' hm hd e => by
    have z1 := (N _ hm).1
    have z2 := (N (L + 1, oc) (.tail _ (.tail _ (.tail _ (.tail _ (.tail _ (.head _))))))).1
    dsimp only at z1 z2
    rw [e, z2] at z1
    exact hd v (by rw [← Option.some.inj z1]; exact hov)
  have c1 : WANTED ≠ L + 1 := key _ _ (by k_mem) (fun v e => by cases e)
  have c2 : SEEN ≠ L + 1 := key _ _ (by k_mem) (fun v e => by cases e)
  have c3 : COL ≠ L + 1 := key _ _ (by k_mem) (fun v e => by cases e)
  have c4 : IT ≠ L + 1 := key _ _ (by k_mem) hit
  have c5 : (24 : Addr) ≠ L + 1 := key _ _ (by k_mem) (fun v e => by cases e)
  have c6 : TEXTS ≠ L + 1 := key _ _ (by k_mem) (fun v e => by cases e)
  have c7 : KEPT ≠ L + 1 := key _ _ (by k_mem) (fun v e => by cases e)
  have c8 : PAIRS ≠ L + 1 := key _ _ (by k_mem) (fun v e => by cases e)
  have c9 : ALL ≠ L + 1 := key _ _ (by k_mem) (fun v e => by cases e)
  clear key
  refine wpAny_execs_cons ?_
  have hm9 : HaltMark := trivial
  k_steps
  unfold Halt
  refine wpAny_execs_cons ?_
  k_steps
  unfold Halt
  refine wpAny_execs_cons ?_
  k_steps
  unfold Halt
  dsimp only
  refine wpAny_execs_cons ?_
  k_steps
  unfold Halt
  rename Fr _ _ _ _ => FF0
  refine comp_tuple FF0 rfl (by with_unfolding_all rfl) (by with_unfolding_all rfl) (by decide) (by rfl) (by decide) (by rfl) (by rfl) (by rfl) ?_ (by intro _; rfl)
  k_steps
  rename Fr _ _ _ _ => FF
  rename News _ _ _ _ => NN
  refine ⟨_, _, _, rfl, rfl, FF, NN, .head _, (show 4 ≤ 1000 by decide), ?_⟩
  clear FF NN
  intro g9
  show LCg.CompRest _ _ _ _ _ _ _ _ _ _ _ _ _ _ _ 4 0 [] _
  k_steps
  unfold Halt
  rename Fr _ _ _ _ => FF
  rename News _ _ _ _ => NN
  have C2 := turnC2 w _ _ _ hl
  dsimp only [innerBody, mainBody, List.tail_cons, headS, forBody, elseBody] at C2
  refine' C2 mean mg mb fa cd g _ L _ WANTED _ _ _ a b c d _ _ _ _ _ _ _ _ _ gens dr os _ X T ha0 ha1 hco FF ?hm (newsOf NN (subC (by k_mem) (subC (by k_mem) (fun q hq => hq)))) ?_
  case hm => exact all_cons (by first | exact Eq.refl (some _) | rfl | exact rfl) (all_cons (by first | exact Eq.refl (some _) | rfl | exact rfl) (all_cons (by first | exact Eq.refl (some _) | rfl | exact rfl) (List.forall_mem_nil _)))
  clear C2 FF NN
  intro h7 tk7 SPO tt uu F7 N7
  dsimp only
  k_steps
  unfold Halt
  (try dsimp only)
  refine wpAny_execs_cons ?_
  k_steps
  unfold Halt
  (try dsimp only)
  rename Fr _ _ _ _ => FF
  rename News _ _ _ _ => NN
  rw [htext] at FF
  refine' next _ _ _ _ _ t1 t3 t4 t5 t6 _ z1 z2 z3 ?m7 FF ?dc ?nn
  case m7 => exact ⟨all_cons (by first | exact Eq.refl (some _) | rfl | exact rfl) (all_cons (by first | exact Eq.refl (some _) | rfl | exact rfl) (all_cons (by first | exact Eq.refl (some _) | rfl | exact rfl) (all_cons (by first | exact Eq.refl (some _) | rfl | exact rfl) (all_cons (by first | exact Eq.refl (some _) | rfl | exact rfl) (all_cons (by first | exact Eq.refl (some _) | rfl | exact rfl) (all_cons (by first | exact Eq.refl (some _) | rfl | exact rfl) (all_cons (by first | exact Eq.refl (some _) | rfl | exact rfl) (all_cons (by first | exact Eq.refl (some _) | rfl | exact rfl) (all_cons (by first | exact Eq.refl (some _) | rfl | exact rfl) (all_cons (by first | exact Eq.refl (some _) | rfl | exact rfl) (all_cons (by first | exact Eq.refl (some _) | rfl | exact rfl) (List.forall_mem_nil _))))))))))))⟩
  case nn => exact newsOf NN (subC (by k_mem) (subC (by k_mem) (subC (by k_mem) (subC (by k_mem) (subC (by k_mem) (subC (by k_mem) (subC (by k_mem) (subC (by k_mem) (subC (by k_mem) ((fun q hq => by repeat (first | exact hq | refine List.Mem.tail _ ?_))))))))))))
  case dc => assumption

/-- what the frame holds behind statement 8 -/
structure M8 (TEXTS KEPT PAIRS : Addr) (st : St) (q : Quad) (t1 t7 : Tok) (m : Str → Option Value) : Prop where
  all : ∀ p ∈ [(Str.ofString "pairs", Value.ref PAIRS), (Str.ofString "texts", Value.ref TEXTS), (Str.ofString "kept", Value.ref KEPT), (Str.ofString "begun", Value.bool st.begun), (Str.ofString "due", Value.str (nextDue st q) t1), (Str.ofString "text", Value.str (textOf q) t7)], m p.1 = some p.2
theorem word_len {a b c : Int} (d : Int) (ha0 : 0 ≤ a) (ha1 : a < 96) (hb0 : 0 ≤ b) (hb1 : b < 9) (hc0 : 0 ≤ c) (hc1 : c < 9) : (wordOf (a, b, c, d)).length ≤ 110 := by
  have h1 := strI_len ha0 (show a < 100 by omega)
  have h2 := strI_len hb0 (show b < 100 by omega)
  have h3 := strI_len hc0 (show c < 100 by omega)
  have h4 : (Str.ofString ".").length = 1 := by decide
  have h5 := fmod_bd d 3 (by decide)
  unfold wordOf
  dsimp only
  split
  · have h6 := mul_len (Str.ofString "_") (1 + d.fmod 3) (by omega) (by decide)
    rw [Str.length_append]; omega
  · rw [join3_eq]
    simp only [Str.length_append]
    omega
theorem any_signs (x : Str) : (List.any signs fun y => y == x) = signs.contains x := by
  unfold signs
  simp only [List.any_cons, List.any_nil, List.contains_cons, List.contains_nil]
  rw [Bool.beq_comm (a := Str.ofString "("), Bool.beq_comm (a := Str.ofString "\""), Bool.beq_comm (a := Str.ofString "/"), Bool.beq_comm (a := Str.ofString ":")]
set_option maxHeartbeats 8000000 in
theorem turnT1 : ∀ (w : World) (qual : Str) (body : List Stmt) (scope : Scope), LawAt w qual body scope → ∀ (mean : ExcName → Option Value) (mg mb : Str → Option Value) (fa : Addr) (cd : Value) (g h : Heap) (L TEXTS KEPT PAIRS ALL COL WANTED IT : Addr) (o oc : Obj) (v : Option Value) (prs all tx kp : Array Value) (n1 n2 tk : Nat) (ps : Array Value) (rest : List (Addr × Obj)) (st : St)
    (a b c d : Int) (t1 t3 t4 t5 t6 t7 x1 x2 x3 z1 z2 z3 : Tok) (m : Str → Option Value) (gens : Array GenState) (dr : Drawn) (os : OsState) (Q : Flow → Shared → Prop)
    (_ : (Mine.hd.heap_39 w.params).In g) (_ : Top vw lo mean mg mb g) (_ : 0 ≤ a) (_ : a < 96) (_ : 0 ≤ b) (_ : b < 9) (_ : 0 ≤ c) (_ : c < 9) (_ : oc.data = .cell v) (_ : st.due.length ≤ 1000) (_ : kp.size ≤ 100000) (_ : ∀ q ∈ rest, q.2.cls = .type "tuple") (_ : o.cls = .type "list_iterator")
    (_ : PAIRS < TEXTS) (_ : TEXTS < KEPT) (_ : KEPT < ALL) (_ : KEPT < WANTED) (_ : L + 1 ≠ KEPT)
    (_ : Fr g L h m) (_ : M7 TEXTS KEPT PAIRS COL WANTED st a b c d t1 t3 t4 t5 t6 t7 m)
    (_ : News g L h ((WANTED, W.listOf #[.str (strI a) z1, .str (strI b) z2, .str (strI c) z3] 0) :: (COL, tupF (partF a b c 0) (partF a b c 32) (partF a b c 64) x1 x2 x3) :: (IT, o) :: (24, tabObj ps) :: (L + 1, oc) :: (TEXTS, W.listOf tx n1) :: (KEPT, W.listOf kp n2) :: (PAIRS, W.listOf prs 0) :: (ALL, W.listOf all 0) :: rest))
    (_ : ∀ h' tk' m' t1 t7 n2', M8 TEXTS KEPT PAIRS st (a, b, c, d) t1 t7 m' → Fr g L h' m' →
      News g L h' ((COL, tupF (partF a b c 0) (partF a b c 32) (partF a b c 64) x1 x2 x3) :: (IT, o) :: (24, tabObj ps) :: (L + 1, oc) :: (TEXTS, W.listOf tx n1) :: (KEPT, W.listOf (if c = 0 then kp else kp.push (.ref COL)) n2') :: (PAIRS, W.listOf prs 0) :: (ALL, W.listOf all 0) :: rest) →
      wpAny (model Challenge.rw_ny0082_01.row.prog w) (callerA.deeper (envOfC qual scope L fa cd)) (execs (mainBody body).tail.tail.tail.tail.tail.tail.tail.tail (envOfC qual scope L fa cd)) Q (fun _ _ => False) ⟨h', gens, dr, tk', os⟩),
      wpAny (model Challenge.rw_ny0082_01.row.prog w) (callerA.deeper (envOfC qual scope L fa cd)) (execs (mainBody body).tail.tail.tail.tail.tail.tail.tail (envOfC qual scope L fa cd)) Q (fun _ _ => False) ⟨h, gens, dr, tk, os⟩ := by
  w_top off
  k_fill
  intro w
  refine' viaLaw ?k6 ?_
  case k6 => k_is
  intro mean mg mb fa cd g h L TEXTS KEPT PAIRS ALL COL WANTED IT o oc v prs all tx kp n1 n2 tk ps rest st a b c d t1 t3 t4 t5 t6 t7 x1 x2 x3 z1 z2 z3 m gens dr os Q X T ha0 ha1 hb0 hb1 hc0 hc1 hov hdl hkz hrc hoi hPT hTK hKA hKW hLK F hm N next
  rw [← overlay_eq hm.all] at F
  dsimp only [mainBody, List.tail_cons, headS, forBody] at next ⊢
  dsimp only [overlay] at F
  clear hm
  have e1k : PAIRS ≠ KEPT := Nat.ne_of_lt (Nat.lt_trans hPT hTK)
  have e2k : ALL ≠ KEPT := Nat.ne_of_gt hKA
  have e3k : WANTED ≠ KEPT := Nat.ne_of_gt hKW
  have e4k : TEXTS ≠ KEPT := Nat.ne_of_lt hTK
  have hc100 : c < 100 := by omega
  have hq3 := fmod_bd d 3 (by decide)
  have hz5 : ∀ y ∈ [strI a, strI b, strI c], y.length ≤ 1000 := by
    intro y hy
    have h1 := strI_len ha0 (show a < 100 by omega)
    have h2 := strI_len hb0 (show b < 100 by omega)
    have h3 := strI_len hc0 hc100
    simp only [List.mem_cons, List.not_mem_nil, or_false] at hy
    rcases hy with rfl | rfl | rfl <;> omega
  have hk1 : (Txt.mul (Str.ofString "_") (1 + d.fmod 3)).length ≤ 10000 := Nat.le_trans (mul_len _ _ (by omega) (by decide)) (by decide)
  have hk4 : (strI c).length ≤ 10000 := Nat.le_trans (strI_len hc0 hc100) (by decide)
  have hk5 : (wordOf (a, b, c, d)).length ≤ 10000 := Nat.le_trans (word_len d ha0 ha1 hb0 hb1 hc0 hc1) (by decide)
  have hm9 : HaltMark := trivial
  refine wpAny_execs_cons ?_
  k_steps
  · rename c ≠ 0 => hc
    rw [if_neg hc] at next
    unfold Halt
    (try dsimp only)
    refine wpAny_execs_cons ?_
    k_steps
    · rename b ≠ 0 => hb
      refine joinE_K (vs := [.str (strI a) z1, .str (strI b) z2, .str (strI c) z3]) (n := 0) N (by k_mem) (by repeat' constructor) (by simp) hz5 (by decide) ?_
      intro t' k'
      k_steps
      unfold Halt
      (try dsimp only)
      refine wpAny_execs_cons ?_
      rename Fr _ _ _ _ => FF
      rw [show Txt.join (Str.ofString ".") [strI a, strI b, strI c] = wordOf (a, b, c, d) by unfold wordOf; rw [if_neg hb]] at FF
      k_steps
      all_goals
        rename Fr _ _ _ _ => FF
        have hnd : nextDue st (a, b, c, d) = st.due ++ (if st.begun || signs.contains (pairAt d).1 then Str.ofString "-" else Str.ofString "") ++ wordOf (a, b, c, d) := if_neg hc
        first
          | (rename st.begun = true => hbe; rw [hbe, Bool.true_or, if_pos rfl] at hnd)
          | (rename List.any _ _ = true => han; rw [← any_signs, show (List.any signs fun x => x == (pairAt d).1) = true from han, Bool.or_true, if_pos rfl] at hnd)
          | (rename List.any _ _ = false => han; rename st.begun = false => hbe; rw [← any_signs, hbe, show (List.any signs fun x => x == (pairAt d).1) = false from han, Bool.or_false, if_neg Bool.false_ne_true] at hnd)
        rw [← hnd] at FF
        unfold Halt
        (try dsimp only)
        refine wpAny_execs_cons ?_
        k_steps
        clear FF
        rename Fr _ _ _ _ => FF
        rename News _ _ _ _ => NN
        unfold Halt
        (try dsimp only)
        refine' next _ _ _ _ _ _ ?m8 FF ?nn
        case m8 => exact ⟨all_cons (by first | exact Eq.refl (some _) | rfl | exact rfl) (all_cons (by first | exact Eq.refl (some _) | rfl | exact rfl) (all_cons (by first | exact Eq.refl (some _) | rfl | exact rfl) (all_cons (by first | exact Eq.refl (some _) | rfl | exact rfl) (all_cons (by first | exact Eq.refl (some _) | rfl | exact rfl) (all_cons (by first | exact Eq.refl (some _) | rfl | exact rfl) (List.forall_mem_nil _))))))⟩
        case nn => exact newsOf NN (subC (by k_mem) (subC (by k_mem) (subC (by k_mem) (subC (by k_mem) (subC (by k_mem) (subC (by k_mem) (subC (by k_mem) (subC (by k_mem) ((fun q hq => by repeat (first | exact hq | refine List.Mem.tail _ ?_)))))))))))
    · rename b = 0 => hb
      unfold Halt
      (try dsimp only)
      refine wpAny_execs_cons ?_
      rename Fr _ _ _ _ => FF
      rw [show Txt.mul (Str.ofString "_") (1 + d.fmod 3) ++ strI c = wordOf (a, b, c, d) by unfold wordOf; rw [if_pos hb]] at FF
      k_steps
      all_goals
        rename Fr _ _ _ _ => FF
        have hnd : nextDue st (a, b, c, d) = st.due ++ (if st.begun || signs.contains (pairAt d).1 then Str.ofString "-" else Str.ofString "") ++ wordOf (a, b, c, d) := if_neg hc
        first
          | (rename st.begun = true => hbe; rw [hbe, Bool.true_or, if_pos rfl] at hnd)
          | (rename List.any _ _ = true => han; rw [← any_signs, show (List.any signs fun x => x == (pairAt d).1) = true from han, Bool.or_true, if_pos rfl] at hnd)
          | (rename List.any _ _ = false => han; rename st.begun = false => hbe; rw [← any_signs, hbe, show (List.any signs fun x => x == (pairAt d).1) = false from han, Bool.or_false, if_neg Bool.false_ne_true] at hnd)
        rw [← hnd] at FF
        unfold Halt
        (try dsimp only)
        refine wpAny_execs_cons ?_
        k_steps
        clear FF
        rename Fr _ _ _ _ => FF
        rename News _ _ _ _ => NN
        unfold Halt
        (try dsimp only)
        refine' next _ _ _ _ _ _ ?m8 FF ?nn
        case m8 => exact ⟨all_cons (by first | exact Eq.refl (some _) | rfl | exact rfl) (all_cons (by first | exact Eq.refl (some _) | rfl | exact rfl) (all_cons (by first | exact Eq.refl (some _) | rfl | exact rfl) (all_cons (by first | exact Eq.refl (some _) | rfl | exact rfl) (all_cons (by first | exact Eq.refl (some _) | rfl | exact rfl) (all_cons (by first | exact Eq.refl (some _) | rfl | exact rfl) (List.forall_mem_nil _))))))⟩
        case nn => exact newsOf NN (subC (by k_mem) (subC (by k_mem) (subC (by k_mem) (subC (by k_mem) (subC (by k_mem) (subC (by k_mem) (subC (by k_mem) (subC (by k_mem) ((fun q hq => by repeat (first | exact hq | refine List.Mem.tail _ ?_)))))))))))
  · rename c = 0 => hc
    rw [if_pos hc] at next
    have hnd : nextDue st (a, b, c, d) = st.due := if_pos hc
    rw [← hnd] at F
    rename Fr _ _ _ _ => FF
    rename News _ _ _ _ => NN
    unfold Halt
    (try dsimp only)
    refine' next _ _ _ _ _ _ ?m8 FF ?nn
    case m8 => exact ⟨all_cons (by first | exact Eq.refl (some _) | rfl | exact rfl) (all_cons (by first | exact Eq.refl (some _) | rfl | exact rfl) (all_cons (by first | exact Eq.refl (some _) | rfl | exact rfl) (all_cons (by first | exact Eq.refl (some _) | rfl | exact rfl) (all_cons (by first | exact Eq.refl (some _) | rfl | exact rfl) (all_cons (by first | exact Eq.refl (some _) | rfl | exact rfl) (List.forall_mem_nil _))))))⟩
    case nn => exact newsOf NN (subC (by k_mem) (subC (by k_mem) (subC (by k_mem) (subC (by k_mem) (subC (by k_mem) (subC (by k_mem) (subC (by k_mem) (subC (by k_mem) ((fun q hq => by repeat (first | exact hq | refine List.Mem.tail _ ?_)))))))))))

/-- what the frame holds behind the turn -/
structure M11 (TEXTS KEPT PAIRS : Addr) (st : St) (t1 t2 : Tok) (m : Str → Option Value) : Prop where
  all : ∀ p ∈ [(Str.ofString "pairs", Value.ref PAIRS), (Str.ofString "texts", Value.ref TEXTS), (Str.ofString "kept", Value.ref KEPT), (Str.ofString "begun", Value.bool st.begun), (Str.ofString "due", Value.str st.due t1), (Str.ofString "told", Value.str st.due t2)], m p.1 = some p.2
theorem strs_push {tx : Array Value} {ys : List Str} (h : StrsAre tx.toList ys) {x : Str} (t : Tok) : StrsAre (tx.push (.str x t)).toList (ys ++ [x]) := by
  rw [Array.toList_push]
  generalize tx.toList = l at h
  induction h with
  | nil => exact .cons _ _ .nil
  | cons y t _ ih => exact .cons y t ih
set_option maxHeartbeats 8000000 in
theorem turnT2 : ∀ (w : World) (qual : Str) (body : List Stmt) (scope : Scope), LawAt w qual body scope → ∀ (mean : ExcName → Option Value) (mg mb : Str → Option Value) (fa : Addr) (cd : Value) (g h : Heap) (L TEXTS KEPT PAIRS ALL COL IT : Addr) (o oc : Obj) (v : Option Value) (prs all tx kp : Array Value) (n1 n2 tk : Nat) (ps : Array Value) (rest : List (Addr × Obj)) (st : St)
    (a b c d : Int) (t1 t7 x1 x2 x3 : Tok) (X1 X2 X3 : UInt64) (m : Str → Option Value) (gens : Array GenState) (dr : Drawn) (os : OsState) (Q : Flow → Shared → Prop)
    (_ : (Mine.hd.heap_39 w.params).In g) (_ : Top vw lo mean mg mb g) (_ : oc.data = .cell v) (_ : AllBare gens) (_ : TriplesOk ps.toList) (_ : StrsAre tx.toList st.texts) (_ : tx.size ≤ 100000) (_ : PlatOk (step st (a, b, c, d)).texts) (_ : platStr (step st (a, b, c, d)).texts = (step st (a, b, c, d)).due) (_ : ∀ q ∈ rest, q.2.cls = .type "tuple") (_ : o.cls = .type "list_iterator")
    (_ : PAIRS < TEXTS) (_ : TEXTS < KEPT) (_ : KEPT < ALL) (_ : L + 1 ≠ TEXTS)
    (_ : Fr g L h m) (_ : M8 TEXTS KEPT PAIRS st (a, b, c, d) t1 t7 m)
    (_ : News g L h ((COL, tupF X1 X2 X3 x1 x2 x3) :: (IT, o) :: (24, tabObj ps) :: (L + 1, oc) :: (TEXTS, W.listOf tx n1) :: (KEPT, W.listOf kp n2) :: (PAIRS, W.listOf prs 0) :: (ALL, W.listOf all 0) :: rest))
    (_ : ∀ h' gens' dr' tk' m' t1 t2 tx' n1' ps', M11 TEXTS KEPT PAIRS (step st (a, b, c, d)) t1 t2 m' → Fr g L h' m' → AllBare gens' → TriplesOk ps'.toList → StrsAre tx'.toList (step st (a, b, c, d)).texts →
      News g L h' ((COL, tupF X1 X2 X3 x1 x2 x3) :: (IT, o) :: (24, tabObj ps') :: (L + 1, oc) :: (TEXTS, W.listOf tx' n1') :: (KEPT, W.listOf kp n2) :: (PAIRS, W.listOf prs 0) :: (ALL, W.listOf all 0) :: rest) → Q .next ⟨h', gens', dr', tk', os⟩),
      wpAny (model Challenge.rw_ny0082_01.row.prog w) (callerA.deeper (envOfC qual scope L fa cd)) (execs (mainBody body).tail.tail.tail.tail.tail.tail.tail.tail (envOfC qual scope L fa cd)) Q (fun _ _ => False) ⟨h, gens, dr, tk, os⟩ := by
  w_top off
  k_fill
  intro w
  refine' viaLaw ?k6 ?_
  case k6 => k_is
  intro mean mg mb fa cd g h L TEXTS KEPT PAIRS ALL COL IT o oc v prs all tx kp n1 n2 tk ps rest st a b c d t1 t7 x1 x2 x3 X1 X2 X3 m gens dr os Q X T hov hgn tri hst htz hpo hpl hrc hoi hPT hTK hKA hLT F hm N next
  rw [← overlay_eq hm.all] at F
  dsimp only [mainBody, List.tail_cons, headS, forBody] at next ⊢
  dsimp only [overlay] at F
  clear hm
  have e1k : PAIRS ≠ TEXTS := Nat.ne_of_lt hPT
  have e2k : ALL ≠ TEXTS := Nat.ne_of_gt (Nat.lt_trans hTK hKA)
  have e4k : KEPT ≠ TEXTS := Nat.ne_of_gt hTK
  have hm9 : HaltMark := trivial
  refine wpAny_execs_cons ?_
  k_steps
  all_goals
    unfold Halt
    (try dsimp only)
    refine wpAny_execs_cons ?_
    k_steps
  all_goals
    unfold Halt
    (try dsimp only)
    refine wpAny_execs_cons ?_
    k_steps
  all_goals
    rename Fr _ _ _ _ => FF
    rename News _ _ _ _ => NN
    refine star_seq FF NN (a := TEXTS) (by k_mem) rfl rfl (.inl rfl) rfl (by rw [Array.size_push]; exact Nat.le_trans (Nat.succ_le_succ htz) (by size_fits)) ?_
    clear FF NN
    intro h5 F5 N5
    refine ⟨X.keeps F5.keep, ?_⟩
    have hst2 : ∀ t, StrsAre (tx.push (.str (textOf (a, b, c, d)) t)).toList (step st (a, b, c, d)).texts := fun t => strs_push hst t
    refine plat_L2 (ps := ps) (others := (COL, tupF X1 X2 X3 x1 x2 x3) :: (IT, o) :: (L + 1, oc) :: (TEXTS, W.listOf (tx.push (.str (textOf (a, b, c, d)) t7)) (n1 + 1)) :: (KEPT, W.listOf kp n2) :: (PAIRS, W.listOf prs 0) :: (ALL, W.listOf all 0) :: rest) F5 (newsOf N5 (subC (by k_mem) (subC (by k_mem) (subC (by k_mem) (subC (by k_mem) (subC (by k_mem) (subC (by k_mem) (subC (by k_mem) (subC (by k_mem) ((fun q hq => by repeat (first | exact hq | refine List.Mem.tail _ ?_)))))))))))) X T rfl rfl ?no tri hgn (hst2 _) hpo ?_
    case no =>
      intro q hq
      simp only [List.mem_cons] at hq
      rcases hq with rfl | rfl | rfl | rfl | rfl | rfl | rfl | hq
      · exact .inl (by decide : Value.type "tuple" ≠ Value.none)
      · exact .inl (by rw [hoi]; decide)
      · exact .inr ⟨_, hov⟩
      · exact .inl (by decide : Value.type "list" ≠ Value.none)
      · exact .inl (by decide : Value.type "list" ≠ Value.none)
      · exact .inl (by decide : Value.type "list" ≠ Value.none)
      · exact .inl (by decide : Value.type "list" ≠ Value.none)
      · exact .inl (by rw [hrc q hq]; decide)
    clear F5 N5
    intro h6 gens6 dr6 tk6 t6 ps6 tri6 G6 F6 N6
    rw [hpl]
    k_steps
    rename Fr _ _ _ _ => FF
    rename News _ _ _ _ => NN
    have hbn : _ = (step st (a, b, c, d)).begun := (by first | (rename st.begun = true => hbe; exact (show (st.begun || _) = true by rw [hbe]; rfl).symm) | (rename st.begun = false => hbe; exact (show (st.begun || _) = (textOf (a, b, c, d) != Str.ofString "") by rw [hbe]; rfl).symm))
    refine' next _ _ _ _ _ _ _ _ _ _ ?m11 FF G6 tri6 (hst2 _) ?nn
    case nn => exact newsOf NN (subC (by k_mem) (subC (by k_mem) (subC (by k_mem) (subC (by k_mem) (subC (by k_mem) (subC (by k_mem) (subC (by k_mem) (subC (by k_mem) ((fun q hq => by repeat (first | exact hq | refine List.Mem.tail _ ?_)))))))))))
    case m11 => first | exact ⟨all_cons (by first | exact Eq.refl (some _) | rfl | exact rfl) (all_cons (by first | exact Eq.refl (some _) | rfl | exact rfl) (all_cons (by first | exact Eq.refl (some _) | rfl | exact rfl) (all_cons (congrArg (fun b => some (Value.bool b)) hbn) (all_cons (by first | exact Eq.refl (some _) | rfl | exact rfl) (all_cons (by first | exact Eq.refl (some _) | rfl | exact rfl) (List.forall_mem_nil _))))))⟩ | (rename st.begun = true => hbe1; exact ⟨all_cons (by first | exact Eq.refl (some _) | rfl | exact rfl) (all_cons (by first | exact Eq.refl (some _) | rfl | exact rfl) (all_cons (by first | exact Eq.refl (some _) | rfl | exact rfl) (all_cons (congrArg (fun b => some (Value.bool b)) (hbe1.trans hbn)) (all_cons (by first | exact Eq.refl (some _) | rfl | exact rfl) (all_cons (by first | exact Eq.refl (some _) | rfl | exact rfl) (List.forall_mem_nil _))))))⟩)

theorem run_len (qs : List Quad) : (run qs).texts.length ≤ qs.length ∧ (run qs).kept.length ≤ qs.length := by
  have key : ∀ (l : List Quad) (st : St) (n : Nat), st.texts.length ≤ n → st.kept.length ≤ n → (l.foldl step st).texts.length ≤ n + l.length ∧ (l.foldl step st).kept.length ≤ n + l.length := by
    intro l
    induction l with
    | nil => intro st n h1 h2; exact ⟨h1, h2⟩
    | cons q l ih =>
      intro st n h1 h2
      have := ih (step st q) (n + 1) (by show (st.texts ++ [_]).length ≤ _; simp; exact h1) (by
        show (if q.2.2.1 = 0 then st.kept else st.kept ++ [colourOf q]).length ≤ _
        split
        · omega
        · simp; exact h2)
      simp only [List.foldl_cons, List.length_cons]
      constructor
      · have := this.1; omega
      · have := this.2; omega
  have := key qs st0 0 (Nat.zero_le _) (Nat.zero_le _)
  simpa [run] using this
theorem strsAre_len {vs : List Value} {ys : List Str} (h : StrsAre vs ys) : vs.length = ys.length := by
  induction h with
  | nil => rfl
  | cons _ _ _ ih => simp [ih]
theorem turnAll : ∀ (w : World) (qual : Str) (body : List Stmt) (scope : Scope), LawAt w qual body scope → ∀ (mean : ExcName → Option Value) (mg mb : Str → Option Value) (fa : Addr) (cd : Value) (g : Heap) (L TEXTS KEPT PAIRS ALL : Addr) (prs all : Array Value) (qs : List Quad) (os : OsState)
    (_ : (Mine.hd.heap_39 w.params).In g) (_ : Top vw lo mean mg mb g) (_ : PAIRS < TEXTS) (_ : TEXTS < KEPT) (_ : KEPT < ALL) (_ : ∀ q ∈ qs, Valid q) (_ : qs.length ≤ 13)
    (i : Nat) (v : Value) (IT : Addr) (o : Obj) (s' : Shared) (m : Str → Option Value) (news : List (Addr × Obj)) (Q : Flow → Shared → Prop) (_ : all[i]? = some v) (_ : MainJ os L TEXTS KEPT PAIRS ALL prs all qs (run (qs.take i)) s' m news) (_ : LstIt ALL (i + 1) o) (_ : Fr g L s'.heap m) (_ : News g L s'.heap ((IT, o) :: news))
    (_ : ∀ s₂ m' news', MainJ os L TEXTS KEPT PAIRS ALL prs all qs (run (qs.take (i + 1))) s₂ m' news' → Fr g L s₂.heap m' → News g L s₂.heap ((IT, o) :: news') → Q .next s₂),
      wpAny (model Challenge.rw_ny0082_01.row.prog w) (callerA.deeper (envOfC qual scope L fa cd)) (assign (mainTgt body) (envOfC qual scope L fa cd) v) (fun _ s₂ => wpAny (model Challenge.rw_ny0082_01.row.prog w) (callerA.deeper (envOfC qual scope L fa cd)) (execs (mainBody body) (envOfC qual scope L fa cd)) Q (fun _ _ => False) s₂) (fun _ _ => False) s' := by
  intro w qual body scope hl mean mg mb fa cd g L TEXTS KEPT PAIRS ALL prs all qs os X T hPT hTK hKA hval hlen i v IT o s' m news Q hv hJ hit F N next
  obtain ⟨jg, jos, jp, jt, jk, jb, ⟨t1, jd⟩, ⟨t2, jto⟩, tx, n1, kp, n2, ps, oc, cv, rest, rfl, hcls, tri, hov, htx, hkp, hpr, hsp, hrL⟩ := hJ
  obtain ⟨D, a, b, c, d, u1, u2, u3, u4, rfl, hq, hD⟩ := hsp.at (i := i) (by simpa using hv)
  have hmem : (a, b, c, d) ∈ qs := List.mem_of_getElem? hq
  obtain ⟨⟨ha0, ha1⟩, ⟨hb0, hb1⟩, hc0, hc1⟩ := hval _ hmem
  dsimp only at ha0 ha1 hb0 hb1 hc0 hc1
  have hrun : run (qs.take (i + 1)) = step (run (qs.take i)) (a, b, c, d) := by
    rw [List.take_add_one, hq]; exact run_snoc _ _
  have hP1 := plain_plat (qs := qs.take (i + 1)) (fun q hq => hval q (List.mem_of_mem_take hq)) (by rw [List.length_take]; omega)
  have hP0 := plain_plat (qs := qs.take i) (fun q hq => hval q (List.mem_of_mem_take hq)) (by rw [List.length_take]; omega)
  have hL0 := run_len (qs.take i)
  have hli : (qs.take i).length ≤ 13 := by rw [List.length_take]; omega
  rw [hrun] at next hP1
  generalize run (qs.take i) = st at *
  obtain ⟨H, S, V, hseen, hsm⟩ := seen_all ha0 ha1 hb0 hb1 hc0 hc1
  have hco := colour_ok (hval _ hmem)
  obtain ⟨h, gens, dr, tk, os'⟩ := s'
  dsimp only at jg jos F N
  subst jos
  have htz : tx.size ≤ 100000 := by
    have := strsAre_len htx
    rw [Array.length_toList] at this; omega
  have hkz : kp.size ≤ 100000 := by
    have := hkp.len
    rw [Array.length_toList] at this; omega
  have N4 : News g L h ((D, tupI a b c d u1 u2 u3 u4) :: (IT, o) :: (24, tabObj ps) :: (L + 1, oc) :: (TEXTS, W.listOf tx n1) :: (KEPT, W.listOf kp n2) :: (PAIRS, W.listOf prs 0) :: (ALL, W.listOf all 0) :: rest) := fun q hq => by
    rcases List.mem_cons.mp hq with rfl | hq
    · exact N _ (.tail _ (.tail _ (.tail _ (.tail _ (.tail _ (.tail _ (.tail _ hD)))))))
    · exact N q hq
  have hitd : ∀ v, o.data ≠ .cell v := fun v e => by rw [hit.data] at e; cases e
  have hLT : L + 1 ≠ TEXTS := fun e => by
    have z1 := (N _ (.tail _ (.tail _ (.head _)))).1
    have z2 := (N _ (.tail _ (.tail _ (.tail _ (.head _))))).1
    dsimp only at z1 z2
    rw [e, z2] at z1
    have := congrArg Obj.data (Option.some.inj z1)
    rw [hov] at this; cases this
  have hLK : L + 1 ≠ KEPT := fun e => by
    have z1 := (N _ (.tail _ (.tail _ (.head _)))).1
    have z2 := (N _ (.tail _ (.tail _ (.tail _ (.tail _ (.head _)))))).1
    dsimp only at z1 z2
    rw [e, z2] at z1
    have := congrArg Obj.data (Option.some.inj z1)
    rw [hov] at this; cases this
  refine turn1 w qual body scope hl mean mg mb fa cd g h L TEXTS KEPT PAIRS ALL D IT o oc prs all tx kp n1 n2 tk ps rest st a b c d u1 u2 u3 u4 t1 t2 m gens dr os' H S V Q X T ha0 ha1 hb0 hb1 hc0 hc1 hseen hpr F ?_ N4 ?_
  · exact all_cons (jp) (all_cons (jt) (all_cons (jk) (all_cons (jb) (all_cons (jd) (all_cons (jto) (List.forall_mem_nil _))))))
  intro h5 tk5 COL SEEN WANTED m5 t1 t2 t3 t4 t5 t6 t7 x1 x2 x3 y1 y2 y3 z1 z2 z3 hm5 F5 hTW hKW hLW N5 p1 p2 p3
  have cont : ∀ h' tk' m' oc' v' t1 t3 t4 t5 t6 t7 z1 z2 z3, M7 TEXTS KEPT PAIRS COL WANTED st a b c d t1 t3 t4 t5 t6 t7 m' → Fr g L h' m' → oc'.data = .cell v' →
      News g L h' ((WANTED, W.listOf #[.str (strI a) z1, .str (strI b) z2, .str (strI c) z3] 0) :: (COL, tupF (partF a b c 0) (partF a b c 32) (partF a b c 64) x1 x2 x3) :: (IT, o) :: (24, tabObj ps) :: (L + 1, oc') :: (TEXTS, W.listOf tx n1) :: (KEPT, W.listOf kp n2) :: (PAIRS, W.listOf prs 0) :: (ALL, W.listOf all 0) :: rest) →
      wpAny (model Challenge.rw_ny0082_01.row.prog w) (callerA.deeper (envOfC qual scope L fa cd)) (execs (mainBody body).tail.tail.tail.tail.tail.tail.tail (envOfC qual scope L fa cd)) Q (fun _ _ => False) ⟨h', gens, dr, tk', os'⟩ := by
    intro h7 tk7 m7 oc7 v7 t1 t3 t4 t5 t6 t7 z1 z2 z3 hm7 F7 hov7 N7
    refine turnT1 w qual body scope hl mean mg mb fa cd g h7 L TEXTS KEPT PAIRS ALL COL WANTED IT o oc7 v7 prs all tx kp n1 n2 tk7 ps rest st a b c d t1 t3 t4 t5 t6 t7 x1 x2 x3 z1 z2 z3 m7 gens dr os' Q X T ha0 ha1 hb0 hb1 hc0 hc1 hov7 hP0.2.2 hkz hcls hit.cls hPT hTK hKA hKW hLK F7 hm7 N7 ?_
    intro h8 tk8 m8 t1 t7 n8 hm8 F8 N8
    refine turnT2 w qual body scope hl mean mg mb fa cd g h8 L TEXTS KEPT PAIRS ALL COL IT o oc7 v7 prs all tx _ n1 n8 tk8 ps rest st a b c d t1 t7 x1 x2 x3 _ _ _ m8 gens dr os' Q X T hov7 jg tri htx htz hP1.1 hP1.2.1 hcls hit.cls hPT hTK hKA hLT F8 hm8 N8 ?_
    intro h9 gens9 dr9 tk9 m9 t1 t2 tx9 n9 ps9 hm9 F9 G9 tri9 htx9 N9
    have hCL : COL ≠ L + 1 := fun e => by
      have z1 := (N9 _ (.head _)).1
      have z2 := (N9 _ (.tail _ (.tail _ (.tail _ (.head _))))).1
      dsimp only at z1 z2
      rw [e, z2] at z1
      have := congrArg Obj.data (Option.some.inj z1)
      rw [hov7] at this; cases this
    have hm := hm9.all
    have up : ∀ q, q ∈ rest → q ∈ (COL, tupF (partF a b c 0) (partF a b c 32) (partF a b c 64) x1 x2 x3) :: rest := fun q hq => .tail _ hq
    refine next _ m9 ((24, tabObj ps9) :: (L + 1, oc7) :: (TEXTS, W.listOf tx9 n9) :: (KEPT, W.listOf (if c = 0 then kp else kp.push (.ref COL)) n8) :: (PAIRS, W.listOf prs 0) :: (ALL, W.listOf all 0) :: (COL, tupF (partF a b c 0) (partF a b c 32) (partF a b c 64) x1 x2 x3) :: rest) ⟨G9, rfl, hm _ (.head _), hm _ (.tail _ (.head _)), hm _ (.tail _ (.tail _ (.head _))), hm _ (.tail _ (.tail _ (.tail _ (.head _)))), ⟨t1, hm _ (.tail _ (.tail _ (.tail _ (.tail _ (.head _)))))⟩, ⟨t2, hm _ (.tail _ (.tail _ (.tail _ (.tail _ (.tail _ (.head _))))))⟩, tx9, n9, _, n8, ps9, oc7, v7, _, rfl, ?_, tri9, hov7, htx9, ?_, hpr.mono up, hsp.mono up, ?_⟩ F9 ?_
    · intro q hq
      rcases List.mem_cons.mp hq with rfl | hq
      · rfl
      · exact hcls q hq
    · show RowIs _ _ (if c = 0 then st.kept else st.kept ++ [colourOf (a, b, c, d)])
      by_cases hc : c = 0
      · rw [if_pos hc, if_pos hc]; exact hkp.mono up
      · rw [if_neg hc, if_neg hc, Array.toList_push]; exact (hkp.mono up).snoc (.head _) p1 p2 p3
    · intro q hq
      rcases List.mem_cons.mp hq with rfl | hq
      · exact hCL
      · exact hrL q hq
    · refine newsOf N9 fun q hq => ?_
      simp only [List.mem_cons] at hq ⊢
      rcases hq with h | h | h | h | h | h | h | h | h
      · exact .inr (.inl h)
      · exact .inr (.inr (.inl h))
      · exact .inr (.inr (.inr (.inl h)))
      · exact .inr (.inr (.inr (.inr (.inl h))))
      · exact .inr (.inr (.inr (.inr (.inr (.inl h)))))
      · exact .inr (.inr (.inr (.inr (.inr (.inr (.inl h))))))
      · exact .inr (.inr (.inr (.inr (.inr (.inr (.inr (.inl h)))))))
      · exact .inl h
      · exact .inr (.inr (.inr (.inr (.inr (.inr (.inr (.inr h)))))))
  by_cases hc : c = 0
  · exact turnA w qual body scope hl mean mg mb fa cd g h5 L TEXTS KEPT PAIRS ALL COL SEEN WANTED IT o oc cv prs all tx kp n1 n2 tk5 ps rest st a b c d t1 t2 t3 t4 t5 t6 t7 x1 x2 x3 y1 y2 y3 z1 z2 z3 m5 gens dr os' H S V Q X T ha0 ha1 hb0 hb1 hc0 hc1 hsm hov hc F5 hm5 N5 cont
  by_cases hb : b = 0
  · exact turnB w qual body scope hl mean mg mb fa cd g h5 L TEXTS KEPT PAIRS ALL COL SEEN WANTED IT o oc cv prs all tx kp n1 n2 tk5 ps rest st a b c d t1 t2 t3 t4 t5 t6 t7 x1 x2 x3 y1 y2 y3 z1 z2 z3 m5 gens dr os' H S V Q X T ha0 ha1 hb0 hb1 hc0 hc1 hsm hov hc hb F5 hm5 N5 cont
  · exact turnC w qual body scope hl mean mg mb fa cd g h5 L TEXTS KEPT PAIRS ALL COL SEEN WANTED IT o oc cv prs all tx kp n1 n2 tk5 ps rest st a b c d t1 t2 t3 t4 t5 t6 t7 x1 x2 x3 y1 y2 y3 z1 z2 z3 m5 gens dr os' H S V Q X T ha0 ha1 hb0 hb1 hc0 hc1 hsm hco hov hc hb hitd hrL F5 hm5 N5 cont

local macro_rules | `(tactic| walk_at "call ref") => lineM ' ' (reE 62 "s") `Mine.read_L "kkaarraaaaaa!" 9 false []
local macro_rules | `(tactic| walk_at "compareOp Eq ref ref") => return haltT
set_option maxHeartbeats 8000000 in
theorem lawF : ∀ (w : World) (qual : Str) (body : List Stmt) (scope : Scope), LawAt w qual body scope → ∀ (mean : ExcName → Option Value) (mg mb : Str → Option Value) (fa : Addr) (cd : Value) (g h : Heap) (L KEPT : Addr) (kp : Array Value) (n2 tk : Nat) (news : List (Addr × Obj)) (due : Str) (kept : List Tri) (ys : List Str) (os : List (Option Tri))
    (t1 t2 : Tok) (m : Str → Option Value) (gens : Array GenState) (dr : Drawn) (oss : OsState) (Q : Flow → Shared → Prop)
    (_ : (Mine.hd.heap_39 w.params).In g) (_ : Top vw lo mean mg mb g) (_ : due.length ≤ 10000) (_ : ∀ y ∈ ys, y.length ≤ 640) (_ : Txt.split due (Str.ofString "-") = ys) (_ : ys.length ≤ 1000) (_ : os.length = ys.length) (_ : ∀ (i : Nat) y o, ys[i]? = some y → os[i]? = some o → PieceOk y o) (_ : os.filterMap id = kept) (_ : ∀ c ∈ kept, SelfEq c)
    (_ : Fr g L h m) (_ : ∀ p ∈ [(Str.ofString "kept", Value.ref KEPT), (Str.ofString "due", Value.str due t1), (Str.ofString "told", Value.str due t2)], m p.1 = some p.2) (_ : News g L h news) (_ : (KEPT, W.listOf kp n2) ∈ news) (_ : RowIs (· ∈ news) kp.toList kept)
    (_ : ∀ h' tk' m', Fr g L h' m' → News g L h' news → Q (.ret (.bool true)) ⟨h', gens, dr, tk', oss⟩),
      wpAny (model Challenge.rw_ny0082_01.row.prog w) (callerA.deeper (envOfC qual scope L fa cd)) (execs body.tail.tail.tail.tail.tail.tail.tail.tail.tail.tail (envOfC qual scope L fa cd)) Q (fun _ _ => False) ⟨h, gens, dr, tk, oss⟩ := by
  w_top off
  k_fill
  intro w
  refine' viaLaw ?k6 ?_
  case k6 => k_is
  intro mean mg mb fa cd g h L KEPT kp n2 tk news due kept ys os t1 t2 m gens dr oss Q X T hdl hy640 hsp hyl hol hok hkept hself F hm N hK hrow next
  rw [← overlay_eq hm] at F
  dsimp only [List.tail_cons]
  dsimp only [overlay] at F
  clear hm
  refine wpAny_execs_cons ?_
  k_steps
  all_goals first
    | (exfalso; rename (due == due) = false => hne; simp at hne; done)
    | skip
  unfold Halt
  rename_i D9 h9 tk9 its9 n9 F9 N9 hD9 hR9
  subst hkept
  exact rows_eq hD9 (N9 _ hK).1 hR9 (hrow.mono fun q hq => (N9 q hq).1) (none_booked (X.keeps F9.keep)) hself (by first | units_room | exact Nat.le_of_ble_eq_true rfl) (by first | units_room | exact Nat.le_of_ble_eq_true rfl) (next _ _ _ F9 N9)

set_option maxHeartbeats 8000000
local macro_rules | `(tactic| walk_at "newTuple") => newQM `Mine.newTupQ "kk!Z" 5
local macro_rules | `(tactic| walk_at "newList") => newQM `Mine.newLstQ "kk!Z" 6
theorem memQ {q : Addr × Obj} {o : Obj} {all : List (Addr × Obj)} (h : q = (q.1, o)) (hm : q ∈ all) : (q.1, o) ∈ all := h ▸ hm
section
variable {M : Model} {A : Around} {E : Value → Shared → Prop} {s : Shared} {h₀ : Heap} {L : Addr} {m : Str → Option Value} {news : List (Addr × Obj)} {vs : List Value} {Q : Value → Shared → Prop}
noncomputable def QMark : Prop := True
noncomputable def TupQ (q : Addr × Obj) (vs : List Value) : Prop := q = (q.1, { cls := .type "tuple", data := .seq vs.toArray })
noncomputable def LstQ (q : Addr × Obj) (vs : List Value) : Prop := q = (q.1, W.listOf vs.toArray 0)
theorem newTupQ (F : Fr h₀ L s.heap m) (N : News h₀ L s.heap news) (h : ∀ q h', TupQ q vs → Fr h₀ L h' m → News h₀ L h' (q :: news) → Q (.ref q.1) { s with heap := h' }) (hz : vs.length ≤ sizeLine) : wpAny M A (newTuple vs) Q E s :=
  kup_newTuple F N (fun D h' F' N' _ => h (D, _) h' rfl F' N') hz
theorem newLstQ {p : Addr × Obj} (F : Fr h₀ L s.heap m) (N : News h₀ L s.heap (p :: news)) (h : ∀ q h', LstQ q vs → p.1 < q.1 → Fr h₀ L h' m → News h₀ L h' (q :: p :: news) → Q (.ref q.1) { s with heap := h' }) (hz : vs.length ≤ sizeLine) : wpAny M A (newList vs) Q E s :=
  newList_K F N (fun D h' F' N' hl => h (D, _) h' rfl (hl _ (.head _)) F' N') hz
end
theorem withLaw {w : World} {P : Prop} {oc0 : Value} {od : Option Addr} {name qual : Str} {params : Arguments} {body : List Stmt} {scope : Scope} {dV kV doc pm cdv ct : Value} {an : Option Addr} {osl : Array (Option Value)}
    (ho : (Mine.hd.heap_39 w.params).lookup 67 = some ⟨oc0, od, .func (fnOf name qual params body scope dV kV doc pm an cdv ct), osl⟩) (h : LawAt w qual body scope → P) : P := h ⟨_, _, _, _, _, _, _, _, _, _, _, _, ho⟩
theorem spots_valid {l : List Int} : ∀ q ∈ l.map spotOf ++ fixedSpots, Valid q := by
  intro q hq
  rcases List.mem_append.mp hq with hq | hq
  · obtain ⟨n, _, rfl⟩ := List.mem_map.mp hq
    exact ⟨fmod_bd _ 96 (by decide), fmod_bd _ 9 (by decide), fmod_bd _ 9 (by decide)⟩
  · have key : ∀ q ∈ fixedSpots, Valid q := by unfold fixedSpots Valid; decide
    exact key q hq
theorem SpotsAre.len' {P : Addr × Obj → Prop} {vs : List Value} {cs : List Quad} (h : SpotsAre P vs cs) : vs.length = cs.length := by
  induction h with
  | nil => rfl
  | cons _ _ ih => simp [ih]
theorem spotsRefs {P : Addr × Obj → Prop} {vs : List Value} {cs : List Quad} (h : SpotsAre P vs cs) : ∀ (i : Nat) v, vs[i]? = some v → ∃ T, v = .ref T := by
  induction h with
  | nil => intro i v h; simp at h
  | cons a _ ih =>
    intro i v h
    cases i with
    | zero => simp at h; exact ⟨_, h.symm⟩
    | succ i => exact ih i v (by simpa using h)
theorem law1 : PySem.Challenge.rw_ny0082_01.Holds := hd (by
  w_top off
  k_fill
  intro w s₀ s₁ mg mb G Y fa o pm cd doc dV kV ho hd hcd hD hmg hg args vals as hpre hlay hrd hwl hlo
  have KX := kIn_of Y
  refine Ground.open G ?_
  intro T B D TE TW
  try (refine guard_noD D (by decide +kernel) ?_; clear D)
  clear B TE TW G Y
  wrow_args hpre hlay hrd hwl hlo
  first | refine callC_kw (enter_call ?_) | refine enter_call ?_ | refine callC_kw (enter_callW ?_) | refine enter_callW ?_
  w_top on
  w_call any ho hd hcd hD T F
  rename_i ns _ _ _ _ _ _ _ LS vs _ hL _ _ _ hI _ hlen _ h₁ tk₁ oc hoc N0 X0
  have h24 := plat_tab T KX
  have T' := top_vw T h24
  have X' := in_hide KX
  have F' := law_fr F
  have N' := law_news F N0 h24
  have hLS := law_ground h24 hL
  have hEnd : ∀ s' ps m, Fr (s₁.heap.hide 24) s₁.heap.objs.size s'.heap m → s'.heap.get? 24 = some (tabObj ps) → AllBare s'.gens → s'.os = s₁.os → GoodWG Challenge.rw_ny0082_01.row.claim (classAt s₀.heap) (ExcName.means s₀.heap) [ofPy (PyData.list (List.map PyData.int ns))] s₁ (.ok (.ret (.bool true))) s' :=
    fun s' ps m F hP G hos => law_end KX h24 F hP G hos
  replace hoc : oc.data = .cell none := hoc
  have G0 : AllBare s₁.gens := .of_eq hg
  clear h24 T KX F N0 X0 hL hmg hcd hD hd ho
  generalize hgr : s₁.heap.hide 24 = g at *
  generalize hLL : s₁.heap.objs.size = L at *
  show wpAny _ _ _ _ _ _
  k_fold
  k_steps
  unfold Halt
  refine wpAny_For ?_ (by intro _; rfl)
  k_steps
  dsimp only
  rename_i SPOTS h2 l1 h3 SL ws h4 F4 N4 hI4 hC4 hL4 l2
  have e1 : SPOTS < SL := l2.1
  have e2 : L + 1 ≠ SPOTS := Nat.ne_of_lt l1.2
  have N4' : News g L h4 [(SPOTS, W.listOf #[] 0), (SL, W.listOf ws.toArray 0), (24, tabObj #[]), (L + 1, oc)] := fun q hq => N4 q (by
    simp only [List.mem_cons, List.not_mem_nil, or_false] at hq ⊢
    rcases hq with h | h | h | h
    · exact .inr (.inl h)
    · exact .inl h
    · exact .inr (.inr (.inl h))
    · exact .inr (.inr (.inr h)))
  refine loop_list_L (items := ws.toArray) (n := 0) (fun i s' m news => SpotJ s₁ L SPOTS SL ws.toArray oc (((ns.take 8).take i).map spotOf) s' m news) rfl ?_ ?_ ?_ F4 N4' ?_ ?_ ?_
  · rintro i s' m news ⟨_, _, its, n, rest, rfl, _, _⟩; exact .tail _ (.head _)
  · rintro i s' m news ⟨_, _, its, n, rest, rfl, hc, _⟩ q hq
    rcases List.mem_cons.mp hq with rfl | hq
    · exact .inl (by decide : Value.type "list" ≠ .type "list_iterator")
    rcases List.mem_cons.mp hq with rfl | hq
    · exact .inl (by decide : Value.type "list" ≠ .type "list_iterator")
    rcases List.mem_cons.mp hq with rfl | hq
    · exact .inl (by decide : Value.none ≠ .type "list_iterator")
    rcases List.mem_cons.mp hq with rfl | hq
    · exact .inr (fun vs => by show oc.data ≠ _; rw [hoc]; exact Data.noConfusion)
    · left; rw [hc q hq]; exact tuple_it
  · rintro i s' m news h' ⟨⟨h, tk, rfl⟩, hrow, hled⟩; exact ⟨⟨h', tk, rfl⟩, hrow, hled⟩
  · exact ⟨⟨_, _, rfl⟩, rfl, #[], 0, [], rfl, fun _ hq => (nomatch hq), .nil⟩
  · rintro i v IT o s' m news hv ⟨⟨h, tk, rfl⟩, hrow, its, n, rest, rfl, hcls, hri⟩ ho F3 N3
    clear F4 N4 N4'
    obtain ⟨d, t, rfl, hd⟩ := hI4.at i v (by simpa using hv)
    have hits : its.size ≤ 100000 := by
      have h1 := hri.len
      simp only [Array.length_toList, List.length_map, List.length_take] at h1
      exact Nat.le_trans (Nat.le_of_eq h1) (Nat.le_trans (Nat.min_le_right _ _) (Nat.le_trans (Nat.min_le_left _ _) (by decide)))
    have hsn : ((ns.take 8).take (i + 1)).map spotOf = ((ns.take 8).take i).map spotOf ++ [spotOf d] := by
      rw [List.take_add_one, hd, List.map_append]; rfl
    rw [hsn, mapAt hrow] at *
    clear hv hd
    k_steps
    (try dsimp only)
    rename Fr _ _ _ _ => FF
    rename News _ _ _ _ => NN
    exact spot_end hri hcls rfl FF NN (by k_mem) (by k_mem) (by k_mem) (by k_mem) (by k_mem) (by k_mem) (fun q hq => by repeat (first | exact hq | refine List.Mem.tail _ ?_))
  · rintro s' m news ⟨⟨h, tk, rfl⟩, hrow, its, n, rest, rfl, hcls, hri⟩ F3 N3
    clear F4 N4 N4'
    rw [mapAt hrow] at F3
    show wpAny _ _ (execs _ _) _ _ _
    have hq8 : QMark := trivial
    k_steps
    with_reducible rename QMark => hq8
    clear hq8
    rename_i a0 _ qa0 a1 _ qa1 a2 _ qa2 a3 _ qa3 a4 _ qa4 xF _ qF _ _ p0 _ qp0 p1 _ qp1 p2 _ qp2 p3 _ qp3 p4 _ qp4 p5 _ qp5 xP _ qP _ _ xT _ qT hPT _ xK _ qK hTK _ _ h5 FF NN
    obtain ⟨prs, fx, rest', NA, hc', hp', hf', hs', hL'⟩ := restart hoc (TEXTS := xT.1) (KEPT := xK.1) (PAIRS := xP.1) (SPOTS := SPOTS) (FIXED := xF.1) (ss := List.map spotOf (List.take ws.toArray.size (List.take 8 ns))) NN (by k_mem) (by k_mem) (memQ qT (by k_mem)) (memQ qK (by k_mem)) (memQ qP (by k_mem)) (by k_mem) (memQ qF (by k_mem))
      (.cons (memQ qp0 (by k_mem)) ( .cons (memQ qp1 (by k_mem)) ( .cons (memQ qp2 (by k_mem)) ( .cons (memQ qp3 (by k_mem)) ( .cons (memQ qp4 (by k_mem)) ( .cons (memQ qp5 (by k_mem)) (.nil)))))))
      (.cons (memQ qa0 (by k_mem)) ( .cons (memQ qa1 (by k_mem)) ( .cons (memQ qa2 (by k_mem)) ( .cons (memQ qa3 (by k_mem)) ( .cons (memQ qa4 (by k_mem)) (.nil))))))
      (hri.mono fun q hq => by repeat (first | exact hq | refine List.Mem.tail _ ?_))
    clear NN qa0 qa1 qa2 qa3 qa4 qF qp0 qp1 qp2 qp3 qp4 qp5 qP qT qK
    generalize xT.1 = TEXTS at *
    generalize xK.1 = KEPT at *
    generalize xP.1 = PAIRS at *
    generalize xF.1 = FIXED at *
    show wpAny _ _ (call (Value.ref 29) []) _ _ _
    have hno1 : ∀ q ∈ [(L + 1, oc), (TEXTS, W.listOf #[] 0), (KEPT, W.listOf #[] 0), (PAIRS, W.listOf prs 0), (SPOTS, W.listOf its n), (FIXED, W.listOf fx 0)] ++ rest', NoTab q := by
      intro q hq
      rcases List.mem_append.mp hq with hq | hq
      · simp only [List.mem_cons, List.not_mem_nil, or_false] at hq
        rcases hq with rfl | rfl | rfl | rfl | rfl | rfl
        · exact .inr ⟨_, hoc⟩
        all_goals exact .inl (by decide : Value.type "list" ≠ Value.none)
      · exact .inl (by rw [hc' q hq]; decide)
    refine plat_L2 (ts := []) FF NA X' T' rfl rfl hno1 trivial G0 .nil ⟨fun y hy => (nomatch hy), Nat.zero_le _, by decide, by decide⟩ ?_
    intro h6 gens6 dr6 tk6 t6 ps6 tri6 G6 F6 N6
    clear FF NA
    have hps0 : platStr [] = Str.ofString "" := by decide +kernel
    rw [hps0]
    k_steps
    unfold Halt
    refine wpAny_For ?_ (by intro _; rfl)
    k_steps
    rename Fr _ _ _ _ => F7
    rename News _ _ _ _ => N7
    have hsz7 : its.size + fx.size ≤ 100000 := by
      have h1 := hs'.len
      have h2 := hf'.len
      simp only [Array.length_toList, List.length_map, List.length_take, fixedSpots, List.length_cons, List.length_nil] at h1 h2
      exact Nat.le_trans (Nat.add_le_add (Nat.le_trans (Nat.le_of_eq h1) (Nat.le_trans (Nat.min_le_right _ _) (Nat.min_le_left _ _))) (Nat.le_of_eq h2)) (by decide)
    refine add_K F7 N7 (by k_mem) (by k_mem) hsz7 ?_
    intro ALL h8 F8 N8 hA8
    clear F7 N7
    dsimp only
    obtain ⟨qs, hqs⟩ : ∃ qs, qs = List.map spotOf (List.take ws.toArray.size (List.take 8 ns)) ++ fixedSpots := ⟨_, rfl⟩
    obtain ⟨all, hall⟩ : ∃ all, all = (its.toList ++ fx.toList).toArray := ⟨_, rfl⟩
    rw [← hall] at N8
    have hsa : SpotsAre (· ∈ rest') all.toList qs := by rw [hall, hqs]; exact hs'.app hf'
    have N8' : News g L h8 ((24, tabObj ps6) :: (L + 1, oc) :: (TEXTS, W.listOf #[] 0) :: (KEPT, W.listOf #[] 0) :: (PAIRS, W.listOf prs 0) :: (ALL, W.listOf all 0) :: rest') := fun q hq => N8 q (by
      simp only [List.mem_cons] at hq ⊢
      rcases hq with h | h | h | h | h | h | h
      · exact .inr (.inl h)
      · exact .inr (.inr (.inl h))
      · exact .inr (.inr (.inr (.inl h)))
      · exact .inr (.inr (.inr (.inr (.inl h))))
      · exact .inr (.inr (.inr (.inr (.inr (.inl h)))))
      · exact .inl h
      · exact .inr (.inr (.inr (.inr (.inr (.inr (.inr (.inr h))))))))
    have hqv : ∀ q ∈ qs, Valid q := by rw [hqs]; exact spots_valid
    have hql : qs.length ≤ 13 := by
      rw [hqs]; simp only [List.length_append, List.length_map, List.length_take, fixedSpots, List.length_cons, List.length_nil]; exact Nat.add_le_add_right (Nat.le_trans (Nat.min_le_right _ _) (Nat.min_le_left _ _)) 5
    have hKA : KEPT < ALL := hA8 _ (.tail _ (.tail _ (.tail _ (.head _))))
    have hTA : TEXTS < ALL := hA8 _ (.tail _ (.tail _ (.head _)))
    refine loop_list_P (items := all) (n := 0) (fun i s' m news => MainJ s₁.os L TEXTS KEPT PAIRS ALL prs all qs (run (qs.take i)) s' m news) rfl ?_ ?_ ?_ F8 N8' ?_ ?_ ?_ ?_
    · rintro i s' m news ⟨_, _, _, _, _, _, _, _, tx, n1, kp, n2, ps, oc, v, rest, rfl, _⟩; exact .tail _ (.tail _ (.tail _ (.tail _ (.tail _ (.head _)))))
    · rintro i s' m news ⟨_, _, _, _, _, _, _, _, tx, n1, kp, n2, ps, oc, v, rest, rfl, hc, _, hov, _⟩ q hq
      simp only [List.mem_cons] at hq
      rcases hq with rfl | rfl | rfl | rfl | rfl | rfl | hq
      · exact .inl (by decide : Value.none ≠ .type "list_iterator")
      · exact .inr (fun vs => by show oc.data ≠ _; rw [hov]; exact Data.noConfusion)
      · exact .inl (by decide : Value.type "list" ≠ .type "list_iterator")
      · exact .inl (by decide : Value.type "list" ≠ .type "list_iterator")
      · exact .inl (by decide : Value.type "list" ≠ .type "list_iterator")
      · exact .inl (by decide : Value.type "list" ≠ .type "list_iterator")
      · left; rw [hc q hq]; exact tuple_it
    · rintro i s' m news h' ⟨a1, a2, a3, a4, a5, a6, a7, a8, a9⟩; exact ⟨a1, a2, a3, a4, a5, a6, a7, a8, a9⟩
    · exact ⟨G6, rfl, rfl, rfl, rfl, rfl, ⟨_, rfl⟩, ⟨_, rfl⟩, _, _, _, _, _, oc, _, rest', rfl, hc', tri6, hoc, .nil, .nil, hp', hsa, hL'⟩
    · rintro i v IT o s' m news hv hJ ho F3 N3
      clear F8 N8 N8'
      refine' withLaw (w := w) ?k6 ?_
      case k6 => k_is
      intro hla
      exact turnAll w _ _ _ hla _ mg mb _ _ g L TEXTS KEPT PAIRS ALL prs all qs s₁.os X' T' hPT hTK hKA hqv hql i v IT o s' m news _ hv hJ ho F3 N3 fun s₂ m' news' J F N => ⟨m', news', J, F, N⟩
    · rintro s' m news hJ F3 N3
      clear F8 N8 N8'
      have hsz : qs.take all.size = qs := List.take_of_length_le (by rw [← hsa.len', Array.length_toList]; exact Nat.le_refl _)
      rw [hsz] at hJ
      obtain ⟨jg, jos, jp, jt, jk, jb, ⟨t1, jd⟩, ⟨t2, jto⟩, tx, n1, kp, n2, ps, oc, cv, rest, rfl, hcls, tri, hov, htx, hkp, hpr, hsp, hrL⟩ := hJ
      obtain ⟨ys, os, r1, r2, r3, r4, r5, r6⟩ := plain_read hqv hql
      have hdl := (plain_plat hqv hql).2.2
      have hself := kept_self qs st0 (fun c hc => (nomatch hc)) hqv
      show wpAny _ _ (execs _ _) _ _ _
      refine' withLaw (w := w) ?k6 ?_
      case k6 => k_is
      intro hla
      refine wpAny_mono (lawF w _ _ _ hla _ mg mb fa cd g s'.heap L KEPT kp n2 s'.toks _ (run qs).due (run qs).kept ys os t1 t2 m s'.gens s'.drawn s'.os qk X' T' (Nat.le_trans hdl (by decide)) r2 r1 r3 r4 r5 r6 hself F3 ?_ N3 (.tail _ (.tail _ (.tail _ (.head _)))) (hkp.mono fun q hq => .tail _ (.tail _ (.tail _ (.tail _ (.tail _ (.tail _ hq)))))) ?_) (fun _ _ h => h) (fun _ _ e => e.elim)
      · exact all_cons (jk) (all_cons (jd) (all_cons (jto) (List.forall_mem_nil _)))
      · intro h' tk' m' F N
        exact hEnd _ ps m' F (N _ (.head _)).1 jg jos
    · intro i v hv
      exact spotsRefs hsa i v (by simpa using hv))

end Mine
end

theorem PySem.Challenge.cw_ny0082_01_holds : PySem.Challenge.rw_ny0082_01.Holds := by
  exact Mine.law1
