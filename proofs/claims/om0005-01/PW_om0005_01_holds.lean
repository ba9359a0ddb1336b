import PyProof.Rows.All
import Wide.All
import OpenK.AllK
import Wide.FinOn
import PySem.Challenge.RW_om0005_01
section
open PySem PySem.W PyProof.Rows
set_option Elab.async false
namespace Mine
set_option maxRecDepth 100000 in
set_option maxHeartbeats 8000000 in
open_top hd for PySem.Challenge.rw_om0005_01
end Mine

end
theorem Mine.walk_off : True := by
  w_top off
  trivial
section
open PySem PySem.W PyProof.Rows PySem.Calls PySem.Spec
set_option Elab.async false
set_option maxRecDepth 100000
set_option maxHeartbeats 8000000
namespace Mine

def Kp (g h : Heap) : Prop := ∀ b o, g.get? b = some o → h.get? b = some o
def Own (g h : Heap) (l : List (Addr × Obj)) : Prop := ∀ e ∈ l, h.get? e.1 = some e.2 ∧ g.get? e.1 = none
theorem Own.nil {g h : Heap} : Own g h [] := fun _ he => nomatch he
theorem own_of_news {g h : Heap} {L : Addr} {l : List (Addr × Obj)} (N : News g L h l) : Own g h l := fun e he => ⟨(N e he).1, (N e he).2.2⟩
theorem own_sub {g h : Heap} {l l' : List (Addr × Obj)} (N : Own g h l) (hs : ∀ e ∈ l', e ∈ l) : Own g h l' := fun e he => N e (hs e he)

abbrev AA (dp un : Nat) (gd : Option (List Code)) (outer : List Env) : Around := { handled := none, depth := dp, frames := some outer, guards := gd, units := un }

section
variable {prog : Program} {w : World} {A₀ A : Around} {s : Shared} {base h₀ g : Heap} {outer : List Env} {L : Addr} {m : Str → Option Value} {env : Env} {news muts : List (Addr × Obj)} {K : Frag} {p : Program} {loose : List Str} {mean : ExcName → Option Value} {mg mb : Str → Option Value}
  {R : Result → Shared → Prop} {name qual : Str} {params : Arguments} {body : List Stmt} {scope : Scope} {dV kV doc pm cdv ct oc : Value} {an od : Option Addr} {osl : Array (Option Value)} {f : Addr} {args : Args} {binds : List (Str × Value)}

theorem enterG (X : K.In g) (T : Top p loose mean mg mb g) (hk : Kp g s.heap) (hsz : g.objs.size ≤ s.heap.objs.size) (hm : Own g s.heap muts)
    (ho : K.lookup f = some ⟨oc, od, .func (fnOf name qual params body scope dV kV doc pm an cdv ct), osl⟩) (hcd : codeIn K cdv qual = true) (hroom : A.depth < recursionLimit)
    (hbind : BindsTo s (fnOf name qual params body scope dV kV doc pm an cdv ct) args binds) (hloc : ∀ y ∈ binds, scope.names.lookup y.1 = some .local)
    (h : ∀ L' h₁, Fr g L' h₁ (fun y => binds.reverse.lookup y) → News g L' h₁ muts → (∀ e ∈ muts, e.1 < L') →
      wpAny (model prog w) (A.deeper (envOf qual scope L' f cdv)) (execs body (envOf qual scope L' f cdv))
        (fun fl s' => R (.ok (.ret (match fl with | .ret v => v | _ => .none))) s')
        (fun e s' => wpAny (model prog w) (A.deeper (envOf qual scope L' f cdv)) (leaving (envOf qual scope L' f cdv) e) (fun _ s'' => R (.error e) s'') (fun e' s'' => R (.error e') s'') s')
        { s with heap := h₁, toks := s.toks + binds.length })
    (hco : scope.isCoroutine = false) (hgen : scope.isGenerator = false) (hkf : scope.kind = .function)
    (hcell : ∀ x ∈ scope.names, x.2 ≠ .cell) : codeAny (model prog w) A (.call (.ref f) args) R s := by
  have X' : K.In s.heap := X.keeps hk
  refine codeAny_call_def (fd := fnOf name qual params body scope dV kV doc pm an cdv ct) (body := body) (binds := binds) hroom (X' _ _ ho) rfl (T.nolimit.keeps hk) (codeRec_of X' hcd) rfl hbind hcell hloc (fun h₁ hns hk₁ => ?_) hco hgen hkf
  exact h s.heap.objs.size h₁ ⟨hns, fun b o e => hk₁ b o (hk b o e), hsz⟩ (fun e he => ⟨hk₁ _ _ (hm e he).1, Nat.ne_of_lt (Heap.lt_size (hm e he).1), (hm e he).2⟩) (fun e he => Heap.lt_size (hm e he).1)

theorem site (muts : List (Addr × Obj)) (B : Below A₀ base outer h₀) (F : Fr h₀ L s.heap m) (X : K.In h₀) (N : News h₀ L s.heap news) (T : Top p loose mean mg mb h₀)
    (hA : A.frames = some (env :: outer)) (hf : env.frame = some L) (hke : env.scope.kind = .function) (hs : ∀ e ∈ muts, e ∈ news) :
    ∃ g, Below A base (env :: outer) g ∧ K.In g ∧ Top p loose mean mg mb g ∧ Kp g s.heap ∧ g.objs.size ≤ s.heap.objs.size ∧ Own g s.heap muts ∧
      (∀ e ∈ news, e.1 ∉ muts.map (·.1) → g.get? e.1 = some e.2) ∧ Kp h₀ g ∧
      ∀ h' out rest, Kp g h' → Own g h' out → (∀ e ∈ rest, e ∈ news ∧ e.1 ∉ muts.map (·.1)) → Fr h₀ L h' m ∧ News h₀ L h' (out ++ rest) := by
  have N' : News h₀ L s.heap muts := fun e he => N e (hs e he)
  obtain ⟨FG, BG, st, _⟩ := groundX (R := fun _ _ => True) B F N' hA hf hke
  refine ⟨_, BG, X.keeps st, T.keeps st, fun b o e => of_hideAll _ e, Nat.le_of_eq (hideAll_size _ _), fun e he => ⟨(N' e he).1, hideAll_none _ (List.mem_map_of_mem he)⟩,
    fun e he hn => hideAll_get _ (N e he).1 hn, st, fun h' out rest hk ho hr => ⟨FG.keeps hk, fun e he => ?_⟩⟩
  rcases List.mem_append.mp he with h1 | h1
  · refine ⟨(ho e h1).1, fun q => ?_, ?_⟩
    · obtain ⟨oL, _, _, hL, _⟩ := FG.ns
      have := (ho e h1).2
      rw [q, hL] at this; cases this
    · cases q : h₀.get? e.1 with
      | none => rfl
      | some o => have := (ho e h1).2; rw [st _ _ q] at this; cases this
  · exact ⟨hk _ _ (hideAll_get _ (N e (hr e h1).1).1 (hr e h1).2), (N e (hr e h1).1).2⟩
theorem use_site {α : Type} {t : Sem α} {Q : α → Shared → Prop} {E : Value → Shared → Prop} (muts : List (Addr × Obj)) (B : Below A₀ base outer h₀) (F : Fr h₀ L s.heap m) (X : K.In h₀) (N : News h₀ L s.heap news) (T : Top p loose mean mg mb h₀)
    (hA : A.frames = some (env :: outer)) (hf : env.frame = some L) (hke : env.scope.kind = .function) (hs : ∀ e ∈ muts, e ∈ news)
    (h : ∀ g, Below A base (env :: outer) g → K.In g → Top p loose mean mg mb g → Kp g s.heap → g.objs.size ≤ s.heap.objs.size → Own g s.heap muts →
      (∀ e ∈ news, e.1 ∉ muts.map (·.1) → g.get? e.1 = some e.2) → Kp h₀ g →
      (∀ h' out rest, Kp g h' → Own g h' out → (∀ e ∈ rest, e ∈ news ∧ e.1 ∉ muts.map (·.1)) → Fr h₀ L h' m ∧ News h₀ L h' (out ++ rest)) → wpAny (model prog w) A t Q E s) : wpAny (model prog w) A t Q E s := by
  obtain ⟨g, h1, h2, h3, h4, h5, h6, h7, h8, h9⟩ := site (A := A) muts B F X N T hA hf hke hs
  exact h g h1 h2 h3 h4 h5 h6 h7 h8 h9
theorem use_pure {α : Type} {t : Sem α} {Q : α → Shared → Prop} {E : Value → Shared → Prop} (B : Below A₀ base outer h₀) (F : Fr h₀ L s.heap m) (X : K.In h₀) (N : News h₀ L s.heap news) (T : Top p loose mean mg mb h₀)
    (hA : A.frames = some (env :: outer)) (hf : env.frame = some L) (hke : env.scope.kind = .function)
    (h : Below A base (env :: outer) s.heap → K.In s.heap → Top p loose mean mg mb s.heap →
      (∀ h' out, Kp s.heap h' → Own s.heap h' out → Fr h₀ L h' m ∧ News h₀ L h' (out ++ news)) → wpAny (model prog w) A t Q E s) : wpAny (model prog w) A t Q E s := by
  obtain ⟨FG, BG, st, _⟩ := groundX (R := fun _ _ => True) B F (News.nil (h₀ := h₀) (L := L) (h := s.heap)) hA hf hke
  refine h BG (X.keeps F.keep) (T.keeps F.keep) fun h' out hk ho => ⟨F.keeps hk, fun e he => ?_⟩
  rcases List.mem_append.mp he with h1 | h1
  · refine ⟨(ho e h1).1, fun q => ?_, ?_⟩
    · obtain ⟨oL, _, _, hL, _⟩ := F.ns
      have := (ho e h1).2
      rw [q, hL] at this; cases this
    · cases q : h₀.get? e.1 with
      | none => rfl
      | some o => have := (ho e h1).2; rw [F.keep _ _ q] at this; cases this
  · exact ⟨hk _ _ (N e h1).1, (N e h1).2⟩
end
end Mine

end
section
open PySem PySem.W PyProof.Rows PySem.Calls PySem.Spec
set_option Elab.async false
set_option maxRecDepth 100000
set_option maxHeartbeats 8000000
set_option linter.unusedVariables false
namespace Mine
abbrev tup2 (a b : Int) (t u : Tok) : Obj := { cls := .type "tuple", data := .seq #[.int a t, .int b u] }
abbrev lst2 (p q : Addr) (n : Nat) : Obj := { cls := .type "list", data := .seq #[.ref p, .ref q] n }
noncomputable def tlt (a0 w0 a1 w1 : Int) : Bool := decide (a0 < a1) || (a0 == a1 && decide (w0 < w1))
section
variable {prog : Program} {w : World} {A : Around} {E : Value → Shared → Prop} {s : Shared} {p q : Addr} {a0 a1 w0 w1 : Int} {t0 t1 t2 t3 : Tok}
theorem lt_int' {a b : Int} {t u : Tok} {Q : Value → Shared → Prop} (h : Q (.bool (decide (a < b))) s) : wpAny (model prog w) A (richCompare .Lt (.int a t) (.int b u)) Q E s :=
  (lt_int h : wpAny (model prog w) A (compareOp .Lt (.int a t) (.int b u)) Q E s)
theorem tuple_lt_tree {P : PySem.Fin → Shared → Prop} (hp : s.heap.get? p = some (tup2 a0 w0 t0 t1)) (hq : s.heap.get? q = some (tup2 a1 w1 t2 t3)) (h : P (.done (.ret (.bool (tlt a0 w0 a1 w1)))) s) :
    wpAny (model prog w) A (Builtin.«tuple.__lt__» ⟨[.ref p, .ref q], []⟩) P E s := by
  show wpAny _ _ (isInstance (.ref q) (.type "tuple") >>= _) _ _ s
  refine wpAny_bind (wpAny_isInstance (T := "tuple") ⟨_, hq, rfl⟩ isSubtype_tuple_tuple ?_)
  simp only [Bool.not_true, Bool.false_eq_true, if_false]
  refine wpAny_bind (wpAny_tupleItemsOf hp rfl ?_)
  refine wpAny_bind (wpAny_tupleItemsOf hq rfl ?_)
  refine wpAny_bind ?_
  simp only [List.zip_cons_cons, List.zip_nil_right, List.forIn_cons, List.forIn_nil]
  refine wpAny_bind (wpAny_bind (wpAny_eqBool_int ?_))
  by_cases h0 : a0 = a1
  · subst h0
    simp only [beq_self_eq_true, Bool.not_true, Bool.false_eq_true, if_false]
    refine wpAny_pure ?_
    dsimp only
    refine wpAny_bind (wpAny_bind (wpAny_eqBool_int ?_))
    by_cases h1 : w0 = w1
    · subst h1
      simp only [beq_self_eq_true, Bool.not_true, Bool.false_eq_true, if_false]
      refine wpAny_pure ?_
      refine wpAny_pure (wpAny_pure ?_)
      have e : tlt a0 w0 a0 w0 = false := by simp [tlt]
      rw [e] at h
      exact h
    · have e : (!w0 == w1) = true := by simp [h1]
      rw [if_pos e]
      refine wpAny_bind (wpAny_rule (wpAny_bind (lt_int' ?_)))
      refine wpAny_bind (wpAny_pure (wpAny_pure (wpAny_pure (wpAny_pure ?_))))
      have e : tlt a0 w0 a0 w1 = decide (w0 < w1) := by simp [tlt]
      rw [e] at h
      exact h
  · have e : (!a0 == a1) = true := by simp [h0]
    rw [if_pos e]
    refine wpAny_bind (wpAny_rule (wpAny_bind (lt_int' ?_)))
    refine wpAny_bind (wpAny_pure (wpAny_pure (wpAny_pure (wpAny_pure ?_))))
    have e : tlt a0 w0 a1 w1 = decide (a0 < a1) := by simp [tlt, h0]
    rw [e] at h
    exact h
theorem tuple_lt {Q : Value → Shared → Prop} (hp : s.heap.get? p = some (tup2 a0 w0 t0 t1)) (hq : s.heap.get? q = some (tup2 a1 w1 t2 t3)) (hu : A.units < cLine) (h : Q (.bool (tlt a0 w0 a1 w1)) s) :
    wpAny (model prog w) A (compareOp .Lt (.ref p) (.ref q)) Q E s :=
  cmp_ofLt (wpAny_richCompare_same_room (op := .Lt) (T := "tuple") ⟨_, hp, rfl⟩ ⟨_, hq, rfl⟩ F.slot_tuple_lt
    (wpAny_call_entry F.slot_tuple_lt (s := s) ⟨_, hp, rfl⟩ F.entry_tuple_lt (tuple_lt_tree hp hq ⟨_, rfl, (fun e => nomatch e), h⟩) (F.args_tuple_lt_2 _ _)) hu)
theorem tuple_ne_tree {P : PySem.Fin → Shared → Prop} (hp : s.heap.get? p = some (tup2 a0 w0 t0 t1)) (hq : s.heap.get? q = some (tup2 a0 w0 t2 t3)) (h : P (.done (.ret (.bool false))) s) :
    wpAny (model prog w) A (Builtin.«tuple.__ne__» ⟨[.ref p, .ref q], []⟩) P E s := by
  show wpAny _ _ (isInstance (.ref q) (.type "tuple") >>= _) _ _ s
  refine wpAny_bind (wpAny_isInstance (T := "tuple") ⟨_, hq, rfl⟩ isSubtype_tuple_tuple ?_)
  simp only [Bool.not_true, Bool.false_eq_true, if_false]
  refine wpAny_bind (wpAny_tupleItemsOf hp rfl ?_)
  refine wpAny_bind (wpAny_tupleItemsOf hq rfl ?_)
  refine wpAny_bind ?_
  simp only [List.zip_cons_cons, List.zip_nil_right, List.forIn_cons, List.forIn_nil]
  refine wpAny_bind (wpAny_bind (wpAny_eqBool_int ?_))
  simp only [beq_self_eq_true, Bool.not_true, Bool.false_eq_true, if_false]
  refine wpAny_pure ?_
  dsimp only
  refine wpAny_bind (wpAny_bind (wpAny_eqBool_int ?_))
  simp only [beq_self_eq_true, Bool.not_true, Bool.false_eq_true, if_false]
  exact wpAny_pure (wpAny_pure (wpAny_pure h))
theorem tuple_ne {Q : Value → Shared → Prop} (hp : s.heap.get? p = some (tup2 a0 w0 t0 t1)) (hq : s.heap.get? q = some (tup2 a0 w0 t2 t3)) (hu : A.units < cLine) (h : Q (.bool false) s) :
    wpAny (model prog w) A (compareOp .NotEq (.ref p) (.ref q)) Q E s :=
  cmp_ofNotEq (wpAny_richCompare_same_room (op := .NotEq) (T := "tuple") ⟨_, hp, rfl⟩ ⟨_, hq, rfl⟩ F.slot_tuple_ne
    (wpAny_call_entry F.slot_tuple_ne (s := s) ⟨_, hp, rfl⟩ F.entry_tuple_ne (tuple_ne_tree hp hq ⟨_, rfl, (fun e => nomatch e), h⟩) (F.args_tuple_ne_2 _ _)) hu)
end
end Mine

end
section
open PySem PySem.W PyProof.Rows PySem.Calls PySem.Spec
set_option Elab.async false
set_option maxRecDepth 100000
set_option maxHeartbeats 8000000
set_option linter.unusedVariables false
namespace Mine
noncomputable def mp (ps : List (Str × Value)) (u : Str → Option Value) : Str → Option Value := fun y => match ps.lookup y with
  | some v => some v
  | none => u y
def Has (m : Str → Option Value) (ps : List (Str × Value)) : Prop := ∀ e ∈ ps, m e.1 = some e.2
theorem Has.nil {m : Str → Option Value} : Has m [] := fun _ h => nomatch h
theorem Has.cons {m : Str → Option Value} {x : Str} {v : Value} {ps : List (Str × Value)} (h : m x = some v) (t : Has m ps) : Has m ((x, v) :: ps) := fun e he => by
  cases he with
  | head => exact h
  | tail _ he => exact t e he
theorem Has.mp {m : Str → Option Value} : ∀ {ps : List (Str × Value)}, Has m ps → m = Mine.mp ps m := by
  intro ps h
  funext y
  unfold Mine.mp
  cases e : ps.lookup y with
  | none => rfl
  | some v =>
    have : (y, v) ∈ ps := by
      clear h
      induction ps with
      | nil => cases e
      | cons p r ih =>
        rw [List.lookup_cons] at e
        by_cases q : (y == p.1) = true
        · rw [q] at e
          cases e
          rw [beq_iff_eq.mp q]
          exact .head _
        · rw [Bool.not_eq_true] at q
          rw [q] at e
          exact .tail _ (ih e)
    exact h _ this
abbrev rIter (x left step : Int) : Obj := { cls := .type "range_iterator", dict := none, data := .fields #[rawInt x, rawInt left, rawInt step], slots := #[] }
section
variable {prog : Program} {w : World} {A : Around} {E : Value → Shared → Prop} {s : Shared} {env : Env} {g : Heap} {L : Addr} {m : Str → Option Value} {news : List (Addr × Obj)}

theorem fr_change {h h' : Heap} {d : Addr} {o : Obj} (F : Fr g L h m) (N : News g L h ((d, o) :: news)) (hs : Heap.SameBut d h h') : Fr g L h' m :=
  F.change hs (N _ (.head _)).2.1 (N _ (.head _)).2.2

theorem pyIter_range_K {r : Addr} {a b c : Int} {t u v : Tok} {Q : Value → Shared → Prop} (F : Fr g L s.heap m) (N : News g L s.heap news) (hr : IsRange s.heap r a b c t u v) (hsmall : Builtin.Range.small a b c = true)
    (h : ∀ I h', Fr g L h' m → News g L h' ((I, rIter a (Builtin.Range.rangeSize a b c) c) :: news) → (∀ p ∈ news, p.1 < I) → Q (.ref I) { s with heap := h' }) :
    wpAny (model prog w) A (pyIter (.ref r)) Q E s := by
  refine wpAny_pyIter_range hr hsmall ?_
  exact h _ _ (F.push _) (N.push F _) (fun p hp => Heap.lt_size (N p hp).1)

def RNext (g : Heap) (L : Addr) (s : Shared) (I : Addr) (o : Obj) (J : (Str → Option Value) → List (Addr × Obj) → Prop) (s₃ : Shared) : Prop :=
  ∃ m₂ news₂ h₂ tk₂, s₃ = { s with heap := h₂, toks := tk₂ } ∧ Fr g L h₂ m₂ ∧ News g L h₂ ((I, o) :: news₂) ∧ (∀ p ∈ news₂, p.1 ≠ I) ∧ J m₂ news₂
theorem RNext.intro {I : Addr} {o : Obj} {J : (Str → Option Value) → List (Addr × Obj) → Prop} {m₂ : Str → Option Value} {all : List (Addr × Obj)} {h₂ : Heap} {tk₂ : Nat} (news₂ : List (Addr × Obj))
    (F : Fr g L h₂ m₂) (N : News g L h₂ all) (hI : (I, o) ∈ all) (hs : ∀ e ∈ news₂, e ∈ all) (hap : ∀ p ∈ news₂, p.1 ≠ I) (hJ : J m₂ news₂) : RNext g L s I o J { s with heap := h₂, toks := tk₂ } :=
  ⟨m₂, news₂, h₂, tk₂, rfl, F, fun e he => N e (by cases he with | head => exact hI | tail _ he => exact hs e he), hap, hJ⟩
theorem for_range {R : Result → Shared → Prop} {x : Str} {px : Pos} {body : List Stmt} {I : Addr} {a c : Int} {n : Nat}
    (hh : A.handled = none) (hx : env.kindOf x = some .local) (hp : (env.scope.kind == .class || (env.scope.kind == .module && env.locals != env.globals)) = false)
    (hL : env.locals = L) (F : Fr g L s.heap m) (N : News g L s.heap ((I, rIter a n c) :: news)) (hap : ∀ p ∈ news, p.1 ≠ I)
    (J : Nat → (Str → Option Value) → List (Addr × Obj) → Prop) (h0 : J 0 m news)
    (turn : ∀ i m₁ news₁ h tk t, i < n → J i m₁ news₁ → (∀ p ∈ news₁, p.1 ≠ I) → Fr g L h (fun y => if y = x then some (.int (a + i * c) t) else m₁ y) → News g L h ((I, rIter (a + ((i + 1 : Nat) : Int) * c) ((n : Int) - ((i + 1 : Nat) : Int)) c) :: news₁) →
      wpAny (model prog w) A (execs body env) (fun f s₃ => match f with
        | .next | .cont => RNext g L s I (rIter (a + ((i + 1 : Nat) : Int) * c) ((n : Int) - ((i + 1 : Nat) : Int)) c) (J (i + 1)) s₃
        | .brk => R (.ok .next) s₃
        | .ret v => R (.ok (.ret v)) s₃) (notedBy (model prog w) A env fun e s' => R (.error e) s') { s with heap := h, toks := tk })
    (done : ∀ m₁ news₁ h tk, J n m₁ news₁ → Fr g L h m₁ → News g L h news₁ → R (.ok .next) { s with heap := h, toks := tk }) :
    codeAny (model prog w) A (.forLoop (.Name x px) (.ref I) body [] env) R s := by
  subst hL
  refine codeAny_forLoop (fun k s' => ∃ i m₁ news₁ h tk, s' = { s with heap := h, toks := tk } ∧ i ≤ n ∧ k = n + 1 - i ∧ J i m₁ news₁ ∧ (∀ p ∈ news₁, p.1 ≠ I) ∧ Fr g env.locals h m₁ ∧ News g env.locals h ((I, rIter (a + (i : Int) * c) ((n : Int) - (i : Int)) c) :: news₁)) ?_ (n + 1)
    ⟨0, m, news, s.heap, s.toks, rfl, Nat.zero_le _, rfl, h0, hap, F, by simpa using N⟩
  rintro k s' ⟨i, m₁, news₁, h, tk, rfl, hi, rfl, hJ, hap₁, F₁, N₁⟩
  have hit := (N₁ _ (.head _)).1
  have hIL := (N₁ _ (.head _)).2.1
  by_cases hlt : i < n
  · refine wpAny_pyNext_range_item hit (by omega) fun h₁ hit₁ hs₁ => ?_
    have F₂ := fr_change F₁ N₁ hs₁
    have N₂ := N₁.setHead hap₁ hs₁ hit₁
    refine wpAny_assign_Name (wpAny_storeName_local hx F₂.ns (fun h₂ hn₂ hs₂ => ?_) hp)
    have F₃ : Fr g env.locals h₂ _ := F₂.set hn₂ hs₂
    have N₃ : News g env.locals h₂ _ := N₂.set hs₂
    have e1 : a + ((i + 1 : Nat) : Int) * c = a + (i : Int) * c + c := by push_cast; rw [Int.add_mul, Int.one_mul, Int.add_assoc]
    have e2 : (n : Int) - ((i + 1 : Nat) : Int) = (n : Int) - (i : Int) - 1 := by push_cast; omega
    refine wpAny_mono (turn i m₁ news₁ h₂ _ _ hlt hJ hap₁ F₃ (by rw [e1, e2]; exact N₃)) (fun f s₃ h₃ => ?_) fun _ _ e => e
    cases f with
    | next => obtain ⟨m₂, news₂, h₂, tk₂, rfl, F₄, N₄, hap₄, hJ₄⟩ := h₃; exact ⟨n + 1 - (i + 1), by omega, i + 1, m₂, news₂, h₂, tk₂, rfl, hlt, rfl, hJ₄, hap₄, F₄, N₄⟩
    | cont => obtain ⟨m₂, news₂, h₂, tk₂, rfl, F₄, N₄, hap₄, hJ₄⟩ := h₃; exact ⟨n + 1 - (i + 1), by omega, i + 1, m₂, news₂, h₂, tk₂, rfl, hlt, rfl, hJ₄, hap₄, F₄, N₄⟩
    | brk => exact h₃
    | ret v => exact h₃
  · have hin : i = n := by omega
    subst hin
    refine wpAny_pyNext_range_end hh hit (by omega) fun h₁ he₁ => wpAny_execs_nil ?_
    refine done m₁ news₁ h₁ tk hJ ?_ ?_
    · exact ⟨F₁.ns.extBut he₁ (Ne.symm hIL), fun b o e => he₁ b o (fun q => by have := (N₁ _ (.head _)).2.2; rw [← q, e] at this; cases this) (F₁.keep b o e), F₁.above⟩
    · exact fun p hp => ⟨he₁ p.1 p.2 (hap₁ p hp) (N₁ p (.tail _ hp)).1, (N₁ p (.tail _ hp)).2⟩

def LNext (I : Nat → Shared → Prop) (n : Nat) (s : Shared) : Prop := ∃ m, m < n ∧ I m s
theorem for_loop {R : Result → Shared → Prop} {x : Str} {px : Pos} {it : Value} {body : List Stmt} (I : Nat → Shared → Prop)
    (turn : ∀ n s, I n s → wpAny (model prog w) A (pyNext it) (fun r s₁ => match r with
      | none => wpAny (model prog w) A (execs [] env) (fun f s₃ => R (.ok f) s₃) (notedBy (model prog w) A env fun e s' => R (.error e) s') s₁
      | some v => wpAny (model prog w) A (assign (.Name x px) env v) (fun _ s₂ => wpAny (model prog w) A (execs body env) (fun f s₃ => match f with
          | .next | .cont => LNext I n s₃
          | .brk => R (.ok .next) s₃
          | .ret v => R (.ok (.ret v)) s₃) (notedBy (model prog w) A env fun e s' => R (.error e) s') s₂) (notedBy (model prog w) A env fun e s' => R (.error e) s') s₁) (notedBy (model prog w) A env fun e s' => R (.error e) s') s)
    (n : Nat) (h : I n s) : codeAny (model prog w) A (.forLoop (.Name x px) it body [] env) R s :=
  codeAny_forLoop I turn n h
theorem fr_none {h : Heap} (F : Fr g L h m) : g.get? L = none := Heap.get?_none_of_le F.above
theorem fr_size {h : Heap} (F : Fr g L h m) : g.objs.size ≤ h.objs.size := Nat.le_of_lt (Nat.lt_of_le_of_lt F.above F.ns.lt)
theorem range_rev_call {r : Addr} {t u v : Tok} {Q : Value → Shared → Prop} (hr : IsRange s.heap r 0 1 1 t u v)
    (h : Q (.ref s.heap.objs.size) { s with heap := s.heap.push (rIter 0 1 (-1)) }) : wpAny (model prog w) A (call (.builtin "range.__reversed__") [.ref r]) Q E s := by
  refine wpAny_call_entry F.slot_range_reversed (s := s) ⟨_, hr, rfl⟩ F.entry_range_reversed ?_ (F.args_range_reversed_1 _)
  unfold Builtin.«range.__reversed__»
  refine wpAny_bind (wpAny_of_eq (a := Value.ref r) rfl ?_)
  unfold Builtin.Range.rangeFields
  refine wpAny_bind (wpAny_bind (wpAny_field hr rfl (x := .int 0 t) rfl (wpAny_bind (wpAny_of_eq (a := some (0 : Int)) rfl ?_))))
  refine wpAny_bind (wpAny_field hr rfl (x := .int 1 u) rfl (wpAny_bind (wpAny_of_eq (a := some (1 : Int)) rfl ?_)))
  refine wpAny_bind (wpAny_field hr rfl (x := .int 1 v) rfl (wpAny_bind (wpAny_of_eq (a := some (1 : Int)) rfl ?_)))
  refine wpAny_pure ?_
  show wpAny _ _ (newFields "range_iterator" [rawInt 0, rawInt 1, rawInt (-1)] >>= fun x => ret x) _ _ s
  unfold newFields
  refine wpAny_bind (wpAny_newObj_type (wpAny_pure ⟨_, rfl, h⟩) (by size_fits))

theorem sub_rit_reversed : isSubtype (.type "range_iterator") (.type "reversed") = pure false := by rw [isSubtype_type]; kernel_rfl

theorem code_reversed_range {r : Addr} {t u v : Tok} {Q₁ : Value → Shared → Prop} (hr : IsRange s.heap r 0 1 1 t u v)
    (h : Q₁ (.ref s.heap.objs.size) { s with heap := s.heap.push (rIter 0 1 (-1)) }) :
    codeAny (model prog w) A (.call (.builtin "reversed.__new__") ⟨[.type "reversed", .ref r], []⟩) (wants Q₁ E) s := by
  refine codeAny_of_tree ?_
  show wpAny _ A.in1 (do checkBuiltinCall "reversed.__new__" ⟨[.type "reversed", .ref r], []⟩; again (.builtin "reversed.__new__" ⟨[.type "reversed", .ref r], []⟩)) _ _ s
  refine wpAny_bind (wpAny_of_eq (F.newCall_reversed_1 _) (wpAny_pure ⟨plainId_quiet F.plain_reversed_new _, codeAny_builtin F.entry_reversed_new ?_⟩))
  rw [Around.under_plainId F.plain_reversed_new _]
  unfold Builtin.«reversed.__new__»
  refine wpAny_bind (wpAny_of_eq (newClass_reversed _) ?_)
  try dsimp only
  refine wpAny_bind (wpAny_of_eq (a := ()) (by first | rfl | kernel_rfl) ?_)
  refine wpAny_bind (wpAny_of_eq (a := ()) (by first | rfl | kernel_rfl) ?_)
  try dsimp only
  refine wpAny_bind (wpAny_specialOf (T := "range") (s := s) ⟨_, hr, rfl⟩ F.slot_range_reversed.lookup ?_)
  try dsimp only
  refine wpAny_bind (wpAny_of_eq (F.slot_range_reversed.bind _) ?_)
  try dsimp only
  rw [if_neg (show ¬ ((Value.builtin "range.__reversed__" == Value.none) = true) from Bool.false_ne_true)]
  refine wpAny_bind (wpAny_rule ?_)
  refine wpAny_bind (m := runValue (.call (.builtin "range.__reversed__") ⟨[.ref r], []⟩)) (show wpAny _ _ (call (.builtin "range.__reversed__") [.ref r]) _ _ _ from range_rev_call hr ?_)
  first
  | exact wpAny_pure h
  | exact wpAny_bind (wpAny_pure (wpAny_pure h))

theorem call_reversed_range {r : Addr} {t u v : Tok} {Q : Value → Shared → Prop} (hr : IsRange s.heap r 0 1 1 t u v)
    (h : Q (.ref s.heap.objs.size) { s with heap := s.heap.push (rIter 0 1 (-1)) }) : wpAny (model prog w) A (call (.type "reversed") [.ref r]) Q E s := by
  refine callType_other (U := "range_iterator") (Q₁ := fun obj s₁ => obj = .ref s.heap.objs.size ∧ s₁ = { s with heap := s.heap.push (rIter 0 1 (-1)) }) (by decide +kernel) F.create_reversed ⟨_, _, F.mro_reversed⟩ F.made_reversed sub_rit_reversed (F.typeCall_reversed_1 _) (code_reversed_range hr ⟨rfl, rfl⟩) ?_
  rintro obj s₁ ⟨rfl, rfl⟩
  exact ⟨⟨_, Heap.get?_push_size _ rfl, rfl⟩, h⟩
end
end Mine

end
section
open PySem PySem.W PyProof.Rows PySem.Calls PySem.Spec
set_option Elab.async false
set_option maxRecDepth 100000
set_option maxHeartbeats 8000000
set_option linter.unusedVariables false
namespace Mine
theorem siftdown_core {w : World} {mean : ExcName → Option Value} {mg mb : Str → Option Value} {dp un : Nat} {gd : Option (List Code)} {outer : List Env} {A₀ : Around} {base g : Heap} {s : Shared} {a0 a1 w0 w1 k : Int} {t0 t1 t2 t3 tz tk0 : Tok} {H p q : Addr} {n : Nat} {Q E : Value → Shared → Prop}
   (B : Below A₀ base outer g) (X : (hd.heap_39 w.params).In g) (T : Top hd.view_39 (looseW hd.view_39 [Str.ofString "b2a_base64", Str.ofString "b64encode"]) mean mg mb g)
   (hk : Kp g s.heap) (hsz : g.objs.size ≤ s.heap.objs.size)
   (hO : Own g s.heap [(H, lst2 q p n), (p, tup2 a0 w0 t0 t1), (q, tup2 a1 w1 t2 t3)])
   (hHp : H ≠ p) (hHq : H ≠ q) (hpq : p ≠ q) (hk1 : k = 1)
   (hdp : dp + 1 < recursionLimit) (hun : un + 10 < cLine)
   (ret : ∀ h' tk, Kp g h' → Own g h' [(H, if tlt a0 w0 a1 w1 = true then lst2 p q n else lst2 q p n), (p, tup2 a0 w0 t0 t1), (q, tup2 a1 w1 t2 t3)] → Q .none { s with heap := h', toks := tk }) :
   wpAny (model PySem.Challenge.rw_om0005_01.row.prog w) (AA dp un gd outer) (call (.ref 79) [.ref H, .int 0 tz, .int k tk0]) Q E s := by
  revert X; k_fill; intro X
  subst hk1
  replace hHp := neN hHp
  replace hHq := neN hHq
  replace hpq := neN hpq
  refine wpAny_call ?_
  refine' enterG (binds := [(Str.ofString "heap", .ref H), (Str.ofString "startpos", .int 0 tz), (Str.ofString "pos", .int 1 tk0)]) ?k3 ?k5 ?kk ?ks ?km ?k6 ?k7 ?k8 ?k9 ?kB ?_ ?c2 ?c3 ?c4 ?c5
  (case k3 => assumption); (case k5 => assumption); (case kk => assumption); (case ks => first | exact Nat.le_refl _ | assumption); (case km => exact hO)
  (case k6 => k_is); (case k7 => k_is); (case k8 => ktr_room); (case k9 => exact BindsTo.of_eq rfl); (case c5 => decide); (case kB => exact locs rfl); (case c2 => exact rfl); (case c3 => exact rfl); (case c4 => exact rfl)
  k_whole
  intro L' h' F' N' hlt'
  have l1 := ltN (hlt' _ (.head _))
  have l2 := ltN (hlt' _ (.tail _ (.head _)))
  have l3 := ltN (hlt' _ (.tail _ (.tail _ (.head _))))
  clear hlt' hO
  dsimp only at l1 l2 l3
  (try dsimp only)
  (try k_fold)
  k_with "compareOp Lt ref ref" => (refine' tuple_lt ?k1 ?k2 ?k3 ?_; (case k1 => exact News.get (by assumption) (by k_mem)); (case k2 => exact News.get (by assumption) (by k_mem)); (case k3 => (show un + 3 < cLine; omega)))
  k_steps
  all_goals (
    show Q .none _
    refine ret _ _ (fun b o e => Fr.keep (by assumption) b o e) ?_
    first
      | (rw [if_pos (by assumption)]; exact own_of_news (by assumption))
      | (rw [if_neg (by simp_all)]; exact own_of_news (by assumption)))
end Mine

end
section
open PySem PySem.W PyProof.Rows PySem.Calls PySem.Spec
set_option Elab.async false
set_option maxRecDepth 100000
set_option maxHeartbeats 8000000
set_option linter.unusedVariables false
namespace Mine
theorem siftup_core {w : World} {mean : ExcName → Option Value} {mg mb : Str → Option Value} {dp un : Nat} {gd : Option (List Code)} {outer : List Env} {A₀ : Around} {base g : Heap} {s : Shared} {a0 a1 w0 w1 k : Int} {t0 t1 t2 t3 tz : Tok} {H p q : Addr} {n : Nat} {Q E : Value → Shared → Prop}
   (B : Below A₀ base outer g) (X : (hd.heap_39 w.params).In g) (T : Top hd.view_39 (looseW hd.view_39 [Str.ofString "b2a_base64", Str.ofString "b64encode"]) mean mg mb g)
   (hk : Kp g s.heap) (hsz : g.objs.size ≤ s.heap.objs.size)
   (hO : Own g s.heap [(H, lst2 p q n), (p, tup2 a0 w0 t0 t1), (q, tup2 a1 w1 t2 t3)])
   (hHp : H ≠ p) (hHq : H ≠ q) (hpq : p ≠ q) (hk0 : k = 0)
   (hdp : dp + 2 < recursionLimit) (hun : un + 20 < cLine)
   (ret : ∀ h' tk, Kp g h' → Own g h' [(H, if tlt a0 w0 a1 w1 = true then lst2 p q n else lst2 q p n), (p, tup2 a0 w0 t0 t1), (q, tup2 a1 w1 t2 t3)] → Q .none { s with heap := h', toks := tk }) :
   wpAny (model PySem.Challenge.rw_om0005_01.row.prog w) (AA dp un gd outer) (call (.ref 86) [.ref H, .int k tz]) Q E s := by
  revert X; k_fill; intro X
  subst hk0
  replace hHp := neN hHp
  replace hHq := neN hHq
  replace hpq := neN hpq
  refine wpAny_call ?_
  refine' enterG (binds := [(Str.ofString "heap", .ref H), (Str.ofString "pos", .int 0 tz)]) ?k3 ?k5 ?kk ?ks ?km ?k6 ?k7 ?k8 ?k9 ?kB ?_ ?c2 ?c3 ?c4 ?c5
  (case k3 => assumption); (case k5 => assumption); (case kk => assumption); (case ks => first | exact Nat.le_refl _ | assumption); (case km => exact hO)
  (case k6 => k_is); (case k7 => k_is); (case k8 => ktr_room); (case k9 => exact BindsTo.of_eq rfl); (case c5 => decide); (case kB => exact locs rfl); (case c2 => exact rfl); (case c3 => exact rfl); (case c4 => exact rfl)
  k_whole
  intro L' h' F' N' hlt'
  have l1 := hlt' _ (.head _)
  have l2 := hlt' _ (.tail _ (.head _))
  have l3 := hlt' _ (.tail _ (.tail _ (.head _)))
  clear hlt'
  dsimp only at l1 l2 l3
  replace l1 := ltN l1
  replace l2 := ltN l2
  replace l3 := ltN l3
  (try dsimp only)
  (try k_fold)
  k_steps
  refine' use_site [(H, lst2 q p n), (p, tup2 a0 w0 t0 t1), (q, tup2 a1 w1 t2 t3)] B ?F X ?N T rfl rfl rfl (fun _ h => h) ?_
  (case F => assumption)
  (case N => assumption)
  intro g2 B2 X2 T2 hk2 hs2 hO2 _ hkg2 back2
  refine siftdown_core B2 X2 T2 hk2 hs2 hO2 hHp hHq hpq (by decide) (by show dp + 1 + 1 < recursionLimit; omega) (by show un + 3 + 10 < cLine; omega) ?_
  intro h9 tk9 hk9 hO9
  obtain ⟨F9, N9⟩ := back2 h9 _ [] hk9 hO9 (fun _ h => nomatch h)
  clear back2
  k_steps
  all_goals (
    show Q .none _
    exact ret _ _ (fun b o e => Fr.keep (by assumption) b o e) (own_of_news (by assumption)))
end Mine

end
section
open PySem PySem.W PyProof.Rows PySem.Calls PySem.Spec
set_option Elab.async false
set_option maxRecDepth 100000
set_option maxHeartbeats 8000000
set_option linter.unusedVariables false
namespace Mine
theorem heapreplace_core {w : World} {mean : ExcName → Option Value} {mg mb : Str → Option Value} {dp un : Nat} {gd : Option (List Code)} {outer : List Env} {A₀ : Around} {base g : Heap} {s : Shared} {a0 a1 w0 w1 : Int} {t0 t1 t2 t3 : Tok} {H p q x : Addr} {n : Nat} {Q E : Value → Shared → Prop}
   (B : Below A₀ base outer g) (X : (hd.heap_39 w.params).In g) (T : Top hd.view_39 (looseW hd.view_39 [Str.ofString "b2a_base64", Str.ofString "b64encode"]) mean mg mb g)
   (hk : Kp g s.heap) (hsz : g.objs.size ≤ s.heap.objs.size)
   (hO : Own g s.heap [(H, lst2 x q n), (p, tup2 a0 w0 t0 t1), (q, tup2 a1 w1 t2 t3)])
   (hHp : H ≠ p) (hHq : H ≠ q) (hpq : p ≠ q)
   (hdp : dp + 3 < recursionLimit) (hun : un + 30 < cLine)
   (ret : ∀ h' tk, Kp g h' → Own g h' [(H, if tlt a0 w0 a1 w1 = true then lst2 p q n else lst2 q p n), (p, tup2 a0 w0 t0 t1), (q, tup2 a1 w1 t2 t3)] → Q (.ref x) { s with heap := h', toks := tk }) :
   wpAny (model PySem.Challenge.rw_om0005_01.row.prog w) (AA dp un gd outer) (call (.ref 65) [.ref H, .ref p]) Q E s := by
  revert X; k_fill; intro X
  replace hHp := neN hHp
  replace hHq := neN hHq
  replace hpq := neN hpq
  refine wpAny_call ?_
  refine' enterG (binds := [(Str.ofString "heap", .ref H), (Str.ofString "item", .ref p)]) ?k3 ?k5 ?kk ?ks ?km ?k6 ?k7 ?k8 ?k9 ?kB ?_ ?c2 ?c3 ?c4 ?c5
  (case k3 => assumption); (case k5 => assumption); (case kk => assumption); (case ks => first | exact Nat.le_refl _ | assumption); (case km => exact hO)
  (case k6 => k_is); (case k7 => k_is); (case k8 => ktr_room); (case k9 => exact BindsTo.of_eq rfl); (case c5 => decide); (case kB => exact locs rfl); (case c2 => exact rfl); (case c3 => exact rfl); (case c4 => exact rfl)
  k_whole
  intro L' h' F' N' hlt'
  have l1 := ltN (hlt' _ (.head _))
  have l2 := ltN (hlt' _ (.tail _ (.head _)))
  have l3 := ltN (hlt' _ (.tail _ (.tail _ (.head _))))
  clear hlt' hO
  dsimp only at l1 l2 l3
  (try dsimp only)
  (try k_fold)
  k_steps
  refine' use_site [(H, lst2 p q n), (p, tup2 a0 w0 t0 t1), (q, tup2 a1 w1 t2 t3)] B ?F X ?N T rfl rfl rfl (fun _ h => h) ?_
  (case F => assumption)
  (case N => assumption)
  intro g2 B2 X2 T2 hk2 hs2 hO2 _ hkg2 back2
  refine siftup_core B2 X2 T2 hk2 hs2 hO2 hHp hHq hpq rfl (by show dp + 1 + 2 < recursionLimit; omega) (by show un + 3 + 20 < cLine; omega) ?_
  intro h9 tk9 hk9 hO9
  obtain ⟨F9, N9⟩ := back2 h9 _ [] hk9 hO9 (fun _ h => nomatch h)
  clear back2
  k_steps
  all_goals (
    show Q (.ref x) _
    exact ret _ _ (fun b o e => Fr.keep (by assumption) b o e) (own_of_news (by assumption)))

section
local macro_rules | `(tactic| walk_at "exec For Name Call cons nil") => `(tactic| k_dflt (refine wpAny_For ?_))
theorem heapify_core {w : World} {mean : ExcName → Option Value} {mg mb : Str → Option Value} {dp un : Nat} {gd : Option (List Code)} {outer : List Env} {A₀ : Around} {base g : Heap} {s : Shared} {a0 a1 w0 w1 : Int} {t0 t1 t2 t3 : Tok} {H p q : Addr} {n : Nat} {Q E : Value → Shared → Prop}
   (B : Below A₀ base outer g) (X : (hd.heap_39 w.params).In g) (T : Top hd.view_39 (looseW hd.view_39 [Str.ofString "b2a_base64", Str.ofString "b64encode"]) mean mg mb g)
   (hk : Kp g s.heap) (hsz : g.objs.size ≤ s.heap.objs.size)
   (hO : Own g s.heap [(H, lst2 p q n), (p, tup2 a0 w0 t0 t1), (q, tup2 a1 w1 t2 t3)])
   (hHp : H ≠ p) (hHq : H ≠ q) (hpq : p ≠ q)
   (hdp : dp + 3 < recursionLimit) (hun : un + 30 < cLine)
   (ret : ∀ h' tk, Kp g h' → Own g h' [(H, if tlt a0 w0 a1 w1 = true then lst2 p q n else lst2 q p n), (p, tup2 a0 w0 t0 t1), (q, tup2 a1 w1 t2 t3)] → Q .none { s with heap := h', toks := tk }) :
   wpAny (model PySem.Challenge.rw_om0005_01.row.prog w) (AA dp un gd outer) (call (.ref 72) [.ref H]) Q E s := by
  replace hHp := neN hHp
  replace hHq := neN hHq
  replace hpq := neN hpq
  refine wpAny_call ?_
  refine' enterG (binds := [(Str.ofString "x", .ref H)]) ?k3 ?k5 ?kk ?ks ?km ?k6 ?k7 ?k8 ?k9 ?kB ?_ ?c2 ?c3 ?c4 ?c5
  (case k3 => assumption); (case k5 => assumption); (case kk => assumption); (case ks => first | exact Nat.le_refl _ | assumption); (case km => exact hO)
  (case k6 => k_is); (case k7 => k_is); (case k8 => ktr_room); (case k9 => exact BindsTo.of_eq rfl); (case c5 => decide); (case kB => exact locs rfl); (case c2 => exact rfl); (case c3 => exact rfl); (case c4 => exact rfl)
  k_whole
  intro L' h' F' N' hlt'
  have l1 := ltN (hlt' _ (.head _))
  have l2 := ltN (hlt' _ (.tail _ (.head _)))
  have l3 := ltN (hlt' _ (.tail _ (.tail _ (.head _))))
  clear hlt' hO
  dsimp only at l1 l2 l3
  (try dsimp only)
  (try k_fold)
  k_steps
  rename_i hr0 F0 N0 _
  refine call_reversed_range (hr0 : IsRange _ _ 0 1 1 _ _ _) ?_
  refine wpAny_pyIter_rangeiter (x := 0) (left := 1) (step := -1) (Heap.get?_push_size _ rfl) ?_
  refine for_range (n := 1) (a := 0) (c := -1) (L := L') (g := g) rfl rfl rfl rfl (F0.push _) (N0.push F0 _) (fun p hp => Nat.ne_of_lt (Heap.lt_size (N0 p hp).1))
    (fun i m₁ news₁ => (i = 0 → Has m₁ [(Str.ofString "x", .ref H)] ∧ news₁ = [(H, lst2 p q n), (p, tup2 a0 w0 t0 t1), (q, tup2 a1 w1 t2 t3)]) ∧ (i = 1 → news₁ = [(H, if tlt a0 w0 a1 w1 = true then lst2 p q n else lst2 q p n), (p, tup2 a0 w0 t0 t1), (q, tup2 a1 w1 t2 t3)]))
    ⟨(fun _ => ⟨Has.cons rfl Has.nil, rfl⟩), (fun e => absurd e (by decide))⟩ ?turn ?done
  case done =>
    intro m₁ news₁ h tk hJ F1 N1
    have hJ := hJ.2 rfl
    subst hJ
    dsimp only
    refine wpAny_execs_nil ?_
    exact ret _ _ (fun b o e => F1.keep b o e) (own_of_news N1)
  case turn =>
    intro i m₁ news₁ h tk t hi hJ hap F1 N1
    obtain rfl : i = 0 := by omega
    obtain ⟨hm, rfl⟩ := hJ.1 rfl
    rw [hm.mp] at F1
    clear hJ hm F0 hr0
    k_steps
    refine' use_site [(H, lst2 p q n), (p, tup2 a0 w0 t0 t1), (q, tup2 a1 w1 t2 t3)] B ?F X ?N T rfl rfl rfl ?S ?_
    (case F => assumption)
    (case N => assumption)
    (case S => exact fun _ h => .tail _ h)
    intro g2 B2 X2 T2 hk2 hs2 hO2 _ hkg2 back2
    refine siftup_core B2 X2 T2 hk2 hs2 hO2 hHp hHq hpq (by omega) (by show dp + 1 + 2 < recursionLimit; omega) (by show un + 3 + 20 < cLine; omega) ?_
    intro h9 tk9 hk9 hO9
    obtain ⟨F9, N9⟩ := back2 h9 _ [(_, rIter (0 + ((0 + 1 : Nat) : Int) * -1) (((1 : Nat) : Int) - ((0 + 1 : Nat) : Int)) (-1))] hk9 hO9 (fun e he => by
      rw [List.mem_singleton] at he
      subst he
      refine ⟨.head _, fun hm => ?_⟩
      obtain ⟨x, hx, hy⟩ := List.mem_map.mp hm
      exact hap x hx hy)
    clear back2
    k_steps
    refine RNext.intro [(H, if tlt a0 w0 a1 w1 = true then lst2 p q n else lst2 q p n), (p, tup2 a0 w0 t0 t1), (q, tup2 a1 w1 t2 t3)] F9 N9 (List.mem_append.mpr (.inr (.head _))) (fun e he => List.mem_append.mpr (.inl he)) ?_ ⟨(fun e => absurd e (by decide)), (fun _ => rfl)⟩
    · intro e he
      have := hap
      simp only [List.mem_cons, List.not_mem_nil, or_false] at he this
      rcases he with rfl | rfl | rfl
      · exact this (H, lst2 p q n) (.inl rfl)
      · exact this _ (.inr (.inl rfl))
      · exact this _ (.inr (.inr rfl))
end
end Mine

end
section
open PySem PySem.W PyProof.Rows PySem.Calls PySem.Spec
set_option Elab.async false
set_option maxRecDepth 100000
set_option maxHeartbeats 8000000
set_option linter.unusedVariables false
namespace Mine
noncomputable def mstep (A B : List Int) (st : Nat × Nat × Int) : Nat × Nat × Int := if A.getD st.1 0 ≤ B.getD st.2.1 0 then (st.1 + 1, st.2.1, 2 * st.2.2) else (st.1, st.2.1 + 1, 2 * st.2.2 + 1)
noncomputable def mrun (A B : List Int) : Nat → Nat × Nat × Int
  | 0 => (0, 0, 0)
  | t + 1 => mstep A B (mrun A B t)
theorem mrun_sum (A B : List Int) : ∀ t, (mrun A B t).1 + (mrun A B t).2.1 = t
  | 0 => rfl
  | t + 1 => by
    have := mrun_sum A B t
    show (mstep A B (mrun A B t)).1 + (mstep A B (mrun A B t)).2.1 = t + 1
    unfold mstep
    split <;> dsimp only <;> omega
theorem mrun_bits (A B : List Int) : ∀ t, 0 ≤ (mrun A B t).2.2 ∧ (mrun A B t).2.2 < 2 ^ t
  | 0 => ⟨Int.le_refl _, by show (0 : Int) < 1; decide⟩
  | t + 1 => by
    have := mrun_bits A B t
    show 0 ≤ (mstep A B (mrun A B t)).2.2 ∧ (mstep A B (mrun A B t)).2.2 < 2 ^ (t + 1)
    rw [Int.pow_succ]
    unfold mstep
    split <;> dsimp only <;> omega
theorem tlt_10 (x y : Int) : tlt y 1 x 0 = decide (y < x) := by
  unfold tlt
  rw [show decide ((1 : Int) < 0) = false from rfl, Bool.and_false, Bool.or_false]
theorem tlt_01 (x y : Int) : tlt x 0 y 1 = decide (x ≤ y) := by
  unfold tlt
  rw [show decide ((0 : Int) < 1) = true from rfl, Bool.and_true]
  by_cases h : x < y
  · rw [decide_eq_true h, decide_eq_true (by omega : x ≤ y)]; rfl
  · rw [decide_eq_false h, Bool.false_or]
    by_cases e : x = y
    · subst e; simp
    · rw [decide_eq_false (by omega : ¬ x ≤ y)]; simpa using e
theorem pick10 (x y : Int) (a b : Obj) : (if tlt y 1 x 0 = true then b else a) = (if x ≤ y then a else b) := by
  rw [tlt_10]
  by_cases h : y < x
  · rw [if_pos (decide_eq_true h), if_neg (by omega)]
  · rw [if_neg (by simpa using h), if_pos (by omega)]
theorem pick01 (x y : Int) (a b : Obj) : (if tlt x 0 y 1 = true then a else b) = (if x ≤ y then a else b) := by
  rw [tlt_01]
  by_cases h : x ≤ y
  · rw [if_pos (decide_eq_true h), if_pos h]
  · rw [if_neg (by simpa using h), if_neg h]
theorem item_ints {prog : Program} {w : World} {A : Around} {E : Value → Shared → Prop} {s : Shared} {value slice : PySem.Expr} {l : Addr} {vs : List Value} {ns : List Int} {k : Int} {i : Nat} {t : Tok} {Q : Value → Shared → Prop}
    (hl : s.heap.IsList l vs.toArray) (hi : IntsAre vs ns) (e : k = i) (hlt : i < ns.length) (hb : i < 1000) (h : ∀ u, Q (.int (ns.getD i 0) u) s)
    (hs : subscripted slice false (.ref l) (.int k t) = operate [.ref l, .int k t] (getItem (.ref l) (.int k t)) := by with_unfolding_all rfl) :
    wpAny (model prog w) A (subscriptTail value slice (.ref l) (.int k t)) Q E s := by
  subst e
  obtain ⟨u, hu⟩ := hi.get i (ns.getD i 0) (by rw [List.getD_eq_getElem?_getD, List.getElem?_eq_getElem hlt]; rfl)
  exact tail_any hl.typeIs slot_list_getitem.lookup (wpAny_getItem_list hl (by omega) (by omega) (by simpa using hu) (h u)) hs
theorem nmem3 {a x y z : Nat} (h1 : a ≠ x) (h2 : a ≠ y) (h3 : a ≠ z) : a ∉ [x, y, z] := by simp [h1, h2, h3]
def MJ (A B : List Int) (ra H C : Addr) (t : Nat) (m : Str → Option Value) (news : List (Addr × Obj)) : Prop :=
  ∃ p0 p1 n nc ta tb tc td ti tj tbt, H ≠ p0 ∧ H ≠ p1 ∧ p0 ≠ p1 ∧ C ≠ H ∧ C ≠ p0 ∧ C ≠ p1 ∧
   Has m [(Str.ofString "heap", .ref H), (Str.ofString "came", .ref C), (Str.ofString "rulers", .ref ra), (Str.ofString "bits", .int (mrun A B t).2.2 tbt)] ∧
   news = [(C, W.listOf #[.int (mrun A B t).1 ti, .int (mrun A B t).2.1 tj] nc), (H, if A.getD (mrun A B t).1 0 ≤ B.getD (mrun A B t).2.1 0 then lst2 p0 p1 n else lst2 p1 p0 n), (p0, tup2 (A.getD (mrun A B t).1 0) 0 ta tb), (p1, tup2 (B.getD (mrun A B t).2.1 0) 1 tc td)]
section
local macro_rules | `(tactic| walk_at "compareOp NotEq ref ref") => `(tactic| k_dflt (refine' tuple_ne ?k1 ?k2 ?k3 ?_; (case k1 => exact News.get (by assumption) (by k_mem)); (case k2 => exact News.get (by assumption) (by k_mem)); (case k3 => assumption)))
local macro_rules | `(tactic| walk_at "exec For Name Call cons nil") => `(tactic| k_dflt (refine wpAny_For ?_))
theorem merged_core {w : World} {mean : ExcName → Option Value} {mg mb : Str → Option Value} {dp un : Nat} {gd : Option (List Code)} {outer : List Env} {A₀ : Around} {base : Heap} {s : Shared} {ra r0 r1 : Addr} {va vb : List Value} {A B : List Int} {Q E : Value → Shared → Prop}
   (Bw : Below A₀ base outer s.heap) (X : (hd.heap_39 w.params).In s.heap) (T : Top hd.view_39 (looseW hd.view_39 [Str.ofString "b2a_base64", Str.ofString "b64encode"]) mean mg mb s.heap)
   (hra : s.heap.IsList ra [Value.ref r0, Value.ref r1].toArray) (hr0 : s.heap.IsList r0 va.toArray) (hr1 : s.heap.IsList r1 vb.toArray) (hia : IntsAre va A) (hib : IntsAre vb B) (hla : A.length = 30) (hlb : B.length = 30)
   (hdp : dp + 4 < recursionLimit) (hun : un + 40 < cLine)
   (ret : ∀ t h' tk, Kp s.heap h' → Q (.int (mrun A B 29).2.2 t) { s with heap := h', toks := tk }) :
   wpAny (model PySem.Challenge.rw_om0005_01.row.prog w) (AA dp un gd outer) (call (.ref 100) [.ref ra]) Q E s := by
  revert X; k_fill; intro X
  have hkk : Kp s.heap s.heap := fun _ _ e => e
  refine wpAny_call ?_
  refine' enterG (binds := [(Str.ofString "rulers", .ref ra)]) ?k3 ?k5 ?kk ?ks ?km ?k6 ?k7 ?k8 ?k9 ?kB ?_ ?c2 ?c3 ?c4 ?c5
  (case k3 => assumption); (case k5 => assumption); (case kk => assumption); (case ks => first | exact Nat.le_refl _ | assumption); (case km => exact Own.nil)
  (case k6 => k_is); (case k7 => k_is); (case k8 => ktr_room); (case k9 => exact BindsTo.of_eq rfl); (case c5 => decide); (case kB => exact locs rfl); (case c2 => exact rfl); (case c3 => exact rfl); (case c4 => exact rfl)
  k_whole
  intro L' h' F' N' hlt'
  clear hlt' hkk
  (try dsimp only)
  (try k_fold)
  k_steps
  rename_i tb0 P1 h3 l0 ta0 P0 h2 lt1 H h1 lt2 h0 F0 N0
  have hP10 := neN (Nat.ne_of_lt lt1)
  have hH0 := neN (Nat.ne_of_gt lt2.1)
  have hH1 := neN (Nat.ne_of_gt lt2.2)
  obtain ⟨tA, tB, N0'⟩ : ∃ tA tB, News s.heap L' h0 [(H, lst2 P1 P0 0), (P1, tup2 (B.getD 0 0) 1 tb0 tA), (P0, tup2 (A.getD 0 0) 0 ta0 tB)] :=
    ⟨_, _, List.forall_mem_cons.mpr ⟨N0 _ (.head _), List.forall_mem_cons.mpr ⟨N0 _ (.tail _ (.tail _ (.head _))), List.forall_mem_cons.mpr ⟨N0 _ (.tail _ (.head _)), List.forall_mem_nil _⟩⟩⟩⟩
  clear N0
  refine' use_site [(H, lst2 P1 P0 0), (P1, tup2 (B.getD 0 0) 1 tb0 tA), (P0, tup2 (A.getD 0 0) 0 ta0 tB)] Bw F0 X N0' T rfl rfl rfl (fun e he => he) ?_
  intro g2 B2 X2 T2 hk2 hs2 hO2 _ hkg2 back2
  refine heapify_core B2 X2 T2 hk2 hs2 hO2 hH1 hH0 hP10 (by show dp + 1 + 3 < recursionLimit; omega) (by show un + 3 + 30 < cLine; omega) ?_
  intro h9 tk9 hk9 hO9
  obtain ⟨F9, N9⟩ := back2 h9 _ [] hk9 hO9 (fun _ h => nomatch h)
  clear back2 F0 N0' hk2 hs2 hO2 hkg2 hk9 hO9 B2 X2 T2
  rw [List.append_nil] at N9
  k_steps
  rename_i C h8 lC D h7 lD h6 h5 h4 F8 N8 hh tkk u1 u2 u3 hR FR NR hKR
  clear F8 N8
  refine pyIter_range_K FR NR hR rfl ?_
  intro I hI FI NI lI
  rw [pick10] at NI lI
  obtain ⟨tC, tD, NI'⟩ : ∃ tC tD, News s.heap L' hI ((I, rIter 0 29 1) :: [(C, W.listOf #[.int 0 tC, .int 0 tD] 0), (H, if A.getD 0 0 ≤ B.getD 0 0 then lst2 P0 P1 0 else lst2 P1 P0 0), (P0, tup2 (A.getD 0 0) 0 ta0 tB), (P1, tup2 (B.getD 0 0) 1 tb0 tA)]) :=
    ⟨_, _, List.forall_mem_cons.mpr ⟨NI _ (.head _), List.forall_mem_cons.mpr ⟨NI _ (.tail _ (.tail _ (.head _))), List.forall_mem_cons.mpr ⟨NI _ (.tail _ (.tail _ (.tail _ (.head _)))),
      List.forall_mem_cons.mpr ⟨NI _ (.tail _ (.tail _ (.tail _ (.tail _ (.tail _ (.head _)))))), List.forall_mem_cons.mpr ⟨NI _ (.tail _ (.tail _ (.tail _ (.tail _ (.head _))))), List.forall_mem_nil _⟩⟩⟩⟩⟩⟩
  have c1 := lI _ (.tail _ (.head _))
  have c2 := lI _ (.tail _ (.tail _ (.head _)))
  have c3 := lI _ (.tail _ (.tail _ (.tail _ (.tail _ (.head _)))))
  have c4 := lI _ (.tail _ (.tail _ (.tail _ (.head _))))
  have hII : ∀ p ∈ [(C, W.listOf #[.int 0 tC, .int 0 tD] 0), (H, if A.getD 0 0 ≤ B.getD 0 0 then lst2 P0 P1 0 else lst2 P1 P0 0), (P0, tup2 (A.getD 0 0) 0 ta0 tB), (P1, tup2 (B.getD 0 0) 1 tb0 tA)], p.1 ≠ I :=
    List.forall_mem_cons.mpr ⟨Nat.ne_of_lt c1, List.forall_mem_cons.mpr ⟨Nat.ne_of_lt c2, List.forall_mem_cons.mpr ⟨Nat.ne_of_lt c3, List.forall_mem_cons.mpr ⟨Nat.ne_of_lt c4, List.forall_mem_nil _⟩⟩⟩⟩
  refine for_range (n := 29) (a := 0) (c := 1) (L := L') (g := s.heap) rfl rfl rfl rfl FI NI' hII (MJ A B ra H C) ?h0 ?turn ?done
  case h0 => exact ⟨P0, P1, 0, 0, _, _, _, _, _, _, _, hH0, hH1, Ne.symm hP10, neN (Nat.ne_of_gt lC.1), neN (Nat.ne_of_gt lC.2.2), neN (Nat.ne_of_gt lC.2.1), Has.cons rfl (Has.cons rfl (Has.cons rfl (Has.cons rfl Has.nil))), rfl⟩
  case done =>
    intro m₁ news₁ h tk hJ F1 N1
    obtain ⟨p0, p1, n, nc, ta, tb, tc, td, ti, tj, tbt, _, _, _, _, _, _, hm, rfl⟩ := hJ
    rw [hm.mp] at F1
    dsimp only
    k_steps
    show Q (.int _ _) _
    exact ret _ _ _ (fun b o e => F1.keep b o e)
  case turn =>
    clear c1 c2 c3 c4 hII NI' NI FI lI FR NR hR hKR lC lD lt1 lt2 l0 hP10 hH0 hH1
    intro t m₁ news₁ h tkz tt ht hJ hap F1 N1
    obtain ⟨p0, p1, n, nc, ta, tb, tc, td, ti, tj, tbt, hH0, hH1, hp01, hCH, hC0, hC1, hm, rfl⟩ := hJ
    rw [hm.mp] at F1
    clear hm
    have hsum := mrun_sum A B t
    have hbit := mrun_bits A B t
    have hbig : (2 : Int) ^ t ≤ 536870912 := by
      have : (2 : Nat) ^ t ≤ 2 ^ 29 := Nat.pow_le_pow_right (by decide) (by omega)
      have e : ((2 ^ t : Nat) : Int) = (2 : Int) ^ t := by simp
      rw [← e]
      exact Int.ofNat_le.mpr this
    have hnext : mrun A B (t + 1) = mstep A B (mrun A B t) := rfl
    generalize mrun A B t = st at *
    obtain ⟨i, j, b⟩ := st
    dsimp only at *
    replace hH0 := neN hH0
    replace hH1 := neN hH1
    replace hp01 := neN hp01
    replace hCH := neN hCH
    replace hC0 := neN hC0
    replace hC1 := neN hC1
    have hI0 := neN (hap _ (.head _))
    have hI1 := neN (hap _ (.tail _ (.head _)))
    have hI2 := neN (hap _ (.tail _ (.tail _ (.head _))))
    have hI3 := neN (hap _ (.tail _ (.tail _ (.tail _ (.head _)))))
    clear hap
    dsimp only at hI0 hI1 hI2 hI3
    by_cases hle : A.getD i 0 ≤ B.getD j 0
    · have hnx : mrun A B (t + 1) = (i + 1, j, 2 * b) := by rw [hnext]; unfold mstep; rw [if_pos hle]
      rw [if_pos hle] at N1
      k_steps
      refine item_ints (i := i + 1) (Fr.lst (by assumption) hr0) hia (by show ((i : Int) + 1 : Int) = ((i + 1 : Nat) : Int); omega) (by omega) (by omega) ?_
      intro tn
      k_steps
      rename_i D' h' F2 N2 lD
      have q1 := neN (Nat.ne_of_lt lD.2.2.1)
      have q2 := neN (Nat.ne_of_gt lD.2.2.2.2)
      refine' use_site [(H, lst2 p0 p1 n), (D', tup2 (A.getD (i + 1) 0) 0 tn tb), (p1, tup2 (B.getD j 0) 1 tc td)] Bw F2 X N2 T rfl rfl rfl ?S ?_
      case S => exact List.forall_mem_cons.mpr ⟨.tail _ (.tail _ (.tail _ (.head _))), List.forall_mem_cons.mpr ⟨.head _, List.forall_mem_cons.mpr ⟨.tail _ (.tail _ (.tail _ (.tail _ (.tail _ (.head _))))), List.forall_mem_nil _⟩⟩⟩
      intro g2 B2 X2 T2 hk2 hs2 hO2 _ hkg2 back2
      refine heapreplace_core B2 X2 T2 hk2 hs2 hO2 q1 hH1 q2 (by show dp + 1 + 3 < recursionLimit; omega) (by show un + 3 + 30 < cLine; omega) ?_
      intro h9 tk9 hk9 hO9
      obtain ⟨F9, N9⟩ := back2 h9 _ [(I, rIter (0 + ((t + 1 : Nat) : Int) * 1) (((29 : Nat) : Int) - ((t + 1 : Nat) : Int)) 1), (C, W.listOf #[Value.int ((i : Int) + 1) (tkz + 1 + 1 + 1 + 1), Value.int j tj] nc), (p0, tup2 (A.getD i 0) 0 ta tb)] hk9 hO9 (by
        refine List.forall_mem_cons.mpr ⟨⟨.tail _ (.head _), ?_⟩, List.forall_mem_cons.mpr ⟨⟨.tail _ (.tail _ (.head _)), ?_⟩, List.forall_mem_cons.mpr ⟨⟨.tail _ (.tail _ (.tail _ (.tail _ (.head _)))), ?_⟩, List.forall_mem_nil _⟩⟩⟩
        · exact nmem3 (a := I) (x := H) (y := D') (z := p1) (by omega) (by omega) (by omega)
        · exact nmem3 (a := C) (x := H) (y := D') (z := p1) (by omega) (by omega) (by omega)
        · exact nmem3 (a := p0) (x := H) (y := D') (z := p1) (by omega) (by omega) (by omega))
      clear back2 F2 N2 hk2 hs2 hO2 hkg2 hk9 hO9 B2 X2 T2
      simp only [List.cons_append, List.nil_append, pick01] at N9
      have hun3 : un + 3 < cLine := by omega
      k_steps
      rename_i M2 h5 lM h4 F4 N4
      refine RNext.intro [(C, W.listOf #[.int ((i + 1 : Nat) : Int) (tkz + 1 + 1 + 1 + 1), .int j tj] nc), (H, if A.getD (i + 1) 0 ≤ B.getD j 0 then lst2 D' p1 n else lst2 p1 D' n), (D', tup2 (A.getD (i + 1) 0) 0 tn tb), (p1, tup2 (B.getD j 0) 1 tc td)] F4 N4 (.tail _ (.tail _ (.tail _ (.tail _ (.head _))))) ?_ ?_ ?_
      · exact List.forall_mem_cons.mpr ⟨.tail _ (.tail _ (.tail _ (.tail _ (.tail _ (.head _))))), List.forall_mem_cons.mpr ⟨.tail _ (.head _), List.forall_mem_cons.mpr ⟨.tail _ (.tail _ (.head _)), List.forall_mem_cons.mpr ⟨.tail _ (.tail _ (.tail _ (.head _))), List.forall_mem_nil _⟩⟩⟩⟩
      · exact List.forall_mem_cons.mpr ⟨hI0, List.forall_mem_cons.mpr ⟨hI1, List.forall_mem_cons.mpr ⟨neN (Nat.ne_of_gt lD.1), List.forall_mem_cons.mpr ⟨hI3, List.forall_mem_nil _⟩⟩⟩⟩
      · unfold MJ
        rw [hnx]
        exact ⟨D', p1, n, nc, _, _, _, _, _, _, _, q1, hH1, q2, hCH, neN (Nat.ne_of_lt lD.2.1), hC1, Has.cons rfl (Has.cons rfl (Has.cons rfl (Has.cons (Eq.trans rfl (congrArg (fun z => some (Value.int z _)) (Int.add_zero (2 * b)))) Has.nil))), rfl⟩
    · have hnx : mrun A B (t + 1) = (i, j + 1, 2 * b + 1) := by rw [hnext]; unfold mstep; rw [if_neg hle]
      rw [if_neg hle] at N1
      k_steps
      refine item_ints (i := j + 1) (Fr.lst (by assumption) hr1) hib (by show ((j : Int) + 1 : Int) = ((j + 1 : Nat) : Int); omega) (by omega) (by omega) ?_
      intro tn
      k_steps
      rename_i D' h' F2 N2 lD
      have q1 := neN (Nat.ne_of_lt lD.2.2.1)
      have q2 := neN (Nat.ne_of_gt lD.2.2.2.1)
      refine' use_site [(H, lst2 p1 p0 n), (D', tup2 (B.getD (j + 1) 0) 1 tn td), (p0, tup2 (A.getD i 0) 0 ta tb)] Bw F2 X N2 T rfl rfl rfl ?S ?_
      case S => exact List.forall_mem_cons.mpr ⟨.tail _ (.tail _ (.tail _ (.head _))), List.forall_mem_cons.mpr ⟨.head _, List.forall_mem_cons.mpr ⟨.tail _ (.tail _ (.tail _ (.tail _ (.head _)))), List.forall_mem_nil _⟩⟩⟩
      intro g2 B2 X2 T2 hk2 hs2 hO2 _ hkg2 back2
      refine heapreplace_core B2 X2 T2 hk2 hs2 hO2 q1 hH0 q2 (by show dp + 1 + 3 < recursionLimit; omega) (by show un + 3 + 30 < cLine; omega) ?_
      intro h9 tk9 hk9 hO9
      obtain ⟨F9, N9⟩ := back2 h9 _ [(I, rIter (0 + ((t + 1 : Nat) : Int) * 1) (((29 : Nat) : Int) - ((t + 1 : Nat) : Int)) 1), (C, W.listOf #[Value.int i ti, Value.int ((j : Int) + 1) (tkz + 1 + 1 + 1 + 1)] nc), (p1, tup2 (B.getD j 0) 1 tc td)] hk9 hO9 (by
        refine List.forall_mem_cons.mpr ⟨⟨.tail _ (.head _), ?_⟩, List.forall_mem_cons.mpr ⟨⟨.tail _ (.tail _ (.head _)), ?_⟩, List.forall_mem_cons.mpr ⟨⟨.tail _ (.tail _ (.tail _ (.tail _ (.tail _ (.head _))))), ?_⟩, List.forall_mem_nil _⟩⟩⟩
        · exact nmem3 (a := I) (x := H) (y := D') (z := p0) (by omega) (by omega) (by omega)
        · exact nmem3 (a := C) (x := H) (y := D') (z := p0) (by omega) (by omega) (by omega)
        · exact nmem3 (a := p1) (x := H) (y := D') (z := p0) (by omega) (by omega) (by omega))
      clear back2 F2 N2 hk2 hs2 hO2 hkg2 hk9 hO9 B2 X2 T2
      simp only [List.cons_append, List.nil_append, pick10] at N9
      have hun3 : un + 3 < cLine := by omega
      k_steps
      rename_i M2 h5 lM h4 F4 N4
      refine RNext.intro [(C, W.listOf #[.int i ti, .int ((j + 1 : Nat) : Int) (tkz + 1 + 1 + 1 + 1)] nc), (H, if A.getD i 0 ≤ B.getD (j + 1) 0 then lst2 p0 D' n else lst2 D' p0 n), (p0, tup2 (A.getD i 0) 0 ta tb), (D', tup2 (B.getD (j + 1) 0) 1 tn td)] F4 N4 (.tail _ (.tail _ (.tail _ (.tail _ (.head _))))) ?_ ?_ ?_
      · exact List.forall_mem_cons.mpr ⟨.tail _ (.tail _ (.tail _ (.tail _ (.tail _ (.head _))))), List.forall_mem_cons.mpr ⟨.tail _ (.head _), List.forall_mem_cons.mpr ⟨.tail _ (.tail _ (.tail _ (.head _))), List.forall_mem_cons.mpr ⟨.tail _ (.tail _ (.head _)), List.forall_mem_nil _⟩⟩⟩⟩
      · exact List.forall_mem_cons.mpr ⟨hI0, List.forall_mem_cons.mpr ⟨hI1, List.forall_mem_cons.mpr ⟨hI2, List.forall_mem_cons.mpr ⟨neN (Nat.ne_of_gt lD.1), List.forall_mem_nil _⟩⟩⟩⟩
      · unfold MJ
        rw [hnx]
        exact ⟨p0, D', n, nc, _, _, _, _, _, _, _, hH0, q1, Ne.symm q2, hCH, hC0, neN (Nat.ne_of_lt lD.2.1), Has.cons rfl (Has.cons rfl (Has.cons rfl (Has.cons rfl Has.nil))), rfl⟩
end
end Mine

end
section
open PySem PySem.W PyProof.Rows PySem.Calls PySem.Spec
open Sem (wp)
set_option Elab.async false
set_option maxRecDepth 100000
set_option maxHeartbeats 8000000
set_option linter.unusedVariables false
namespace Mine
section
variable {M : Model} {A : Around} {R : GenEnd} {Y : Protocol} {n : Nat} {s₀ : Shared} {c : Code} {fs : List Frame} {s : Shared} {env : Env}
  {K : Flow → Sem PySem.Fin} {H : Value → Sem PySem.Fin} {gd : Bool → Bool} {lv : List Value → List Value}

theorem seg_If {test : PySem.Expr} {body orelse : List Stmt} {pos : Pos}
    (h : wpAny M (A.over c fs) (isTrue test env (eval test env)) (fun b s' => if b = true then Seg M A R Y n s₀ c ((execs body env).wrap K H gd lv) fs s' else Seg M A R Y n s₀ c ((execs orelse env).wrap K H gd lv) fs s') (fun x s' => Seg M A R Y n s₀ c (H x) fs s') s) :
    Seg M A R Y n s₀ c ((exec (.If test body orelse pos) env).wrap K H gd lv) fs s := by
  rw [exec_If]
  show Seg M A R Y n s₀ c (.at pos fun _ => Sem.wrap K H gd lv (isTrue test env (eval test env) >>= fun b => if b = true then execs body env else execs orelse env)) fs s
  refine seg_at ?_
  rw [Sem.bind_eq_wrap', Sem.wrap_wrap]
  refine seg_wrap (wpAny_mono h (fun b s' hb => ?_) fun _ _ x => x)
  cases b with
  | true => exact hb
  | false => exact hb

theorem seg_For {target iter : PySem.Expr} {body orelse : List Stmt} {pos : Pos}
    (h : wpAny M (A.over c fs) (eval iter env) (fun x s₁ => wpAny M (A.over c fs) (pyIter x) (fun it s₂ => ∀ p, Seg M A R Y n s₀ (.forLoop target it body orelse env) (M.den (.forLoop target it body orelse env))
      (.ret (fun r => ((match r with | .ok f => (.pure f : Sem Flow) | .error e => .raise e).onRaise fun (x : Value) => do
        if (← field x 1) == Value.none then unsupported "frame.own-activation:exception-without-traceback"
        setFlight x env.frame).wrap K H gd lv) none (gd false) (lv []) c p [] :: fs) s₂) (fun x s' => Seg M A R Y n s₀ c (H x) fs s') s₁) (fun x s' => Seg M A R Y n s₀ c (H x) fs s') s)
    (hs : ∀ x, foldedSetIterable iter env x = pure x := by intro _; rfl) :
    Seg M A R Y n s₀ c ((exec (.For target iter body orelse pos) env).wrap K H gd lv) fs s := by
  rw [exec_For]
  show Seg M A R Y n s₀ c (.at pos fun _ => Sem.wrap K H gd lv (eval iter env >>= fun x => (foldedSetIterable iter env x >>= fun x => (standAt iter.pos >>= fun _ => (holding [x] (pyIter x) >>= fun it => runOwn (.forLoop target it body orelse env) env))))) fs s
  refine seg_at ?_
  rw [Sem.bind_eq_wrap', Sem.wrap_wrap]
  refine seg_wrap (wpAny_mono h (fun x s₁ h₁ => ?_) fun _ _ x => x)
  rw [hs x]
  show Seg M A R Y n s₀ c (.at iter.pos fun _ => Sem.wrap K H (fun g => gd (id g)) (fun l => lv (id l)) (holding [x] (pyIter x) >>= fun it => runOwn (.forLoop target it body orelse env) env)) fs s₁
  refine seg_at ?_
  rw [Sem.bind_eq_wrap', Sem.wrap_wrap]
  refine seg_wrap (wpAny_holding (wpAny_mono h₁ (fun it s₂ h₂ => ?_) fun _ _ x => x))
  exact seg_call h₂
theorem seg_For' {target iter : PySem.Expr} {body orelse : List Stmt} {pos : Pos} (hfs : splitAtGen fs = none) (hfg : fs.any Frame.guarded = false) (hgd : gd false = false)
    (h : wpAny M (A.over c fs) (eval iter env) (fun x s₁ => wpAny M (A.over c fs) (pyIter x) (fun it s₂ => ∀ fs', splitAtGen fs' = none → fs'.any Frame.guarded = false → Seg M A R Y n s₀ (.forLoop target it body orelse env) (M.den (.forLoop target it body orelse env)) fs' s₂) (fun x s' => Seg M A R Y n s₀ c (H x) fs s') s₁) (fun x s' => Seg M A R Y n s₀ c (H x) fs s') s)
    (hs : ∀ x, foldedSetIterable iter env x = pure x := by intro _; rfl) :
    Seg M A R Y n s₀ c ((exec (.For target iter body orelse pos) env).wrap K H gd lv) fs s :=
  seg_For (wpAny_mono h (fun _ _ h₁ => wpAny_mono h₁ (fun it s₂ h₂ p => h₂ _ (by simp [splitAtGen, hfs]) (by simp [Frame.guarded, hfg, hgd])) fun _ _ e => e) fun _ _ e => e) hs
theorem seg_While' {test : PySem.Expr} {body orelse : List Stmt} {pos : Pos} (hfs : splitAtGen fs = none) (hfg : fs.any Frame.guarded = false) (hgd : gd false = false)
    (h : ∀ fs', splitAtGen fs' = none → fs'.any Frame.guarded = false → Seg M A R Y n s₀ (.whileLoop test body orelse env) (M.den (.whileLoop test body orelse env)) fs' s) :
    Seg M A R Y n s₀ c ((exec (.While test body orelse pos) env).wrap K H gd lv) fs s :=
  seg_While fun p => h _ (by simp [splitAtGen, hfs]) (by simp [Frame.guarded, hfg, hgd])
end
section
variable {prog : Program} {w : World} {A : Around} {R : GenEnd} {Y : Protocol} {n : Nat} {s₀ : Shared} {fs : List Frame} {s : Shared} {env : Env}
theorem seg_forLoop {x : Str} {px : Pos} {it : Value} {body orelse : List Stmt}
    (h : wpAny (model prog w) (A.over (.forLoop (.Name x px) it body orelse env) fs) (pyNext it) (fun r s₁ => match r with
      | none => False
      | some v => wpAny (model prog w) (A.over (.forLoop (.Name x px) it body orelse env) fs) (assign (.Name x px) env v) (fun _ s₂ =>
          Seg (model prog w) A R Y n s₀ (.forLoop (.Name x px) it body orelse env) ((execs body env).wrap (fun f => match f with
            | .next | .cont => .pure (.again (.forLoop (.Name x px) it body orelse env))
            | .brk => .pure (.done .next)
            | .ret v => .pure (.done (.ret v))) (fun e => (do noteFrame e env; theTreesLotGoes e : Sem Unit).wrap (fun _ => .raise e) .raise id id) id id) fs s₂) (fun _ _ => False) s₁)
      (fun _ _ => False) s) :
    Seg (model prog w) A R Y n s₀ (.forLoop (.Name x px) it body orelse env) ((model prog w).den (.forLoop (.Name x px) it body orelse env)) fs s := by
  show Seg _ A R Y n s₀ _ ((forTurn (.Name x px) it body orelse env).onRaise (fun x => do noteFrame x env; theTreesLotGoes x)) fs s
  unfold forTurn
  rw [Sem.onRaise_eq_wrap]
  show Seg _ A R Y n s₀ _ (.at _ fun _ => Sem.wrap _ _ _ _ (((pyNext it).onRaise _) >>= _)) fs s
  refine seg_at ?_
  rw [Sem.bind_eq_wrap', Sem.wrap_wrap]
  refine seg_wrap (wpAny_onRaise (wpAny_mono h (fun r s₁ h₁ => ?_) fun x s' hx => hx.elim))
  cases r with
  | none => exact h₁.elim
  | some v =>
    show Seg _ A R Y n s₀ _ (Sem.wrap _ _ _ _ (assign (.Name x px) env v >>= _)) fs s₁
    rw [Sem.bind_eq_wrap', Sem.wrap_wrap]
    refine seg_wrap (wpAny_mono h₁ (fun _ s₂ h₂ => ?_) fun _ _ e => e.elim)
    show Seg _ A R Y n s₀ _ (Sem.wrap _ _ _ _ (execs body env >>= _)) fs s₂
    rw [Sem.bind_eq_wrap', Sem.wrap_wrap]
    rw [Sem.wrap_congr (execs body env) _ _ (K' := fun f => match f with
            | .next | .cont => .pure (.again (.forLoop (.Name x px) it body orelse env))
            | .brk => .pure (.done .next)
            | .ret v => .pure (.done (.ret v))) (H' := (fun e => (do noteFrame e env; theTreesLotGoes e : Sem Unit).wrap (fun _ => .raise e) .raise id id))
        (fun f => by cases f <;> rfl)
        (fun e => by first | exact Sem.bind_eq_wrap _ _ | (show (do noteFrame e env; theTreesLotGoes e : Sem Unit).bind (fun _ => .raise e) = _; rw [Sem.bind_eq_wrap]))]
    exact h₂
end
end Mine

end
section
open PySem PySem.W PyProof.Rows PySem.Calls PySem.Spec
open Sem (wp)
set_option Elab.async false
set_option maxRecDepth 100000
set_option maxHeartbeats 8000000
set_option linter.unusedVariables false
namespace Mine
def NoEnd : GenEnd := fun _ _ _ _ => False
def GRel (Lg Ga : Addr) (s₀ s₁ : Shared) : Prop := ∃ h₁ tk₁, s₁ = { s₀ with heap := h₁, toks := tk₁ } ∧ ∀ b o, (b < Lg ∨ b = Ga) → s₀.heap.get? b = some o → h₁.get? b = some o
def Back (g : Heap) (L Ml : Addr) (h₁ : Heap) (P : Shared → Prop) : Prop := ∃ priv : List (Addr × Obj), (∀ e ∈ priv, e.1 ≠ L ∧ e.1 ≠ Ml) ∧ Own g h₁ priv ∧ ∀ s'', Kp g s''.heap → Own g s''.heap priv → P s''
def GY (g : Heap) (L Ml Lg Ga : Addr) (first step : Int) : Protocol := fun n s₀ v s₁ kap =>
  (∃ t, v = .int (if n = 30 then first else step) t) ∧ GRel Lg Ga s₀ s₁ ∧ (n ≠ 0 → Back g L Ml s₁.heap (fun s'' => kap (.send .none) s''))
section
variable {prog : Program} {w : World} {A : Around} {E : Value → Shared → Prop} {s : Shared}

theorem pyNext_gen {a : Addr} {g n : Nat} {gs : GenState} {Y : Protocol} {Q : Option Value → Shared → Prop} 
    (hh : A.handled = none) (hl : s.heap.NoLimit) (hroom : A.depth < recursionLimit) (hg : s.heap.IsGen a g) (hgs : s.gens[g]? = some gs)
    (hgo : gs.Goes (model prog w) A.in1 NoEnd Y n (.send .none) (s.setGen g .running))
    (hY : ∀ v s₁ gs', gs'.bare = true → Y (n - 1) (s.setGen g .running) v s₁ (fun r' s'' => match n with
        | 0 => False
        | m + 1 => gs'.Goes (model prog w) A.in1 NoEnd Y m r' s'') → Q (some v) (s₁.setGen g gs')) :
    wpAny (model prog w) A (pyNext (.ref a)) Q E s := by
  have e : (fun (_ : Nat) (_ : Shared) (r : Result) (_ : Shared) => r = .ok .next ∧ False) = NoEnd := by
    funext _ _ _ _
    exact propext ⟨fun h => h.2, fun h => h.elim⟩
  rw [← e] at hgo hY
  exact wpAny_pyNext_genexpQ (P := fun _ _ _ => False) hh hl hroom hg hgs hgo hY (fun _ h => h.elim)
theorem GRel.refl {Lg Ga : Addr} {s : Shared} : GRel Lg Ga s s := ⟨s.heap, s.toks, rfl, fun _ _ _ e => e⟩

theorem while_yield {env : Env} {x : Str} {k : Nat} {p1 p2 p3 p4 : Pos} {L Ml Lg Ga : Addr} {first step : Int} {t : Tok} {m : Str → Option Value} {g : Heap} (hgLg : g.get? Lg = none)
    (hx : env.kindOf x = some .local) (hkf : env.scope.kind = .function) (hd : (x == ("__debug__" : Str)) = false) (hco : env.scope.isCoroutine = false) (hi : interactive env = false)
    (hL : env.locals = Lg) (hm : m x = some (.int step t)) (hLL : Lg ≠ L) (hLM : Lg ≠ Ml) :
    ∀ (n : Nat) (s₀ s : Shared) (fs : List Frame), n < 30 → splitAtGen fs = none → fs.any Frame.guarded = false → s.heap.Ns Lg m → GRel Lg Ga s₀ s →
      Seg (model prog w) A NoEnd (GY g L Ml Lg Ga first step) (n + 1) s₀ (.whileLoop (.Constant (.bool true) k p1) [.Expr (.Yield (some (.Name x p2)) p3) p4] [] env)
        ((model prog w).den (.whileLoop (.Constant (.bool true) k p1) [.Expr (.Yield (some (.Name x p2)) p3) p4] [] env)) fs s := by
  have turn : ∀ (n : Nat) (s₀ s : Shared) (fs : List Frame), n < 30 → splitAtGen fs = none → fs.any Frame.guarded = false → s.heap.Ns Lg m → GRel Lg Ga s₀ s →
      (∀ j, n = j + 1 → ∀ s'', s''.heap.Ns Lg m → Seg (model prog w) A NoEnd (GY g L Ml Lg Ga first step) (j + 1) s'' (.whileLoop (.Constant (.bool true) k p1) [.Expr (.Yield (some (.Name x p2)) p3) p4] [] env)
        ((model prog w).den (.whileLoop (.Constant (.bool true) k p1) [.Expr (.Yield (some (.Name x p2)) p3) p4] [] env)) fs s'') →
      Seg (model prog w) A NoEnd (GY g L Ml Lg Ga first step) (n + 1) s₀ (.whileLoop (.Constant (.bool true) k p1) [.Expr (.Yield (some (.Name x p2)) p3) p4] [] env)
        ((model prog w).den (.whileLoop (.Constant (.bool true) k p1) [.Expr (.Yield (some (.Name x p2)) p3) p4] [] env)) fs s := by
    intro n s₀ s fs hn hfs hfg hns hrel next
    refine seg_whileLoop (isTrue_plain (wpAny_mono (Q := fun v s' => v = .bool true ∧ s' = s) (fun _ _ _ => ⟨rfl, rfl⟩) (fun v s' hv => ?_) fun _ _ e => e))
    obtain ⟨rfl, rfl⟩ := hv
    refine wpAny_truthy_bool ?_
    rw [if_pos rfl]
    refine seg_execs_cons ?_
    refine seg_Expr_Yield hfs rfl hfg ?_ hco hi
    refine wpAny_Name (wpAny_loadName_local hkf hx (hL ▸ hns) hm ?_) hd
    intro kap hkap
    obtain ⟨oL, es, ep, hoL, hr⟩ := hns
    refine ⟨⟨t, by rw [if_neg (by omega)]⟩, hrel, fun hn0 => ⟨[(Lg, oL)], List.forall_mem_cons.mpr ⟨⟨hLL, hLM⟩, List.forall_mem_nil _⟩, List.forall_mem_cons.mpr ⟨⟨hoL, hgLg⟩, List.forall_mem_nil _⟩, fun s'' hk'' ho'' => ?_⟩⟩
    obtain ⟨j, rfl⟩ : ∃ j, n = j + 1 := ⟨n - 1, by omega⟩
    refine hkap .none s'' ?_
    refine seg_execs_nil ?_
    refine seg_again rfl ?_
    exact next j rfl s'' ⟨oL, es, ep, (ho'' _ (.head _)).1, hr⟩
  intro n
  induction n with
  | zero => exact fun s₀ s fs hn hfs hfg hns hrel => turn 0 s₀ s fs hn hfs hfg hns hrel (fun j hj => by omega)
  | succ n ih => exact fun s₀ s fs hn hfs hfg hns hrel => turn (n + 1) s₀ s fs hn hfs hfg hns hrel (fun j hj s'' hns'' => by
      obtain rfl : j = n := by omega
      exact ih s'' s'' fs (by omega) hfs hfg hns'' GRel.refl)
end
end Mine

end
section
open PySem PySem.W PyProof.Rows PySem.Calls PySem.Spec
open Sem (wp)
set_option Elab.async false
set_option maxRecDepth 100000
set_option maxHeartbeats 8000000
set_option linter.unusedVariables false
namespace Mine
section
variable {prog : Program} {w : World} {A : Around} {s : Shared} {g : Heap} {K : Frag} {p : Program} {loose : List Str} {mean : ExcName → Option Value} {mg mb : Str → Option Value}
  {R : Result → Shared → Prop} {name qual : Str} {params : Arguments} {body : List Stmt} {scope : Scope} {dV kV doc pm cdv ct oc : Value} {an od : Option Addr} {osl : Array (Option Value)} {f : Addr} {args : Args} {binds : List (Str × Value)}
theorem enterGen (X : K.In g) (T : Top p loose mean mg mb g) (hk : Kp g s.heap)
    (ho : K.lookup f = some ⟨oc, od, .func (fnOf name qual params body scope dV kV doc pm an cdv ct), osl⟩) (hcd : codeIn K cdv qual = true) (hroom : A.depth < recursionLimit)
    (hbind : BindsTo s (fnOf name qual params body scope dV kV doc pm an cdv ct) args binds) (hloc : ∀ y ∈ binds, scope.names.lookup y.1 = some .local)
    (h : ∀ h₁ tk nm qn, h₁.Ns s.heap.objs.size (fun y => binds.reverse.lookup y) → Kp s.heap h₁ → h₁.objs.size = s.heap.objs.size + 1 →
      R (.ok (.ret (.ref (s.heap.objs.size + 1)))) { s with gens := s.gens.push (.fresh (.func body (envOf qual scope s.heap.objs.size f cdv))), toks := tk, heap := h₁.push { cls := .type "generator", data := .fields #[.int s.gens.size 0, nm, qn] } })
    (hco : scope.isCoroutine = false) (hgen : scope.isGenerator = true) (hkf : scope.kind = .function) (hcell : ∀ x ∈ scope.names, x.2 ≠ .cell) :
    codeAny (model prog w) A (.call (.ref f) args) R s := by
  have X' : K.In s.heap := X.keeps hk
  refine codeAny_call_generator (fd := fnOf name qual params body scope dV kV doc pm an cdv ct) hroom (X' _ _ ho) rfl hco hgen rfl (codeRec_of X' hcd) (hbind _ _ _ _ ?_)
  refine wpAny_newFunctionEnv hcell hloc (fun h₁ hns hsb => ⟨(T.nolimit.keeps hk).fresh _ hsb, ?_⟩) hkf
  have hsz : h₁.objs.size = s.heap.objs.size + 1 := by rw [hsb.1]; exact Heap.size_push ..
  have hkk : Kp s.heap h₁ := fun b o e => hsb.extBut b o (Nat.ne_of_lt (Heap.lt_size e)) (Heap.get?_push_of_some _ e)
  have z := h h₁ (s.toks + binds.length + 1 + 1) (.str name (s.toks + binds.length)) (.str qual (s.toks + binds.length + 1)) hns hkk hsz
  rw [← hsz] at z
  exact z
end
end Mine

end
section
open PySem PySem.W PyProof.Rows PySem.Calls PySem.Spec
set_option Elab.async false
set_option maxRecDepth 100000
set_option maxHeartbeats 8000000
set_option linter.unusedVariables false
namespace Mine
noncomputable def trunc (n : Nat) (h : Heap) : Heap := ⟨h.objs.extract 0 n, h.life⟩
theorem trunc_lt {n : Nat} {h : Heap} {b : Nat} (hb : b < n) : (trunc n h).get? b = h.get? b := by
  unfold Heap.get? trunc
  have e : (h.objs.extract 0 n)[b]? = h.objs[b]? := by
    rw [Array.getElem?_extract]
    simp only [Nat.zero_add, Nat.sub_zero]
    by_cases q : b < h.objs.size
    · rw [if_pos (by omega)]
    · rw [if_neg (by omega), Array.getElem?_eq_none (by omega)]
  dsimp only
  rw [e]
theorem trunc_ge {n : Nat} {h : Heap} {b : Nat} (hb : n ≤ b) : (trunc n h).get? b = none := by
  unfold Heap.get? trunc
  have e : (h.objs.extract 0 n)[b]? = none := Array.getElem?_eq_none (by rw [Array.size_extract]; omega)
  dsimp only
  rw [e]
theorem trunc_size (n : Nat) (h : Heap) : (trunc n h).objs.size ≤ n := by
  unfold trunc
  dsimp only
  rw [Array.size_extract]; omega
theorem trunc_get {n : Nat} {h : Heap} {b : Addr} {o : Obj} (e : (trunc n h).get? b = some o) : b < n ∧ h.get? b = some o := by
  rcases Nat.lt_or_ge b n with q | q
  · exact ⟨q, (trunc_lt q).symm.trans e⟩
  · rw [trunc_ge q] at e; cases e
theorem kp_trunc {g h : Heap} {n : Nat} (hk : Kp g h) (hs : g.objs.size ≤ n) : Kp g (trunc n h) := fun b o e => (trunc_lt (Nat.lt_of_lt_of_le (Heap.lt_size e) hs)).trans (hk b o e)
theorem fr_trunc {h : Heap} {Lg : Addr} {m : Str → Option Value} (hn : h.Ns Lg m) : Fr (trunc Lg h) Lg h m := ⟨hn, fun b o e => (trunc_get e).2, trunc_size _ _⟩

theorem grel_of {s₀ : Shared} {h : Heap} {tk : Nat} {Lg Ga : Addr} {m : Str → Option Value} {oG : Obj} (F : Fr (trunc Lg s₀.heap) Lg h m) (hG₀ : s₀.heap.get? Ga = some oG) (hG : h.get? Ga = some oG) : GRel Lg Ga s₀ { s₀ with heap := h, toks := tk } :=
  ⟨h, tk, rfl, fun b o hb e => by
    rcases hb with q | rfl
    · exact F.keep b o ((trunc_lt q).trans e)
    · rw [hG₀] at e; cases e; exact hG⟩

section
variable {prog : Program} {w : World} {A : Around} {E : Value → Shared → Prop} {s : Shared} {g : Heap} {L : Addr} {m : Str → Option Value} {news : List (Addr × Obj)}
theorem iter_list_K {l : Addr} {items : Array Value} {Q : Value → Shared → Prop} (F : Fr g L s.heap m) (N : News g L s.heap news) (hl : g.IsList l items)
    (h : ∀ I h' o, o.cls = .type "list_iterator" → o.data = .fields #[.ref l, .int 0 0] → Fr g L h' m → News g L h' ((I, o) :: news) → (∀ p ∈ news, p.1 < I) → L < I → Q (.ref I) { s with heap := h' }) :
    wpAny (model prog w) A (pyIter (.ref l)) Q E s := by
  refine wpAny_pyIter_list (F.lst hl) ?_
  exact h _ _ _ rfl rfl (F.push _) (N.push F _) (fun p hp => Heap.lt_size (N p hp).1) F.ns.lt
theorem next_list_K {l I : Addr} {o : Obj} {i : Nat} {items : Array Value} {x : Value} {Q : Option Value → Shared → Prop} (F : Fr g L s.heap m) (N : News g L s.heap ((I, o) :: news)) (hap : ∀ p ∈ news, p.1 ≠ I)
    (hc : o.cls = .type "list_iterator") (hd : o.data = .fields #[.ref l, .int i 0]) (hl : g.IsList l items) (hx : items[i]? = some x)
    (h : ∀ h' o', o'.cls = .type "list_iterator" → o'.data = .fields #[.ref l, .int ((i + 1 : Nat) : Int) 0] → Fr g L h' m → News g L h' ((I, o') :: news) → Q (some x) { s with heap := h' }) :
    wpAny (model prog w) A (pyNext (.ref I)) Q E s := by
  refine wpAny_pyNext_list_item (i := i) ⟨o, (N _ (.head _)).1, hc, hd⟩ (F.lst hl) hx fun h' hit' hs' => ?_
  obtain ⟨o', ho', hc', hd'⟩ := hit'
  exact h h' o' hc' hd' (fr_change F N hs') (N.setHead hap hs' ho')
end
theorem back_K {g h h'' base : Heap} {Lg Ga I lst : Nat} {m : Str → Option Value} {oI oG lo oL : Obj} (F : Fr base Lg h m) (hoL : h.get? Lg = some oL) 
    (hk'' : Kp g h'') (ho'' : Own g h'' [(Lg, oL), (lst, lo), (I, oI), (Ga, oG)])
    (hgs : g.objs.size ≤ Lg) (hln : lst < Lg) (hGa : Lg < Ga) (hI : Lg < I) :
    Fr (trunc Lg h'') Lg h'' m ∧ News (trunc Lg h'') Lg h'' [(I, oI), (Ga, oG)] ∧ Kp g (trunc Lg h'') ∧ (trunc Lg h'').get? lst = some lo ∧ h''.get? Ga = some oG := by
  have hG := (ho'' _ (.tail _ (.tail _ (.tail _ (.head _))))).1
  have hII := (ho'' _ (.tail _ (.tail _ (.head _)))).1
  refine ⟨fr_trunc (F.ns.at' fun o e => by rw [hoL] at e; cases e; exact (ho'' _ (.head _)).1), List.forall_mem_cons.mpr ⟨⟨hII, ?_, trunc_ge (Nat.le_of_lt hI)⟩, List.forall_mem_cons.mpr ⟨⟨hG, ?_, trunc_ge (Nat.le_of_lt hGa)⟩, List.forall_mem_nil _⟩⟩, kp_trunc hk'' hgs, ?_, hG⟩
  · exact Nat.ne_of_gt hI
  · exact Nat.ne_of_gt hGa
  · exact (trunc_lt hln).trans (ho'' _ (.tail _ (.head _))).1
end Mine

end
section
open PySem PySem.W PyProof.Rows PySem.Calls PySem.Spec
open Sem (wp)
set_option Elab.async false
set_option maxRecDepth 100000
set_option maxHeartbeats 8000000
set_option linter.unusedVariables false
namespace Mine
theorem grouping_core {w : World} {mean : ExcName → Option Value} {mg mb : Str → Option Value} {dp un : Nat} {gd : Option (List Code)} {outer : List Env} {g : Heap} {s : Shared} {lst L Ml : Addr} {first step : Int} {t1 t2 t3 : Tok} {Q E : Value → Shared → Prop}
   (X : (hd.heap_39 w.params).In g) (T : Top hd.view_39 (looseW hd.view_39 [Str.ofString "b2a_base64", Str.ofString "b64encode"]) mean mg mb g)
   (hk : Kp g s.heap) (hsz : g.objs.size ≤ s.heap.objs.size)
   (hl : s.heap.get? lst = some (W.listOf #[.int first t1, .int step t2, .int 0 t3] 0)) (hgl : g.get? lst = none) (hgL : g.get? L = none) (hgM : g.get? Ml = none)
   (hLs : L < s.heap.objs.size) (hMs : Ml < s.heap.objs.size) (hlL : lst ≠ L) (hlM : lst ≠ Ml)
   (h1 : first ≠ 127) (h2 : step ≠ 127) (h3 : first ≠ 0) (h4 : step ≠ 0)
   (hdp : dp + 1 < recursionLimit) (hun : un + 10 < cLine)
   (ret : ∀ h' tk gs, Kp s.heap h' → h'.IsGen (s.heap.objs.size + 1) s.gens.size → h'.NoLimit → gs.bare = true →
     Back g L Ml h' (fun s'' => gs.Goes (model PySem.Challenge.rw_om0005_01.row.prog w) (AA dp un gd outer).in1 NoEnd (GY g L Ml s.heap.objs.size (s.heap.objs.size + 1) first step) 31 (.send .none) s'') →
     Q (.ref (s.heap.objs.size + 1)) { s with heap := h', toks := tk, gens := s.gens.push gs }) :
   wpAny (model PySem.Challenge.rw_om0005_01.row.prog w) (AA dp un gd outer) (call (.ref 28) [.ref lst]) Q E s := by
  revert X; k_fill; intro X
  refine wpAny_call ?_
  refine' enterGen (binds := [(Str.ofString "grouping", .ref lst)]) X T hk ?k6 ?k7 ?k8 ?k9 ?kB ?_ ?c2 ?c3 ?c4 ?c5
  (case k6 => k_is); (case k7 => k_is); (case k8 => ktr_room); (case k9 => exact BindsTo.of_eq rfl); (case c5 => decide); (case kB => exact locs rfl); (case c2 => exact rfl); (case c3 => exact rfl); (case c4 => exact rfl)
  k_whole
  intro h₁ tk nm qn hns hkk hs1
  dsimp only
  have hk2 : Kp s.heap (h₁.push { cls := .type "generator", data := .fields #[.int s.gens.size 0, nm, qn] }) := fun b o e => Heap.get?_push_of_some _ (hkk b o e)
  refine ret _ _ _ hk2 ⟨_, nm, qn, (by rw [← hs1]; exact Heap.get?_push_size _ rfl), rfl, rfl, rfl⟩ ((T.nolimit.keeps hk).keeps hk2) rfl ?_
  have hlt : lst < s.heap.objs.size := Heap.lt_size hl
  have hGa1 : (h₁.push { cls := .type "generator", data := .fields #[.int s.gens.size 0, nm, qn] }).get? (s.heap.objs.size + 1) = some { cls := .type "generator", data := .fields #[.int s.gens.size 0, nm, qn] } := by rw [← hs1]; exact Heap.get?_push_size _ rfl
  have hgLg : g.get? s.heap.objs.size = none := by
    cases q : g.get? s.heap.objs.size with
    | none => rfl
    | some o => exact absurd (Nat.lt_of_lt_of_le (Heap.lt_size q) hsz) (Nat.lt_irrefl _)
  have hgGa : g.get? (s.heap.objs.size + 1) = none := by
    cases q : g.get? (s.heap.objs.size + 1) with
    | none => rfl
    | some o => exact absurd (Nat.lt_of_lt_of_le (Heap.lt_size q) hsz) (by show ¬ (s.heap.objs.size + 1 : Nat) < s.heap.objs.size; omega)
  obtain ⟨oL, es, ep, hoL, hr⟩ := hns
  refine ⟨[(s.heap.objs.size, oL), (lst, W.listOf #[.int first t1, .int step t2, .int 0 t3] 0), (s.heap.objs.size + 1, { cls := .type "generator", data := .fields #[.int s.gens.size 0, nm, qn] })], ?_, ?_, ?_⟩
  · exact List.forall_mem_cons.mpr ⟨⟨Nat.ne_of_gt hLs, Nat.ne_of_gt hMs⟩, List.forall_mem_cons.mpr ⟨⟨hlL, hlM⟩, List.forall_mem_cons.mpr ⟨⟨Nat.ne_of_gt (Nat.lt_succ_of_lt hLs), Nat.ne_of_gt (Nat.lt_succ_of_lt hMs)⟩, List.forall_mem_nil _⟩⟩⟩
  · exact List.forall_mem_cons.mpr ⟨⟨Heap.get?_push_of_some _ hoL, hgLg⟩, List.forall_mem_cons.mpr ⟨⟨hk2 _ _ hl, hgl⟩, List.forall_mem_cons.mpr ⟨⟨hGa1, hgGa⟩, List.forall_mem_nil _⟩⟩⟩
  intro s'' hg'' ho''
  refine ⟨rfl, ?_⟩
  have hns'' : s''.heap.Ns s.heap.objs.size (fun y => [(Str.ofString "grouping", Value.ref lst)].reverse.lookup y) := ⟨oL, es, ep, (ho'' _ (.head _)).1, hr⟩
  have hl'' := (ho'' _ (.tail _ (.head _))).1
  have hGa'' := (ho'' _ (.tail _ (.tail _ (.head _)))).1
  dsimp only at hl'' hGa''
  clear hGa1 ho'' hoL hr
  generalize hoG : ({ cls := .type "generator", data := .fields #[.int s.gens.size 0, nm, qn] } : Obj) = oG at *
  clear hoG ret hk2 hkk
  generalize s.heap.objs.size = Lg at *
  clear oL es ep
  have F0 := fr_trunc hns''
  have N0 : News (trunc Lg s''.heap) Lg s''.heap [(Lg + 1, oG)] := List.forall_mem_cons.mpr ⟨⟨hGa'', Nat.ne_of_gt (Nat.lt_succ_self _), trunc_ge (Nat.le_succ _)⟩, List.forall_mem_nil _⟩
  have hgb := kp_trunc hg'' hsz
  have X0 := X.keeps hgb
  have T0 := T.keeps hgb
  have hl0 : (trunc Lg s''.heap).get? lst = _ := (trunc_lt hlt).trans hl''
  have hL0 : (trunc Lg s''.heap).IsList lst #[.int first t1, .int step t2, .int 0 t3] := ⟨_, hl0, rfl, 0, rfl⟩
  refine seg_func ?_
  refine seg_execs_cons ?_
  refine seg_wrap ?_
  k_steps
  dsimp only
  refine seg_execs_cons ?_
  refine seg_For' rfl rfl rfl ?_
  k_steps
  refine iter_list_K (by assumption) (by assumption) hL0 ?_
  intro I hI oI hoc hod FI NI lI lI2
  intro fs hfs hfg
  refine seg_forLoop ?_
  refine next_list_K (x := .int first t1) FI NI (List.forall_mem_cons.mpr ⟨Nat.ne_of_lt (lI _ (.head _)), List.forall_mem_nil _⟩) hoc hod hL0 rfl ?_
  intro hI2 oI2 hoc2 hod2 FI2 NI2
  dsimp only
  k_steps
  refine seg_execs_cons ?_
  refine seg_If ?_
  k_steps
  · exfalso; omega
  refine seg_execs_nil ?_
  dsimp only
  refine seg_execs_cons ?_
  refine seg_If ?_
  k_steps
  · exfalso; omega
  refine seg_execs_nil ?_
  dsimp only
  refine seg_execs_cons ?_
  refine seg_Expr_Yield hfs rfl hfg ?_
  refine ld (by assumption) rfl ?_
  intro kap hkap
  (rename Fr _ _ _ _ => FA); (rename News _ _ _ _ => NA)
  have hgI : g.get? I = none := by
    cases q : g.get? I with
    | none => rfl
    | some o => exact absurd (Nat.lt_of_lt_of_le (Heap.lt_size q) hsz) (Nat.not_lt_of_gt lI2)
  obtain ⟨oL, es, ep, hoL, hr⟩ := id FA.ns
  refine ⟨⟨_, rfl⟩, grel_of FA hGa'' (NA _ (.tail _ (.head _))).1, fun _ => ⟨[(Lg, oL), (lst, W.listOf #[.int first t1, .int step t2, .int 0 t3] 0), (I, oI2), (Lg + 1, oG)], ?_, ?_, fun s2 hk2 ho2 => hkap .none s2 ?_⟩⟩
  · exact List.forall_mem_cons.mpr ⟨⟨Nat.ne_of_gt hLs, Nat.ne_of_gt hMs⟩, List.forall_mem_cons.mpr ⟨⟨hlL, hlM⟩, List.forall_mem_cons.mpr ⟨⟨Nat.ne_of_gt (Nat.lt_trans hLs lI2), Nat.ne_of_gt (Nat.lt_trans hMs lI2)⟩, List.forall_mem_cons.mpr ⟨⟨Nat.ne_of_gt (Nat.lt_succ_of_lt hLs), Nat.ne_of_gt (Nat.lt_succ_of_lt hMs)⟩, List.forall_mem_nil _⟩⟩⟩⟩
  · exact List.forall_mem_cons.mpr ⟨⟨hoL, hgLg⟩, List.forall_mem_cons.mpr ⟨⟨FA.keep _ _ hl0, hgl⟩, List.forall_mem_cons.mpr ⟨⟨(NA _ (.head _)).1, hgI⟩, List.forall_mem_cons.mpr ⟨⟨(NA _ (.tail _ (.head _))).1, hgGa⟩, List.forall_mem_nil _⟩⟩⟩⟩
  obtain ⟨FB, NB, hgB, hlB, hGB⟩ := back_K FA hoL hk2 ho2 hsz hlt (Nat.lt_succ_self _) lI2
  clear FA NA hoL hr es ep oL hk2 ho2 hkap kap
  (try clear F0); (try clear N0); (try clear FI); (try clear NI); (try clear FI2); (try clear NI2); (try clear X0); (try clear T0); (try clear hL0); (try clear hl0); (try clear hgb); (try clear hoc); (try clear hod); (try clear hns''); (try clear hl''); (try clear hg''); (try clear hGa'')
  have X0 := X.keeps hgB
  have T0 := T.keeps hgB
  have hL0 : (trunc Lg s2.heap).IsList lst #[.int first t1, .int step t2, .int 0 t3] := ⟨_, hlB, rfl, 0, rfl⟩
  dsimp only
  refine seg_execs_cons ?_
  refine seg_wrap ?_
  k_steps
  dsimp only
  refine seg_execs_nil ?_
  dsimp only
  refine seg_again rfl ?_
  refine seg_forLoop ?_
  (rename Fr _ _ _ _ => FC); (rename News _ _ _ _ => NC)
  refine next_list_K (x := .int step t2) FC NC (List.forall_mem_cons.mpr ⟨Nat.ne_of_lt (lI _ (.head _)), List.forall_mem_nil _⟩) hoc2 hod2 hL0 rfl ?_
  intro hI3 oI3 hoc3 hod3 FI3 NI3
  dsimp only
  k_steps
  refine seg_execs_cons ?_
  refine seg_If ?_
  k_steps
  · exfalso; omega
  refine seg_execs_nil ?_
  dsimp only
  refine seg_execs_cons ?_
  refine seg_If ?_
  k_steps
  · exfalso; omega
  refine seg_execs_nil ?_
  dsimp only
  refine seg_execs_cons ?_
  refine seg_Expr_Yield hfs rfl hfg ?_
  refine ld (by assumption) rfl ?_
  intro kap hkap
  (rename Fr _ _ _ _ => FA); (rename News _ _ _ _ => NA)
  obtain ⟨oL, es, ep, hoL, hr⟩ := id FA.ns
  refine ⟨⟨_, rfl⟩, grel_of FA hGB (NA _ (.tail _ (.head _))).1, fun _ => ⟨[(Lg, oL), (lst, W.listOf #[.int first t1, .int step t2, .int 0 t3] 0), (I, oI3), (Lg + 1, oG)], ?_, ?_, fun s3 hk3 ho3 => hkap .none s3 ?_⟩⟩
  · exact List.forall_mem_cons.mpr ⟨⟨Nat.ne_of_gt hLs, Nat.ne_of_gt hMs⟩, List.forall_mem_cons.mpr ⟨⟨hlL, hlM⟩, List.forall_mem_cons.mpr ⟨⟨Nat.ne_of_gt (Nat.lt_trans hLs lI2), Nat.ne_of_gt (Nat.lt_trans hMs lI2)⟩, List.forall_mem_cons.mpr ⟨⟨Nat.ne_of_gt (Nat.lt_succ_of_lt hLs), Nat.ne_of_gt (Nat.lt_succ_of_lt hMs)⟩, List.forall_mem_nil _⟩⟩⟩⟩
  · exact List.forall_mem_cons.mpr ⟨⟨hoL, hgLg⟩, List.forall_mem_cons.mpr ⟨⟨FA.keep _ _ hlB, hgl⟩, List.forall_mem_cons.mpr ⟨⟨(NA _ (.head _)).1, hgI⟩, List.forall_mem_cons.mpr ⟨⟨(NA _ (.tail _ (.head _))).1, hgGa⟩, List.forall_mem_nil _⟩⟩⟩⟩
  obtain ⟨FD, ND, hgD, hlD, hGD⟩ := back_K FA hoL hk3 ho3 hsz hlt (Nat.lt_succ_self _) lI2
  clear FA NA hoL hr es ep oL hk3 ho3 hkap kap
  (try clear FB); (try clear NB); (try clear FC); (try clear NC); (try clear FI3); (try clear NI3); (try clear X0); (try clear T0); (try clear hL0); (try clear hlB); (try clear hgB); (try clear hoc2); (try clear hod2); (try clear hGB)
  have X0 := X.keeps hgD
  have T0 := T.keeps hgD
  have hL0 : (trunc Lg s3.heap).IsList lst #[.int first t1, .int step t2, .int 0 t3] := ⟨_, hlD, rfl, 0, rfl⟩
  dsimp only
  refine seg_execs_cons ?_
  refine seg_wrap ?_
  k_steps
  dsimp only
  refine seg_execs_nil ?_
  dsimp only
  refine seg_again rfl ?_
  refine seg_forLoop ?_
  (rename Fr _ _ _ _ => FC); (rename News _ _ _ _ => NC)
  refine next_list_K (x := .int 0 t3) FC NC (List.forall_mem_cons.mpr ⟨Nat.ne_of_lt (lI _ (.head _)), List.forall_mem_nil _⟩) hoc3 hod3 hL0 rfl ?_
  intro hI4 oI4 hoc4 hod4 FI4 NI4
  dsimp only
  k_steps
  refine seg_execs_cons ?_
  refine seg_If ?_
  k_steps
  refine seg_execs_nil ?_
  dsimp only
  refine seg_execs_cons ?_
  refine seg_If ?_
  k_steps
  refine seg_execs_cons ?_
  refine seg_If ?_
  k_steps
  refine seg_execs_nil ?_
  dsimp only
  refine seg_execs_cons ?_
  refine seg_While' hfs hfg rfl ?_
  intro fs' hfs' hfg'
  (rename Fr _ _ _ _ => FE); (rename News _ _ _ _ => NE)
  exact while_yield hgLg rfl rfl rfl rfl rfl rfl rfl (Nat.ne_of_gt hLs) (Nat.ne_of_gt hMs) 28 s3 _ fs' (by decide) hfs' hfg' FE.ns (grel_of FE hGD (NE _ (.tail _ (.head _))).1)
end Mine

end
section
open PySem PySem.W PyProof.Rows PySem.Calls PySem.Spec
open Sem (wp)
set_option Elab.async false
set_option maxRecDepth 100000
set_option maxHeartbeats 8000000
set_option linter.unusedVariables false
namespace Mine
noncomputable def sp (first step : Int) : Nat → Int
  | 0 => 0
  | i + 1 => sp first step i + (if i = 0 then first else step)
noncomputable def ml (first step : Int) (i : Nat) : List Int := (List.range i).map (fun j => sp first step (j + 1))
theorem ml_succ (first step : Int) (i : Nat) : ml first step (i + 1) = ml first step i ++ [sp first step (i + 1)] := by
  unfold ml; rw [List.range_succ, List.map_append]; rfl
theorem ml_length (first step : Int) (i : Nat) : (ml first step i).length = i := by unfold ml; simp
theorem sp_eq (first step : Int) : ∀ i, sp first step (i + 1) = first + i * step
  | 0 => by simp [sp]
  | i + 1 => by
    show sp first step (i + 1) + (if i + 1 = 0 then first else step) = _
    rw [sp_eq first step i, if_neg (by omega)]
    push_cast
    rw [Int.add_mul]; omega
theorem intsAre_snoc {n : Int} {t : Tok} : ∀ {vs : List Value} {ns : List Int}, IntsAre vs ns → IntsAre (vs ++ [.int n t]) (ns ++ [n])
  | _, _, .nil => .cons n t .nil
  | _, _, .cons m u h => .cons m u (intsAre_snoc h)
def MkJ (prog : Program) (w : World) (A : Around) (s : Shared) (g : Heap) (L Ml Lg Ga : Addr) (oG : Obj) (gi : Nat) (first step : Int) (k : Nat) (s' : Shared) : Prop :=
  ∃ i m₁ vs n h tk gs gens t priv, k = 31 - i ∧ i < 30 ∧ s' = { s with heap := h, toks := tk, gens := gens } ∧ Fr g L h m₁ ∧ Has m₁ [(Str.ofString "marks", .ref Ml), (Str.ofString "spot", .int (sp first step i) t)] ∧
    News g L h ((Ml, W.listOf vs.toArray n) :: (Ga, oG) :: priv) ∧ (∀ e ∈ priv, e.1 ≠ Ml) ∧ IntsAre vs (ml first step i) ∧ gens[gi]? = some gs ∧
    (∀ s'', Kp g s''.heap → Own g s''.heap priv → gs.Goes (model prog w) A.in1 NoEnd (GY g L Ml Lg Ga first step) (31 - i) (.send .none) s'') ∧ (AllBare s.gens → AllBare gens)
theorem sp_bound {first step : Int} (h1 : 1 ≤ first) (h2 : first ≤ 12) (h3 : 1 ≤ step) (h4 : step ≤ 12) : ∀ i, 0 ≤ sp first step i ∧ sp first step i ≤ 12 * i
  | 0 => by simp [sp]
  | i + 1 => by
    have := sp_bound h1 h2 h3 h4 i
    unfold sp
    push_cast
    split <;> omega
theorem gens_set {gens : Array GenState} {gi : Nat} {gs1 a b : GenState} (h : gens[gi]? = some gs1) : ((gens.setIfInBounds gi a).setIfInBounds gi b)[gi]? = some b := by
  have hlt : gi < gens.size := by
    rcases Nat.lt_or_ge gi gens.size with h' | h'
    · exact h'
    · rw [Array.getElem?_eq_none h'] at h; cases h
  simp [hlt]
theorem bare_set {gens : Array GenState} {gi : Nat} {b : GenState} (h : AllBare gens) (hb : b.bare = true) : AllBare (gens.setIfInBounds gi b) := by
  intro y hy
  obtain ⟨j, hj, rfl⟩ := Array.mem_iff_getElem.mp hy
  rw [Array.getElem_setIfInBounds (by simpa using hj)]
  split
  · exact hb
  · exact h _ (Array.getElem_mem _)
section
local macro_rules | `(tactic| walk_at "exec For Name Call cons nil") => `(tactic| k_dflt (refine wpAny_For ?_))
local macro_rules | `(tactic| k_all) => `(tactic| assumption)
theorem marks_core {w : World} {mean : ExcName → Option Value} {mg mb : Str → Option Value} {dp un : Nat} {gd : Option (List Code)} {outer : List Env} {A₀ : Around} {base : Heap} {s : Shared} {first step : Int} {tf ts : Tok} {Q E : Value → Shared → Prop}
   (Bw : Below A₀ base outer s.heap) (X : (hd.heap_39 w.params).In s.heap) (T : Top hd.view_39 (looseW hd.view_39 [Str.ofString "b2a_base64", Str.ofString "b64encode"]) mean mg mb s.heap)
   (h1 : 1 ≤ first) (h2 : first ≤ 12) (h3 : 1 ≤ step) (h4 : step ≤ 12)
   (hdp : dp + 4 < recursionLimit) (hun : un + 40 < cLine)
   (ret : ∀ a n vs h' tk gens, Kp s.heap h' → Own s.heap h' [(a, W.listOf vs.toArray n)] → IntsAre vs (ml first step 30) → (AllBare s.gens → AllBare gens) → Q (.ref a) { s with heap := h', toks := tk, gens := gens }) :
   wpAny (model PySem.Challenge.rw_om0005_01.row.prog w) (AA dp un gd outer) (call (.ref 93) [.int first tf, .int step ts]) Q E s := by
  revert X; k_fill; intro X
  have hkk : Kp s.heap s.heap := fun _ _ e => e
  refine wpAny_call ?_
  refine' enterG (binds := [(Str.ofString "first", .int first tf), (Str.ofString "step", .int step ts)]) ?k3 ?k5 ?kk ?ks ?km ?k6 ?k7 ?k8 ?k9 ?kB ?_ ?c2 ?c3 ?c4 ?c5
  (case k3 => assumption); (case k5 => assumption); (case kk => assumption); (case ks => first | exact Nat.le_refl _ | assumption); (case km => exact Own.nil)
  (case k6 => k_is); (case k7 => k_is); (case k8 => ktr_room); (case k9 => exact BindsTo.of_eq rfl); (case c5 => decide); (case kB => exact locs rfl); (case c2 => exact rfl); (case c3 => exact rfl); (case c4 => exact rfl)
  k_whole
  intro L' h' F' N' hlt'
  clear hlt' hkk
  (try dsimp only)
  (try k_fold)
  k_steps
  rename_i Ml hh5 l0 D hh4 l1 hh3 hh2 hh1 lst hh0 F0 N0 l2
  have nM : News s.heap L' hh0 [(Ml, W.listOf #[] 0)] := List.forall_mem_cons.mpr ⟨N0 _ (.tail _ (.tail _ (.head _))), List.forall_mem_nil _⟩
  refine grouping_core (g := s.heap) (L := L') (Ml := Ml) X T F0.keep (fr_size F0) (N0 _ (.head _)).1 (N0 _ (.head _)).2.2 (fr_none F0) (nM _ (.head _)).2.2 F0.ns.lt (Heap.lt_size (nM _ (.head _)).1) (N0 _ (.head _)).2.1 (Nat.ne_of_gt l2.2)
    (by omega) (by omega) (by omega) (by omega) (by show dp + 1 + 1 < recursionLimit; omega) (by show un + 3 + 10 < cLine; omega) ?_
  intro h9 tk9 gs hk9 hgen hnl hbare hback
  refine wpAny_pyIter_gen hgen ?_
  obtain ⟨oG, nm, qn, hoG, hcG, hdG, hsG⟩ := hgen
  obtain ⟨priv, hpd, hpo, hgo⟩ := hback
  have hLlt : L' < hh0.objs.size := F0.ns.lt
  have hMlt : Ml < hh0.objs.size := Heap.lt_size (nM _ (.head _)).1
  have F1 := F0.keeps hk9
  have hgG : s.heap.get? (hh0.objs.size + 1) = none := by
    cases q : s.heap.get? (hh0.objs.size + 1) with
    | none => rfl
    | some o => exact absurd (Nat.lt_of_lt_of_le (Heap.lt_size q) (fr_size F0)) (by show ¬ (hh0.objs.size + 1 : Nat) < hh0.objs.size; omega)
  dsimp only at hoG hgo hpo
  have N1 : News s.heap L' h9 ((Ml, W.listOf ([] : List Value).toArray 0) :: (hh0.objs.size + 1, oG) :: priv) :=
    List.forall_mem_cons.mpr ⟨nM.grown hk9 _ (.head _), List.forall_mem_cons.mpr ⟨⟨hoG, Nat.ne_of_gt (Nat.lt_succ_of_lt hLlt), hgG⟩, fun e he => ⟨(hpo e he).1, (hpd e he).1, (hpo e he).2⟩⟩⟩
  refine' for_loop (MkJ PySem.Challenge.rw_om0005_01.row.prog w ?AA s s.heap L' Ml hh0.objs.size (hh0.objs.size + 1) oG s.gens.size first step) ?turn 31 ?start
  case start =>
    refine ⟨0, _, [], 0, h9, tk9, gs, _, _, priv, rfl, by decide, rfl, F1, Has.cons rfl (Has.cons rfl Has.nil), N1, fun e he => (hpd e he).2, .nil, Array.getElem?_push_size, ?_, fun hb => hb.push hbare⟩
    exact hgo
  case turn =>
    rintro k s1 ⟨i, m₁, vs, n, h, tk, gs1, gens, t, priv1, rfl, hi, rfl, F2, hm, N2, hp2, hv, hg2, hgo2, hbr⟩
    refine pyNext_gen (g := s.gens.size) (gs := gs1) (n := 31 - i) rfl (T.nolimit.keeps F2.keep) (by show dp + 1 < recursionLimit; omega) ⟨oG, nm, qn, (N2 _ (.tail _ (.head _))).1, hcG, hdG, hsG⟩ hg2 (hgo2 _ F2.keep (own_sub (own_of_news N2) fun e he => .tail _ (.tail _ he))) ?_
    intro v s2 gs2 hb2 hY
    obtain ⟨⟨tv, rfl⟩, ⟨hq2, tk2, rfl, hkeep⟩, hback2⟩ := hY
    obtain ⟨priv2, hpd2, hpo2, hgo3⟩ := hback2 (by omega)
    dsimp only
    have F3 : Fr s.heap L' hq2 m₁ := ⟨F2.ns.at' fun o e => hkeep _ o (.inl hLlt) e, fun b o e => hkeep b o (.inl (Nat.lt_of_lt_of_le (Heap.lt_size e) (fr_size F0))) (F2.keep b o e), F2.above⟩
    have N3 : News s.heap L' hq2 ((Ml, W.listOf vs.toArray n) :: (hh0.objs.size + 1, oG) :: priv2) :=
      List.forall_mem_cons.mpr ⟨⟨hkeep _ _ (.inl hMlt) (N2 _ (.head _)).1, (N2 _ (.head _)).2⟩, List.forall_mem_cons.mpr ⟨⟨hkeep _ _ (.inr rfl) (N2 _ (.tail _ (.head _))).1, (N2 _ (.tail _ (.head _))).2⟩, fun e he => ⟨(hpo2 e he).1, (hpd2 e he).1, (hpo2 e he).2⟩⟩⟩
    have hp3 : ∀ e ∈ priv2, e.1 ≠ Ml := fun e he => (hpd2 e he).2
    rw [hm.mp] at F3
    have hgs3 := gens_set (a := .running) (b := gs2) hg2
    have hbr3 : AllBare s.gens → AllBare ((gens.setIfInBounds s.gens.size .running).setIfInBounds s.gens.size gs2) := fun hb => bare_set (bare_set (hbr hb) rfl) hb2
    unfold Shared.setGen
    dsimp only
    generalize ((gens.setIfInBounds s.gens.size .running).setIfInBounds s.gens.size gs2) = gens3 at *
    have hsp := sp_bound h1 h2 h3 h4 i
    have hde : (if 31 - i - 1 = 30 then first else step) = (if i = 0 then first else step) := by
      by_cases q : i = 0
      · subst q; rfl
      · rw [if_neg q, if_neg (by omega)]
    rw [hde]
    have hnx : sp first step (i + 1) = sp first step i + (if i = 0 then first else step) := rfl
    have hdb : 1 ≤ (if i = 0 then first else step) ∧ (if i = 0 then first else step) ≤ 12 := by split <;> omega
    generalize (if i = 0 then first else step) = d at *
    have hlen := IntsAre.length hv
    rw [ml_length] at hlen
    (try clear hde); (try clear hback); (try clear hgo); (try clear hpo); (try clear hpd); (try clear N1); (try clear F1); (try clear nM); (try clear N0); (try clear F2); (try clear N2); (try clear hm); (try clear hg2); (try clear hgo2); (try clear hbr); (try clear hp2); (try clear hkeep); (try clear hpo2); (try clear hoG); (try clear hbare); (try clear hback2)
    k_steps
    (rename Fr _ _ _ _ => FA); (rename News _ _ _ _ => NA)
    refine append_K FA NA (.head (List.forall_mem_cons.mpr ⟨Nat.ne_of_gt (Nat.lt_succ_of_lt hMlt), hp3⟩)) ?_ (by rw [List.size_toArray, hlen, sizeLine_eq]; omega)
    intro hA FB NB
    rw [List.push_toArray] at NB
    have hv2 := intsAre_snoc (n := sp first step i + d) (t := tk) hv
    have hlen2 : (vs ++ [Value.int (sp first step i + d) tk]).length = i + 1 := by rw [List.length_append, hlen]; rfl
    clear FA NA
    have hml : ml first step (i + 1) = ml first step i ++ [sp first step i + d] := by rw [ml_succ, hnx]
    have hI1 := (News.isList NB (.head _))
    k_steps
    refine kun_lenL (k := (i : Int) + 1) hI1 (by rw [List.size_toArray, hlen2]; rfl) (by omega) ?_
    clear hI1
    k_steps
    · show Q (.ref Ml) _
      obtain rfl : i = 29 := by omega
      exact ret Ml _ _ _ _ gens3 (fun b o e => FB.keep b o e) (own_sub (own_of_news NB) (List.forall_mem_cons.mpr ⟨.head _, List.forall_mem_nil _⟩)) (by rw [hml]; exact hv2) hbr3
    · show LNext _ _ _
      refine ⟨31 - (i + 1), by omega, i + 1, _, _, _, _, _, gs2, gens3, _, priv2, rfl, by omega, rfl, FB, Has.cons rfl (Has.cons (by rw [hnx]; rfl) Has.nil), NB, hp3, by rw [hml]; exact hv2, hgs3, ?_, hbr3⟩
      intro s'' hk'' ho''
      have e : 31 - i = (31 - (i + 1)) + 1 := by omega
      have z := hgo3 s'' hk'' ho''
      rw [e] at z
      exact z
end
end Mine

end
section
open PySem PySem.W PyProof.Rows PySem.Calls PySem.Spec
set_option Elab.async false
set_option maxRecDepth 100000
set_option maxHeartbeats 8000000
set_option linter.unusedVariables false
namespace Mine
theorem buffer_core {w : World} {mean : ExcName → Option Value} {mg mb : Str → Option Value} {dp un : Nat} {gd : Option (List Code)} {outer : List Env} {A₀ : Around} {base : Heap} {s : Shared} {b : Array UInt8} {t : Tok} {Q E : Value → Shared → Prop}
   (Bw : Below A₀ base outer s.heap) (X : (hd.heap_39 w.params).In s.heap) (T : Top hd.view_39 (looseW hd.view_39 [Str.ofString "b2a_base64", Str.ofString "b64encode"]) mean mg mb s.heap)
   (hdp : dp + 1 < recursionLimit) (hun : un + 10 < cLine)
   (ret : ∀ h' tk, Kp s.heap h' → Q (.bytes b t) { s with heap := h', toks := tk }) :
   wpAny (model PySem.Challenge.rw_om0005_01.row.prog w) (AA dp un gd outer) (call (.ref 35) [.bytes b t]) Q E s := by
  revert X; k_fill; intro X
  have hkk : Kp s.heap s.heap := fun _ _ e => e
  refine wpAny_call ?_
  refine' enterG (binds := [(Str.ofString "data", .bytes b t)]) ?k3 ?k5 ?kk ?ks ?km ?k6 ?k7 ?k8 ?k9 ?kB ?_ ?c2 ?c3 ?c4 ?c5
  (case k3 => assumption); (case k5 => assumption); (case kk => assumption); (case ks => first | exact Nat.le_refl _ | assumption); (case km => exact Own.nil)
  (case k6 => k_is); (case k7 => k_is); (case k8 => ktr_room); (case k9 => exact BindsTo.of_eq rfl); (case c5 => decide); (case kB => exact locs rfl); (case c2 => exact rfl); (case c3 => exact rfl); (case c4 => exact rfl)
  k_whole
  intro L' h' F' N' hlt'
  clear hlt' hkk
  (try dsimp only)
  (try k_fold)
  k_steps
  refine call_type_of (Tx := "bytes") rfl (by decide +kernel) ?_
  k_steps
  all_goals (
    show Q (.bytes b t) _
    exact ret _ _ (fun b o e => Fr.keep (by assumption) b o e))
theorem truth_core {w : World} {mean : ExcName → Option Value} {mg mb : Str → Option Value} {dp un : Nat} {gd : Option (List Code)} {outer : List Env} {A₀ : Around} {base : Heap} {s : Shared} {Q E : Value → Shared → Prop}
   (Bw : Below A₀ base outer s.heap) (X : (hd.heap_39 w.params).In s.heap) (T : Top hd.view_39 (looseW hd.view_39 [Str.ofString "b2a_base64", Str.ofString "b64encode"]) mean mg mb s.heap)
   (hdp : dp + 1 < recursionLimit) (hun : un + 10 < cLine)
   (ret : ∀ h' tk, Kp s.heap h' → Q (.bool false) { s with heap := h', toks := tk }) :
   wpAny (model PySem.Challenge.rw_om0005_01.row.prog w) (AA dp un gd outer) (call (.ref 42) [.bool false]) Q E s := by
  have hkk : Kp s.heap s.heap := fun _ _ e => e
  refine wpAny_call ?_
  refine' enterG (binds := [(Str.ofString "x", .bool false)]) ?k3 ?k5 ?kk ?ks ?km ?k6 ?k7 ?k8 ?k9 ?kB ?_ ?c2 ?c3 ?c4 ?c5
  (case k3 => assumption); (case k5 => assumption); (case kk => assumption); (case ks => first | exact Nat.le_refl _ | assumption); (case km => exact Own.nil)
  (case k6 => k_is); (case k7 => k_is); (case k8 => ktr_room); (case k9 => exact BindsTo.of_eq rfl); (case c5 => decide); (case kB => exact locs rfl); (case c2 => exact rfl); (case c3 => exact rfl); (case c4 => exact rfl)
  k_whole
  intro L' h' F' N' hlt'
  clear hlt' hkk
  (try dsimp only)
  (try k_fold)
  k_steps
  all_goals (
    show Q (.bool false) _
    exact ret _ _ (fun b o e => Fr.keep (by assumption) b o e))
end Mine

end
section
open PySem PySem.W PyProof.Rows PySem.Calls PySem.Spec
set_option Elab.async false
set_option maxRecDepth 100000
set_option maxHeartbeats 8000000
set_option linter.unusedVariables false
namespace Mine
section
variable {prog : Program} {w : World} {A : Around} {E : Value → Shared → Prop} {s : Shared} {env : Env} {g : Heap} {L : Addr} {m : Str → Option Value} {news : List (Addr × Obj)}
theorem for_unroll {R : Result → Shared → Prop} {x : Str} {px : Pos} {it : Value} {body : List Stmt}
    (turn : wpAny (model prog w) A (pyNext it) (fun r s₁ => match r with
      | none => wpAny (model prog w) A (execs [] env) (fun f s₃ => R (.ok f) s₃) (notedBy (model prog w) A env fun e s' => R (.error e) s') s₁
      | some v => wpAny (model prog w) A (assign (.Name x px) env v) (fun _ s₂ => wpAny (model prog w) A (execs body env) (fun f s₃ => match f with
          | .next | .cont => codeAny (model prog w) A (.forLoop (.Name x px) it body [] env) R s₃
          | .brk => R (.ok .next) s₃
          | .ret v => R (.ok (.ret v)) s₃) (notedBy (model prog w) A env fun e s' => R (.error e) s') s₂) (notedBy (model prog w) A env fun e s' => R (.error e) s') s₁) (notedBy (model prog w) A env fun e s' => R (.error e) s') s) :
    codeAny (model prog w) A (.forLoop (.Name x px) it body [] env) R s := by
  refine codeAny_of_tree ?_
  show wpAny _ _ ((forTurn (.Name x px) it body [] env).onRaise (fun x => do noteFrame x env; theTreesLotGoes x)) _ _ s
  refine wpAny_noted ?_
  simp only [forTurn]
  refine wpAny_bind (wpAny_standAt (wpAny_bind (wpAny_onRaise (wpAny_mono turn (fun r s₁ h₁ => ?_) fun _ _ h' => wpAny_standAt h'))))
  cases r with
  | none => exact wpAny_pure ⟨rfl, codeAny_block h₁⟩
  | some v =>
    refine wpAny_bind (wpAny_of_eq (a := ()) rfl ?_)
    refine wpAny_bind (wpAny_mono h₁ (fun _ s₂ h₂ => wpAny_bind (wpAny_mono h₂ (fun f s₃ h₃ => ?_) fun _ _ h' => h')) fun _ _ h' => h')
    cases f with
    | next => exact wpAny_pure ⟨rfl, h₃⟩
    | cont => exact wpAny_pure ⟨rfl, h₃⟩
    | brk => exact wpAny_pure h₃
    | ret v => exact wpAny_pure h₃

theorem iter_bytes_K {b : Array UInt8} {t : Tok} {Q : Value → Shared → Prop} (F : Fr g L s.heap m) (N : News g L s.heap news)
    (h : ∀ I h' o, o.cls = .type "bytes_iterator" → o.data = .fields #[.bytes b t, .int 0 0] → Fr g L h' m → News g L h' ((I, o) :: news) → (∀ p ∈ news, p.1 < I) → Q (.ref I) { s with heap := h' }) :
    wpAny (model prog w) A (pyIter (.bytes b t)) Q E s := by
  refine KBw.pyIter_bytes ?_
  exact h _ _ _ rfl rfl (F.push _) (N.push F _) (fun p hp => Heap.lt_size (N p hp).1)
theorem next_bytes_K {I : Addr} {o : Obj} {i : Nat} {b : Array UInt8} {t : Tok} {c : UInt8} {Q : Option Value → Shared → Prop} (F : Fr g L s.heap m) (N : News g L s.heap ((I, o) :: news)) (hap : ∀ p ∈ news, p.1 ≠ I)
    (hc : o.cls = .type "bytes_iterator") (hd : o.data = .fields #[.bytes b t, .int i 0]) (hx : b[i]? = some c)
    (h : ∀ h' o', o'.cls = .type "bytes_iterator" → o'.data = .fields #[.bytes b t, .int ((i + 1 : Nat) : Int) 0] → Fr g L h' m → News g L h' ((I, o') :: news) → Q (some (.int (c.toNat : Int) s.toks)) { s with heap := h', toks := s.toks + 1 }) :
    wpAny (model prog w) A (pyNext (.ref I)) Q E s := by
  refine KBw.next_item (i := i) ⟨o, (N _ (.head _)).1, hc, hd⟩ hx fun h' hit' hs' => ?_
  obtain ⟨o', ho', hc', hd'⟩ := hit'
  exact h h' o' hc' hd' (fr_change F N hs') (N.setHead hap hs' ho')
theorem end_bytes_K {I : Addr} {o : Obj} {i : Nat} {b : Array UInt8} {t : Tok} {Q : Option Value → Shared → Prop} (hh : A.handled = none) (F : Fr g L s.heap m) (N : News g L s.heap ((I, o) :: news)) (hap : ∀ p ∈ news, p.1 ≠ I)
    (hc : o.cls = .type "bytes_iterator") (hd : o.data = .fields #[.bytes b t, .int i 0]) (hx : b[i]? = none)
    (h : ∀ h', Fr g L h' m → News g L h' news → Q none { s with heap := h' }) :
    wpAny (model prog w) A (pyNext (.ref I)) Q E s := by
  refine KBw.next_end (i := i) hh ⟨o, (N _ (.head _)).1, hc, hd⟩ hx fun h₁ he₁ => ?_
  have hIL := (N _ (.head _)).2.1
  refine h h₁ ?_ ?_
  · exact ⟨F.ns.extBut he₁ (Ne.symm hIL), fun b o e => he₁ b o (fun q => by have := (N _ (.head _)).2.2; rw [← q, e] at this; cases this) (F.keep b o e), F.above⟩
  · exact fun p hp => ⟨he₁ p.1 p.2 (hap p hp) (N p (.tail _ hp)).1, (N p (.tail _ hp)).2⟩
end
end Mine

end
section
open PySem PySem.W PyProof.Rows PySem.Calls PySem.Spec
set_option Elab.async false
set_option maxRecDepth 100000
set_option maxHeartbeats 8000000
set_option linter.unusedVariables false
namespace Mine
theorem land_shift (a b : Nat) (hb : b < 256) : (a * 256) &&& b = 0 := by
  apply Nat.eq_of_testBit_eq
  intro i
  rw [Nat.testBit_and, Nat.zero_testBit]
  by_cases h : i < 8
  · have e : (a * 256).testBit i = false := by
      rw [show a * 256 = 2 ^ 8 * a by omega, Nat.testBit_two_pow_mul]
      simp; omega
    rw [e]; rfl
  · have e : b.testBit i = false := Nat.testBit_lt_two_pow (Nat.lt_of_lt_of_le hb (by
      have := Nat.pow_le_pow_right (n := 2) (by decide) (Nat.le_of_not_lt h)
      simpa using this))
    rw [e, Bool.and_false]
theorem bitOr_shift (a b : Int) (ha : 0 ≤ a) (hb : 0 ≤ b) (hb2 : b < 256) : Builtin.bitOr (a * 256) b = a * 256 + b := by
  have h1 := bitXor_and (a * 256) b
  have h0 : Builtin.bitAnd (a * 256) b = 0 := by
    unfold Builtin.bitAnd
    rw [decide_eq_true (by omega : 0 ≤ a * 256), decide_eq_true hb]
    dsimp only
    have e : (a * 256).toNat = a.toNat * 256 := by omega
    rw [e, land_shift _ _ (by omega)]
    rfl
  have h2 : Builtin.bitXor (a * 256) b = Builtin.bitOr (a * 256) b - Builtin.bitAnd (a * 256) b := rfl
  omega
noncomputable def lc (a b : Int) : Int := Builtin.bitAnd (Builtin.bitOr (a * 2 ^ Int.toNat 8) b) 65535
theorem lc_eq {a b : Int} (ha : 0 ≤ a) (hb : 0 ≤ b) (hb2 : b < 256) : lc a b = (a * 256 + b) % 65536 := by
  show Builtin.bitAnd (Builtin.bitOr (a * 256) b) 65535 = _
  rw [bitOr_shift a b ha hb hb2, bitAnd_m16]
theorem lc_nonneg {a b : Int} (ha : 0 ≤ a) (hb : 0 ≤ b) (hb2 : b < 256) : 0 ≤ lc a b := by rw [lc_eq ha hb hb2]; omega
theorem idx_eq (v : Int) (k : Int) (hk : 0 < k) : Builtin.bitAnd (v.fdiv k) 63 = v / k % 64 := by
  rw [bitAnd_m6, Int.fdiv_eq_ediv_of_nonneg _ (by omega)]
theorem idx0 {x : Int} (h0 : 0 ≤ x) (h1 : x < 256) : Builtin.bitAnd ((lc 0 x).fdiv 4) 63 = x / 4 := by
  rw [idx_eq _ _ (by decide), lc_eq (by decide) h0 h1]; omega
theorem idx1 {x y : Int} (h0 : 0 ≤ x) (h1 : x < 256) (h2 : 0 ≤ y) (h3 : y < 256) : Builtin.bitAnd ((lc x y).fdiv 16) 63 = x % 4 * 16 + y / 16 := by
  rw [idx_eq _ _ (by decide), lc_eq h0 h2 h3]; omega
theorem idx2 {x y z : Int} (h0 : 0 ≤ x) (h1 : x < 256) (h2 : 0 ≤ y) (h3 : y < 256) (h4 : 0 ≤ z) (h5 : z < 256) : Builtin.bitAnd ((lc (x * 256 + y) z).fdiv 64) 63 = y % 16 * 4 + z / 64 := by
  rw [idx_eq _ _ (by decide), lc_eq (by omega) h4 h5]; omega
theorem idx3 {x y z : Int} (h0 : 0 ≤ x) (h1 : x < 256) (h2 : 0 ≤ y) (h3 : y < 256) (h4 : 0 ≤ z) (h5 : z < 256) : Builtin.bitAnd ((lc (x * 256 + y) z).fdiv 1) 63 = z % 64 := by
  rw [idx_eq _ _ (by decide), lc_eq (by omega) h4 h5]; omega
noncomputable def B64L : List Int := [65, 66, 67, 68, 69, 70, 71, 72, 73, 74, 75, 76, 77, 78, 79, 80, 81, 82, 83, 84, 85, 86, 87, 88, 89, 90, 97, 98, 99, 100, 101, 102, 103, 104, 105, 106, 107, 108, 109, 110, 111, 112, 113, 114, 115, 116, 117, 118, 119, 120, 121, 122, 48, 49, 50, 51, 52, 53, 54, 55, 56, 57, 43, 47]
noncomputable def b64 (i : Int) : Int := B64L.getD i.toNat 0
theorem item_b64 {prog : Program} {w : World} {A : Around} {E : Value → Shared → Prop} {s : Shared} {value slice : PySem.Expr} {b : Array UInt8} {t ui : Tok} {k i : Int} {Q : Value → Shared → Prop} (hk : KBw.bInts b = B64L) (e : k = i) (h0 : 0 ≤ i) (h1 : i < 64)
    (h : ∀ t' tk, 0 ≤ b64 i → b64 i < 256 → Q (.int (b64 i) t') { s with toks := tk })
    (hs : subscripted slice false (.bytes b t) (.int k ui) = operate [.bytes b t, .int k ui] (getItem (.bytes b t) (.int k ui)) := by with_unfolding_all rfl)
    (ht : ∀ r, letTemporaryGo value (.bytes b t) r = pure () := by intro _; with_unfolding_all rfl) : wpAny (model prog w) A (subscriptTail value slice (.bytes b t) (.int k ui)) Q E s := by
  subst e
  exact KBw.item_K hk (by decide) h0 (by show k < 64; exact h1) (fun t' tk ha hb => h t' tk ha hb) hs ht
end Mine

end
section
open PySem PySem.W PyProof.Rows PySem.Calls PySem.Spec
set_option Elab.async false
set_option maxRecDepth 100000
set_option maxHeartbeats 8000000
set_option linter.unusedVariables false
namespace Mine
theorem fr_shrB {g h : Heap} {L l : Addr} {m : Str → Option Value} {nv : Value} {a a' b b' : Int} {ta tb : Tok} (F : Fr g L h m) (ea : a = a') (eb : b = b') (h1 : m (Str.ofString "out") = some (.ref l)) (h2 : m (Str.ofString "newline") = some nv) (h3 : m (Str.ofString "leftbits") = some (.int a ta)) (h4 : m (Str.ofString "leftchar") = some (.int b tb)) :
    ∃ u ta tb, Fr g L h (mp [(Str.ofString "out", .ref l), (Str.ofString "newline", nv), (Str.ofString "leftbits", .int a' ta), (Str.ofString "leftchar", .int b' tb)] u) := by
  subst ea; subst eb
  exact ⟨m, ta, tb, by rw [← Has.mp (Has.cons h1 (Has.cons h2 (Has.cons h3 (Has.cons h4 Has.nil))))]; exact F⟩
theorem bInts_map {ns : List Int} (hr : ∀ n ∈ ns, 0 ≤ n ∧ n < 256) : KBw.bInts (ns.map fun n => n.toNat.toUInt8).toArray = ns := by
  show List.map _ (List.map _ ns) = ns
  rw [List.map_map]
  exact (List.map_congr_left (g := fun n => n) fun n hn => byte_back (hr n hn).1 (hr n hn).2).trans (List.map_id' ns)
section
local macro_rules | `(tactic| walk_at "exec For Name Name cons nil") => `(tactic| k_dflt (refine wpAny_For ?_))
theorem b2a_core {w : World} {mean : ExcName → Option Value} {mg mb : Str → Option Value} {dp un : Nat} {gd : Option (List Code)} {outer : List Env} {A₀ : Around} {base : Heap} {s : Shared} {x y z : UInt8} {t : Tok} {Q E : Value → Shared → Prop}
   (Bw : Below A₀ base outer s.heap) (X : (hd.heap_39 w.params).In s.heap) (T : Top hd.view_39 (looseW hd.view_39 [Str.ofString "b2a_base64", Str.ofString "b64encode"]) mean mg mb s.heap)
   (hdp : dp + 4 < recursionLimit) (hun : un + 40 < cLine)
   (ret : ∀ c t h' tk, KBw.bInts c = [b64 ((x.toNat : Int) / 4), b64 ((x.toNat : Int) % 4 * 16 + (y.toNat : Int) / 16), b64 ((y.toNat : Int) % 16 * 4 + (z.toNat : Int) / 64), b64 ((z.toNat : Int) % 64)] → Kp s.heap h' → Q (.bytes c t) { s with heap := h', toks := tk }) :
   wpAny (model PySem.Challenge.rw_om0005_01.row.prog w) (AA dp un gd outer) (call (.ref 50) [.bytes #[x, y, z] t] [(Str.ofString "newline", .bool false)]) Q E s := by
  revert X; k_fill; intro X
  have hkk : Kp s.heap s.heap := fun _ _ e => e
  refine wpAny_call ?_
  refine' enterG (binds := [(Str.ofString "data", .bytes #[x, y, z] t), (Str.ofString "newline", .bool false)]) ?k3 ?k5 ?kk ?ks ?km ?k6 ?k7 ?k8 ?k9 ?kB ?_ ?c2 ?c3 ?c4 ?c5
  (case k3 => assumption); (case k5 => assumption); (case kk => assumption); (case ks => first | exact Nat.le_refl _ | assumption); (case km => exact Own.nil)
  (case k6 => k_is); (case k7 => k_is); (case k8 => ktr_room); (case k9 => exact BindsTo.of_eq rfl); (case c5 => decide); (case kB => exact locs rfl); (case c2 => exact rfl); (case c3 => exact rfl); (case c4 => exact rfl)
  k_whole
  intro L' h' F' N' hlt'
  clear hlt' hkk
  (try dsimp only)
  (try k_fold)
  k_steps
  refine' use_pure Bw ?F X ?N T rfl rfl rfl ?_
  (case F => assumption)
  (case N => assumption)
  intro B2 X2 T2 back2
  refine buffer_core B2 X2 T2 (by show dp + 1 + 1 < recursionLimit; omega) (by show un + 3 + 10 < cLine; omega) ?_
  intro h9 tk9 hk9
  obtain ⟨F9, N9⟩ := back2 h9 [] hk9 Own.nil
  clear back2 B2 X2 T2 hk9
  rw [List.nil_append] at N9
  k_steps
  refine' use_pure Bw ?F X ?N T rfl rfl rfl ?_
  (case F => assumption)
  (case N => assumption)
  intro B2 X2 T2 back2
  refine truth_core B2 X2 T2 (by show dp + 1 + 1 < recursionLimit; omega) (by show un + 3 + 10 < cLine; omega) ?_
  intro h8 tk8 hk8
  obtain ⟨F8, N8⟩ := back2 h8 [] hk8 Own.nil
  clear back2 B2 X2 T2 hk8
  rw [List.nil_append] at N8
  k_steps
  (rename Fr _ _ _ _ => FA); (rename News _ _ _ _ => NA)
  refine iter_bytes_K FA NA ?_
  intro I hI oI hoc hod FI NI lI
  have hOI := neN (Nat.ne_of_lt (lI _ (.head _)))
  refine for_unroll ?_
  refine next_bytes_K (c := x) FI NI (List.forall_mem_cons.mpr ⟨hOI, List.forall_mem_nil _⟩) hoc hod rfl ?_
  intro hI2 oI2 hoc2 hod2 FI2 NI2
  dsimp only at hOI ⊢
  clear FI NI FA NA
  have hx : (x.toNat : Int) < 256 := Int.ofNat_lt.mpr x.toNat_lt
  have hy : (y.toNat : Int) < 256 := Int.ofNat_lt.mpr y.toNat_lt
  have hz : (z.toNat : Int) < 256 := Int.ofNat_lt.mpr z.toNat_lt
  have hx0 : (0 : Int) ≤ x.toNat := Int.natCast_nonneg _
  have hy0 : (0 : Int) ≤ y.toNat := Int.natCast_nonneg _
  have hz0 : (0 : Int) ≤ z.toNat := Int.natCast_nonneg _
  k_steps
  refine item_b64 (i := (x.toNat : Int) / 4) rfl (idx0 hx0 hx) (by omega) (by omega) ?_
  intro tb1 tkb1 hb10 hb11
  (rename Fr _ _ _ _ => FA)
  (try dsimp only at FA)
  (try dsimp only)
  k_steps
  (rename Fr _ _ _ _ => FB); (rename News _ _ _ _ => NB)
  (try dsimp only at FB)
  (try dsimp only)
  obtain ⟨u1, ta1, tb1', FU⟩ := fr_shrB (a' := 2) (b' := (x.toNat : Int)) FB rfl ((lc_eq (a := 0) (by decide) hx0 hx).trans (by omega)) rfl rfl rfl rfl
  refine for_unroll ?_
  refine next_bytes_K (i := 1) (c := y) FU NB (List.forall_mem_cons.mpr ⟨hOI, List.forall_mem_nil _⟩) hoc2 hod2 rfl ?_
  intro hI3 oI3 hoc3 hod3 FI3 NI3
  dsimp only at FI3 ⊢
  clear FB NB hoc2 hod2 FU
  k_steps
  refine item_b64 (i := (x.toNat : Int) % 4 * 16 + (y.toNat : Int) / 16) rfl (idx1 hx0 hx hy0 hy) (by omega) (by omega) ?_
  intro tb2 tkb2 hb20 hb21
  (rename Fr _ _ _ _ => FA)
  (try dsimp only at FA)
  (try dsimp only)
  k_steps
  (rename Fr _ _ _ _ => FB); (rename News _ _ _ _ => NB)
  (try dsimp only at FB)
  (try dsimp only)
  obtain ⟨u2, ta2, tb2', FU⟩ := fr_shrB (a' := 4) (b' := (x.toNat : Int) * 256 + y.toNat) FB rfl ((lc_eq (a := x.toNat) hx0 hy0 hy).trans (by omega)) rfl rfl rfl rfl
  refine for_unroll ?_
  refine next_bytes_K (i := 2) (c := z) FU NB (List.forall_mem_cons.mpr ⟨hOI, List.forall_mem_nil _⟩) hoc3 hod3 rfl ?_
  intro hI4 oI4 hoc4 hod4 FI4 NI4
  dsimp only at FI4 ⊢
  clear FB NB hoc3 hod3 FU
  k_steps
  refine item_b64 (i := (y.toNat : Int) % 16 * 4 + (z.toNat : Int) / 64) rfl (idx2 hx0 hx hy0 hy hz0 hz) (by omega) (by omega) ?_
  intro tb3 tkb3 hb30 hb31
  (rename Fr _ _ _ _ => FA)
  (try dsimp only at FA)
  (try dsimp only)
  k_steps
  refine item_b64 (i := (z.toNat : Int) % 64) rfl (idx3 hx0 hx hy0 hy hz0 hz) (by omega) (by omega) ?_
  intro tb4 tkb4 hb40 hb41
  (rename Fr _ _ _ _ => FA)
  (try dsimp only at FA)
  (try dsimp only)
  k_steps
  (rename Fr _ _ _ _ => FB); (rename News _ _ _ _ => NB)
  (try dsimp only at FB)
  (try dsimp only)
  obtain ⟨u3, ta3, tb3', FU⟩ := fr_shrB (a' := 0) FB rfl rfl rfl rfl rfl rfl
  refine for_unroll ?_
  refine end_bytes_K (i := 3) rfl FU NB (List.forall_mem_cons.mpr ⟨hOI, List.forall_mem_nil _⟩) hoc4 hod4 rfl ?_
  intro hI5 FI5 NI5
  dsimp only at FI5 ⊢
  clear FB NB hoc4 hod4 FU
  k_steps
  (rename Fr _ _ _ _ => FA); (rename News _ _ _ _ => NA)
  have hin : ∀ n ∈ [b64 ((x.toNat : Int) / 4), b64 ((x.toNat : Int) % 4 * 16 + (y.toNat : Int) / 16), b64 ((y.toNat : Int) % 16 * 4 + (z.toNat : Int) / 64), b64 ((z.toNat : Int) % 64)], 0 ≤ n ∧ n < 256 :=
    List.forall_mem_cons.mpr ⟨⟨hb10, hb11⟩, List.forall_mem_cons.mpr ⟨⟨hb20, hb21⟩, List.forall_mem_cons.mpr ⟨⟨hb30, hb31⟩, List.forall_mem_cons.mpr ⟨⟨hb40, hb41⟩, List.forall_mem_nil _⟩⟩⟩⟩
  refine bytes_K FA NA ⟨_, (NA _ (.head _)).1, rfl, _, rfl⟩ (.cons _ _ (.cons _ _ (.cons _ _ (.cons _ _ .nil)))) hin (by show 4 ≤ sizeLine; rw [sizeLine_eq]; decide) rfl ?_
  intro h5 t5 k5 F5 N5 _
  exact ret _ _ _ _ (bInts_map hin) (fun b o e => Fr.keep F5 b o e)
end
end Mine

end
section
open PySem PySem.W PyProof.Rows PySem.Calls PySem.Spec
set_option Elab.async false
set_option maxRecDepth 100000
set_option maxHeartbeats 8000000
set_option linter.unusedVariables false
namespace Mine
noncomputable def b64s (x y z : UInt8) : List Int := [b64 ((x.toNat : Int) / 4), b64 ((x.toNat : Int) % 4 * 16 + (y.toNat : Int) / 16), b64 ((y.toNat : Int) % 16 * 4 + (z.toNat : Int) / 64), b64 ((z.toNat : Int) % 64)]
theorem b64encode_core {w : World} {mean : ExcName → Option Value} {mg mb : Str → Option Value} {dp un : Nat} {gd : Option (List Code)} {outer : List Env} {A₀ : Around} {base : Heap} {s : Shared} {x y z : UInt8} {t : Tok} {Q E : Value → Shared → Prop}
   (Bw : Below A₀ base outer s.heap) (X : (hd.heap_39 w.params).In s.heap) (T : Top hd.view_39 (looseW hd.view_39 [Str.ofString "b2a_base64", Str.ofString "b64encode"]) mean mg mb s.heap)
   (hdp : dp + 5 < recursionLimit) (hun : un + 50 < cLine)
   (ret : ∀ c t h' tk, KBw.bInts c = b64s x y z → Kp s.heap h' → Q (.bytes c t) { s with heap := h', toks := tk }) :
   wpAny (model PySem.Challenge.rw_om0005_01.row.prog w) (AA dp un gd outer) (call (.ref 58) [.bytes #[x, y, z] t]) Q E s := by
  revert X; k_fill; intro X
  have hkk : Kp s.heap s.heap := fun _ _ e => e
  refine wpAny_call ?_
  refine' enterG (binds := [(Str.ofString "s", .bytes #[x, y, z] t), (Str.ofString "altchars", .none)]) ?k3 ?k5 ?kk ?ks ?km ?k6 ?k7 ?k8 ?k9 ?kB ?_ ?c2 ?c3 ?c4 ?c5
  (case k3 => assumption); (case k5 => assumption); (case kk => assumption); (case ks => first | exact Nat.le_refl _ | assumption); (case km => exact Own.nil)
  (case k6 => k_is); (case k7 => k_is); (case k8 => ktr_room); (case k9 => exact binds_K X rfl (by k_is) rfl rfl rfl); (case c5 => decide); (case kB => exact locs rfl); (case c2 => exact rfl); (case c3 => exact rfl); (case c4 => exact rfl)
  k_whole
  intro L' h' F' N' hlt'
  clear hlt' hkk
  (try dsimp only)
  (try k_fold)
  k_steps
  refine' use_pure Bw ?F X ?N T rfl rfl rfl ?_
  (case F => assumption)
  (case N => assumption)
  intro B2 X2 T2 back2
  refine b2a_core B2 X2 T2 (by show dp + 1 + 4 < recursionLimit; omega) (by show un + 3 + 40 < cLine; omega) ?_
  intro c9 t9 h9 tk9 hc9 hk9
  obtain ⟨F9, N9⟩ := back2 h9 [] hk9 Own.nil
  clear back2 B2 X2 T2 hk9
  rw [List.nil_append] at N9
  k_steps
  exact ret _ _ _ _ hc9 (fun b o e => Fr.keep (by assumption) b o e)
end Mine

end
section
open PySem PySem.W PyProof.Rows PySem.Calls PySem.Spec
set_option Elab.async false
set_option maxRecDepth 100000
set_option maxHeartbeats 8000000
set_option linter.unusedVariables false
namespace Mine
theorem fr_shr {g h : Heap} {L : Addr} {m : Str → Option Value} {ps : List (Str × Value)} (F : Fr g L h m) (hm : Has m ps) : ∃ u, Fr g L h (mp ps u) := ⟨m, by rw [← hm.mp]; exact F⟩
section
variable {prog : Program} {w : World} {A₀ A : Around} {s : Shared} {base g : Heap} {K : Frag} {p : Program} {loose : List Str} {mean : ExcName → Option Value} {mg mb : Str → Option Value}
  {R : Result → Shared → Prop} {name qual : Str} {params : Arguments} {body : List Stmt} {scope : Scope} {dV kV doc pm cdv ct oc : Value} {an od : Option Addr} {osl : Array (Option Value)} {f : Addr} {args : Args} {binds : List (Str × Value)}
theorem enterC (X : K.In s.heap) (T : Top p loose mean mg mb s.heap)
    (ho : K.lookup f = some ⟨oc, od, .func (fnOf name qual params body scope dV kV doc pm an cdv ct), osl⟩) (hcd : codeIn K cdv qual = true) (hroom : A.depth < recursionLimit)
    (hbind : BindsTo s (fnOf name qual params body scope dV kV doc pm an cdv ct) args binds) (hkind : (binds.all fun y => scope.names.lookup y.1 == some .local || scope.names.lookup y.1 == some .cell) = true)
    (hnd : ((cellsFrom 0 scope.names []).map (·.1)).Nodup)
    (h : ∀ L' h₁ tk cells, Fr s.heap L' h₁ (bindL (envOfC qual scope L' f cdv).kindOf binds fun _ => none) → News s.heap L' h₁ cells →
      CellsAre (bindC (envOfC qual scope L' f cdv).kindOf binds fun _ => none) (cellsFrom (L' + 1) scope.names []) cells →
      wpAny (model prog w) (A.deeper (envOfC qual scope L' f cdv)) (execs body (envOfC qual scope L' f cdv))
        (fun fl s' => R (.ok (.ret (match fl with | .ret v => v | _ => .none))) s')
        (fun e s' => wpAny (model prog w) (A.deeper (envOfC qual scope L' f cdv)) (leaving (envOfC qual scope L' f cdv) e) (fun _ s'' => R (.error e) s'') (fun e' s'' => R (.error e') s'') s')
        { s with heap := h₁, toks := tk })
    (hco : scope.isCoroutine = false) (hgen : scope.isGenerator = false) (hk : scope.kind = .function) : codeAny (model prog w) A (.call (.ref f) args) R s := by
  refine codeAny_call_function (fd := fnOf name qual params body scope dV kV doc pm an cdv ct) hroom (X _ _ ho) rfl hco hgen rfl (codeRec_of X hcd) (hbind _ _ _ _ ?_)
  refine wpAny_newFunctionEnv_cells hk (kindsX hkind _) fun env' he s' x => ?_
  subst he
  refine ⟨T.nolimit.keeps x.toInCall.keep, codeAny_func ?_⟩
  obtain ⟨h₁, tk, rfl, _⟩ := x.done
  have hk₁ := x.toInCall.keep
  obtain ⟨cells, NC, Y⟩ := Cl.news (h₀ := s.heap) (Nat.le_refl _) fun n c hm => ⟨x.cell n c (lookup_of_mem_nodup (cellsFrom_names scope.names 0 (s.heap.objs.size + 1) [] [] rfl ▸ hnd) hm), x.above n c hm⟩
  exact h s.heap.objs.size h₁ tk cells ⟨x.toInCall.ns, hk₁, Nat.le_refl _⟩ NC Y
end
end Mine

end
section
open PySem PySem.W PyProof.Rows PySem.Calls PySem.Spec PySem.Builtin
set_option Elab.async false
set_option maxRecDepth 100000
set_option maxHeartbeats 8000000
set_option linter.unusedVariables false
namespace Mine
theorem args_decode_2 (a b : Value) : argsOk "bytes.decode" ⟨[a, b], []⟩ := by
  unfold argsOk; rw [signature?_of (id := "bytes.decode") (n := ['e', 'd', 'o', 'c', 'e', 'd']) (o := ['s', 'e', 't', 'y', 'b']) (by kernel_rfl) FB.owner_bytes]; kernel_rfl
theorem road_ascii {id : String} {b : Array UInt8} : _codecs.decodeRoad id b (PySem.Str.ofString "ascii") none [] = (_codecs.runDecoder id _codecs.asciiDecoder none true b 0 [] >>= fun r => mkStr ⟨r.1⟩) := by kernel_rfl
theorem dec_entry {c : UInt8} {cs : List UInt8} {t u : Tok} : «bytes.decode» ⟨[.bytes (c :: cs).toArray t, .str (PySem.Str.ofString "ascii") u], []⟩ = (mkStr (PySem.Str.ofString "utf-8") >>= fun _ => mkStr (PySem.Str.ofString "ascii") >>= fun e => mkStr (PySem.Str.ofString "bytes.decode") >>= fun d =>
    call (.builtin "_codecs.decode.text") [.bytes (c :: cs).toArray t, e, .none, d] >>= fun v => ret v) := by kernel_rfl
theorem run_ascii {id : String} {a b c d : UInt8} (ha : a.toNat < 128) (hb : b.toNat < 128) (hc : c.toNat < 128) (hd : d.toNat < 128) :
    _codecs.runDecoder id _codecs.asciiDecoder none true #[a, b, c, d] 0 [] = pure (#[a.toNat, b.toNat, c.toNat, d.toNat], 4) := by
  unfold _codecs.runDecoder
  simp [_codecs.asciiDecoder, _codecs.Found.char, Std.Legacy.Range.forIn_eq_forIn_range', Std.Legacy.Range.size, List.range', ha, hb, hc, hd, sizeLine_eq]
theorem text_ascii {b : Array UInt8} {x : PySem.Str} {n : Nat} {t t1 t2 : Tok} {d : PySem.Str} (hd : ∀ id, _codecs.runDecoder id _codecs.asciiDecoder none true b 0 [] = pure (x.cps, n)) :
    Meets («_codecs.decode.text» ⟨[.bytes b t, .str (PySem.Str.ofString "ascii") t1, .none, .str d t2], []⟩) (fun _ R s => x.length ≤ sizeLine ∧ R (.ok (.ret (.str x s.toks))) { s with toks := s.toks + 1 }) := by
  refine .of_wp fun prog w A R s hS => ?_
  obtain ⟨hsz, h⟩ := hS
  show wpAny _ _ (Bytes.bytesLike _ (.bytes b t) >>= fun r => _) _ _ s
  refine wpAny_bind (wpAny_of_eq KBd.like_eq ?_)
  refine wpAny_bind (wpAny_of_eq KBd.held_eq ?_)
  show wpAny _ _ (_codecs.decodeRoad _ b (PySem.Str.ofString "ascii") none [] >>= fun v => _) _ _ s
  rw [road_ascii, hd]
  refine wpAny_bind (wpAny_bind (wpAny_pure ?_))
  exact wpAny_mkStr (wpAny_pure ⟨_, rfl, h⟩) hsz
theorem meets_ascii {c : UInt8} {cs : List UInt8} {x : PySem.Str} {n : Nat} {t u : Tok} (hd : ∀ id, _codecs.runDecoder id _codecs.asciiDecoder none true (c :: cs).toArray 0 [] = pure (x.cps, n)) :
    Meets («bytes.decode» ⟨[.bytes (c :: cs).toArray t, .str (PySem.Str.ofString "ascii") u], []⟩) (fun _ R s => x.length ≤ sizeLine ∧ ∀ t' k, R (.ok (.ret (.str x t'))) { s with toks := k }) := by
  refine .of_wp fun prog w A R s hS => ?_
  obtain ⟨hsz, h⟩ := hS
  rw [dec_entry]
  refine wpAny_bind (wpAny_mkStr ?_ (by decide))
  refine wpAny_bind (wpAny_mkStr ?_ (by decide))
  refine wpAny_bind (wpAny_mkStr ?_ (by decide))
  exact wpAny_bind (call_function_meets KBd.kind_text KBd.plain_text KBd.entry_text (KBd.args_text _ _ _ _) (text_ascii hd) ⟨hsz, wpAny_pure ⟨_, rfl, h _ _⟩⟩)
theorem decode_ascii {prog : Program} {w : World} {A : Around} {E : Value → Shared → Prop} {s : Shared} {a b c d : UInt8} {t u : Tok} {Q : Value → Shared → Prop} (ha : a.toNat < 128) (hb : b.toNat < 128) (hc : c.toNat < 128) (hd : d.toNat < 128)
    (h : ∀ t' k, Q (.str ⟨#[a.toNat, b.toNat, c.toNat, d.toNat]⟩ t') { s with toks := k }) :
    wpAny (model prog w) A (call (.builtin "bytes.decode") [.bytes #[a, b, c, d] t, .str (PySem.Str.ofString "ascii") u]) Q E s :=
  call_meets FB.slot_bytes_decode (typeIs_bytes _ _ _) FB.entry_bytes_decode (args_decode_2 _ _) (meets_ascii (n := 4) fun id => run_ascii ha hb hc hd) ⟨by rw [sizeLine_eq]; exact Nat.le_of_ble_eq_true rfl, h⟩

section
variable {prog : Program} {w : World} {A : Around} {E : Value → Shared → Prop} {s : Shared} {h₀ : Heap} {L : Addr} {m : Str → Option Value} {env : Env}
theorem rest_ints {elt : PySem.Expr} {x : Str} {scope : Scope} {cl : List (Str × Addr)} {S : List (Addr × Obj) → Prop} {P : Nat → Value → Prop} {Fin : List Value → List (Addr × Obj) → Prop} {news : List (Addr × Obj)} {n : Nat} (f : Nat → Int)
    (turn : ∀ i v I oI C oC D m₂ ys h tk (E' : Value → Shared → Prop), i < n → P i v → LCg.NsObj oC m₂ → m₂ x = some v → Fr h₀ L h m → News h₀ L h ((I, oI) :: (C, oC) :: (D, LCg.lst ys) :: news) → LCg.Off3 I C D news → ((@Ne Nat I C) ∧ (@Ne Nat I D) ∧ (@Ne Nat C D)) →
      wpAny (model prog w) A (eval elt (compEnvC scope cl C env)) (LCg.CompEnd h₀ L m { s with heap := h, toks := tk } I oI C oC D (LCg.lst ys) S (fun y news' => news' = news ∧ ∃ t, y = .int (f i) t)) E' { s with heap := h, toks := tk })
    (fin : ∀ ys, IntsAre ys ((List.range n).map f) → Fin ys news) : LCg.CompRest prog w A h₀ L m env elt x scope cl s S P Fin n 0 [] news := by
  have key : ∀ (j i : Nat) (ys : List Value), i + j = n → IntsAre ys ((List.range i).map f) → LCg.CompRest prog w A h₀ L m env elt x scope cl s S P Fin j i ys news := by
    intro j
    induction j with
    | zero =>
      intro i ys hi hy
      obtain rfl : i = n := by omega
      exact LCg.CompRest.zero (fin ys hy)
    | succ j ih =>
      intro i ys hi hy
      refine LCg.CompRest.succ ?_
      intro v I oI C oC D m₂ h tk E' hv hC hx F N off ne
      refine wpAny_mono (turn i v I oI C oC D m₂ ys h tk E' (by omega) hv hC hx F N off ne) (fun y s₂ hq => ?_) fun _ _ e => e
      obtain ⟨h', tk', nw, e, F', N', off', hS, hn, t', hy'⟩ := hq
      rw [hn] at N' off' hS
      refine ⟨h', tk', news, e, F', N', off', hS, ?_⟩
      rw [hy']
      refine ih (i + 1) _ (by omega) ?_
      rw [List.range_succ, List.map_append]
      exact hy.append (.cons _ _ .nil)
  exact key n 0 [] (by omega) .nil
def StrSrc (prog : Program) (w : World) (A : Around) (h₀ : Heap) (L : Addr) (m : Str → Option Value) (env : Env) (elt : PySem.Expr) (x : Str) (scope : Scope) (cl : List (Str × Addr)) (Q : Value → Shared → Prop) (xv : Value) (s₁ : Shared) : Prop :=
  ∃ z t news, xv = .str z t ∧ z.cps.all (· < 128) = true ∧ A.handled = none ∧ Fr h₀ L s₁.heap m ∧ News h₀ L s₁.heap news ∧ z.cps.size ≤ sizeLine ∧
      ∀ s₂ : Shared, (∃ h, s₂ = { s₁ with heap := h }) → LCg.CompRest prog w A h₀ L m env elt x scope cl s₂ (fun _ => True) (SignAt z) (LCg.FinE h₀ L m s₂ Q) z.cps.size 0 [] news
theorem comp_str {elt iter : PySem.Expr} {x : Str} {px : Pos} {scope : Scope} {cl : List (Str × Addr)} {pos : Pos} {Q : Value → Shared → Prop} (F₀ : Fr h₀ L s.heap m)
    (hclos : closureFor scope env = pure cl) (hcell : ∀ y ∈ scope.names, y.2 ≠ .cell) (hkind : scope.kind = .function)
    (hnames : ∀ y ∈ scope.names, y.2 = .local → scope.names.lookup y.1 = some .local) (hx : scope.names.lookup x = some .local)
    (h : wpAny (model prog w) A (eval iter env) (StrSrc prog w A h₀ L m env elt x scope cl Q) E s)
    (hs : ∀ x, foldedSetIterable iter env x = pure x := by intro _; rfl) :
    wpAny (model prog w) A (eval (.ListComp elt [⟨.Name x px, iter, [], 0⟩] scope pos) env) Q E s := by
  rw [eval_ListComp]
  refine wpAny_comprehension_free (use := none) rfl hs hclos hkind hnames (wpAny_mono h (fun xv s₁ h₁ => ?_) fun _ _ e => e)
  obtain ⟨z, t, news, rfl, ha, hh, F, N, hsz, R⟩ := h₁
  refine wpAny_pyIter_ascii ha ?_
  have up : ∀ b o, s₁.heap.get? b = some o → (s₁.heap.push { cls := .type "str_ascii_iterator", data := .fields #[.str z t, .int 0 0] }).get? b = some o := fun b o e => Heap.get?_push_of_some _ e
  refine LCg.block_U (Walks.strAscii hh s₁.heap.objs.size z t) hsz (fun i h st => by obtain ⟨o, e, _⟩ := st; exact ⟨o, e⟩) (fun i h h' o nw st e e' _ _ _ => by obtain ⟨o', q, r⟩ := st; rw [e] at q; cases q; exact ⟨o, e', r⟩) hcell hkind hx ⟨_, Heap.get?_push_size _ rfl, rfl, rfl⟩ (fun b hb => ?_)
    (F.keeps up) (N.grown up) (Nat.ne_of_lt F.ns.lt) (next_is_new F) (fun p hp => Nat.ne_of_lt (Heap.lt_size (N p hp).1)) trivial (R _ ⟨_, rfl⟩) ?_
  · rw [List.mem_singleton.mp hb]
    show s₁.heap.objs.size < (s₁.heap.push _).objs.size
    rw [Heap.size_push]; exact Nat.lt_succ_self _
  · intro D C h tk m' ys news' F' N' o1 hn hC₀ hD₀ hCL hDL hCD offC fin
    refine ⟨m', hn, fun h'' hs'' => fin D h'' tk (F'.change hs'' hCL hC₀) (fun p hp => ?_) o1⟩
    refine ⟨hs''.extBut _ _ ?_ (N' p hp).1, (N' p hp).2⟩
    rcases List.mem_cons.mp hp with rfl | hp
    · exact Ne.symm hCD
    · exact offC p hp
end
abbrev alpha : PySem.Str := PySem.Str.ofString "ABCDEFGHIJKLMNOPQRSTUVWXYZabcdefghijklmnopqrstuvwxyz0123456789+/"
theorem occ_all : ∀ k ∈ List.range 64, Builtin.Str.occurrences alpha ⟨#[(B64L.getD k 0).toNat]⟩ 0 alpha.length 1 = [k] := by decide +kernel
theorem occ_b64 {i : Int} (h0 : 0 ≤ i) (h1 : i < 64) : Builtin.Str.occurrences alpha ⟨#[(b64 i).toNat]⟩ 0 alpha.length 1 = [i.toNat] := occ_all i.toNat (List.mem_range.mpr (by omega))
theorem four_bytes {c : Array UInt8} {a b d e : Int} (h : KBw.bInts c = [a, b, d, e]) : ∃ c0 c1 c2 c3 : UInt8, c = #[c0, c1, c2, c3] ∧ (c0.toNat : Int) = a ∧ (c1.toNat : Int) = b ∧ (c2.toNat : Int) = d ∧ (c3.toNat : Int) = e := by
  obtain ⟨l⟩ := c
  match l, h with
  | [c0, c1, c2, c3], h =>
    simp only [KBw.bInts, List.map_cons, List.map_nil, List.cons.injEq, and_true] at h
    exact ⟨c0, c1, c2, c3, rfl, h.1, h.2.1, h.2.2.1, h.2.2.2⟩
theorem b64_lt : ∀ k ∈ List.range 64, 0 ≤ B64L.getD k 0 ∧ B64L.getD k 0 < 128 := by decide +kernel
theorem b64_le {i : Int} (h0 : 0 ≤ i) (h1 : i < 64) : 0 ≤ b64 i ∧ b64 i < 128 := b64_lt i.toNat (List.mem_range.mpr (by omega))
end Mine

end
section
open PySem PySem.W PyProof.Rows PySem.Calls PySem.Spec PySem.Builtin
set_option Elab.async false
set_option maxRecDepth 100000
set_option maxHeartbeats 8000000
set_option linter.unusedVariables false
namespace Mine
theorem seq_list_iadd : seqSlot? (.type "list") (dunderI "add") = pure (some (.builtin "list.__iadd__")) := PySem.seqSlot_of F.slot_list_iadd.lookup (by decide +kernel)
section
variable {prog : Program} {w : World} {A : Around} {E : Value → Shared → Prop} {s : Shared}
theorem iadd_list_any {l b : Addr} {ol ob : Obj} {xs ys : Array Value} {n k : Nat} {Q : Value → Shared → Prop} (hl : s.heap.get? l = some (W.listOf xs n)) (hb : s.heap.get? b = some (W.listOf ys k)) (hz : xs.size + ys.size ≤ 1000)
    (h : Q (.ref l) { s with heap := s.heap.update l (Obj.mapSeq fun x => x ++ ys) }) : wpAny (model prog w) A (inplaceOp .Add (.ref l) (.ref b)) Q E s := by
  have ha : s.TypeIs (.ref l) "list" := ⟨_, hl, rfl⟩
  have hb' : s.TypeIs (.ref b) "list" := ⟨_, hb, rfl⟩
  have hfi : fillsInplaceSlot (.type "list") "add" (Operator.Add == .Add) = pure false := by
    unfold fillsInplaceSlot
    show (typeLookup (.type "list") (dunderI "add") >>= fun fi => pure (fi.isSome && !isSeqSlot fi)) = pure false
    rw [F.slot_list_iadd.lookup]; kernel_rfl
  unfold inplaceOp
  refine wpAny_holding ?_
  refine wpAny_bind (wpAny_typeOf ha (wpAny_bind (wpAny_of_eq hfi ?_)))
  show wpAny _ A (if false = true then _ else _) Q E s
  rw [if_neg Bool.false_ne_true]
  refine wpAny_bind (wpAny_binaryOp1_none (nm := "add") ha hb' noFill_list_add ?_)
  refine wpAny_bind (wpAny_of_eq seq_list_iadd ?_)
  refine wpAny_bind (wpAny_rule ?_)
  refine call_meets F.slot_list_iadd ha F.entry_list_iadd (F.args_list_iadd_2 _ _) (PySem.AutoSeq1.list___iadd___list_list_0 l xs n b ys k ?_ ?_ ?_) ⟨hl, hb, ?_⟩
  · have : Builtin.List.listTooLong (xs.size + ys.size) = false := by
      unfold Builtin.List.listTooLong
      rw [sizeLine_eq]
      exact decide_eq_false (by omega)
    rw [this, Bool.and_false]
    exact Bool.false_ne_true
  · rw [sizeLine_eq]; omega
  · rw [sizeLine_eq]; omega
  · exact h
end
section
variable {prog : Program} {w : World} {A : Around} {E : Value → Shared → Prop} {s : Shared} {g : Heap} {L : Addr} {m : Str → Option Value} {news : List (Addr × Obj)}
theorem iadd_list_K {l b : Addr} {xs ys : Array Value} {n k : Nat} {Q : Value → Shared → Prop} (F : Fr g L s.heap m) (N : News g L s.heap ((l, W.listOf xs n) :: news)) (hap : ∀ p ∈ news, p.1 ≠ l) (hb : (b, W.listOf ys k) ∈ news) (hz : xs.size + ys.size ≤ 1000)
    (h : ∀ h' n', Fr g L h' m → News g L h' ((l, W.listOf (xs ++ ys) n') :: news) → Q (.ref l) { s with heap := h' }) : wpAny (model prog w) A (inplaceOp .Add (.ref l) (.ref b)) Q E s := by
  have hl := (N _ (.head _)).1
  refine iadd_list_any (ol := default) (ob := default) hl (N _ (.tail _ hb)).1 hz ?_
  have hs : Heap.SameBut l s.heap (s.heap.update l (Obj.mapSeq fun x => x ++ ys)) := Heap.SameBut.update ..
  obtain ⟨n', e⟩ : ∃ n', Obj.mapSeq (fun x => x ++ ys) (W.listOf xs n) = W.listOf (xs ++ ys) n' := ⟨_, rfl⟩
  have hg := Heap.get?_update_self (Obj.mapSeq fun x => x ++ ys) hl (by rw [e]; rfl)
  rw [e] at hg
  exact h _ n' (fr_change F N hs) (N.setHead hap hs hg)
end
end Mine

end
section
open PySem PySem.W PyProof.Rows PySem.Calls PySem.Spec
set_option Elab.async false
set_option maxRecDepth 100000
set_option maxHeartbeats 8000000
set_option linter.unusedVariables false
namespace Mine
noncomputable def trow (bits : Int) (i : Nat) : Int := bits / 2 ^ (5 - i) % 16777216
noncomputable def tfig (bits : Int) (i : Nat) (k : Nat) : Int := trow bits i / 2 ^ (18 - 6 * k) % 64
noncomputable def tf (bits : Int) (i : Nat) : List Int := (List.range i).flatMap fun st => (List.range 4).map (tfig bits st)
def TJ (bits : Int) (D c : Addr) (i : Nat) (m : Str → Option Value) (news : List (Addr × Obj)) : Prop :=
  ∃ vs n o ts tb, o.data = .cell (some (.str alpha ts)) ∧ IntsAre vs (tf bits i) ∧ Has m [(Str.ofString "bits", .int bits tb), (Str.ofString "figures", .ref D)] ∧ news = [(D, W.listOf vs.toArray n), (c, o)]
theorem tf_succ (bits : Int) (i : Nat) : tf bits (i + 1) = tf bits i ++ (List.range 4).map (tfig bits i) := by
  unfold tf
  show (List.range (i + 1)).flatMap (fun st => (List.range 4).map (tfig bits st)) = _
  rw [List.range_succ (n := i), List.flatMap_append, List.flatMap_cons, List.flatMap_nil, List.append_nil]
theorem tf_len (bits : Int) (i : Nat) : (tf bits i).length = 4 * i := by
  induction i with
  | zero => rfl
  | succ i ih => rw [tf_succ, List.length_append, ih]; simp; omega
theorem trow_eq (bits : Int) (i : Nat) (hi : i < 6) : (bits.fdiv (2 ^ (5 - (0 + (i : Int) * 1)).toNat)).fmod (2 ^ Int.toNat 24) = trow bits i := by
  have e : (5 - (0 + (i : Int) * 1)).toNat = 5 - i := by omega
  rw [e, Int.fdiv_eq_ediv_of_nonneg _ (Int.le_of_lt (Int.pow_pos (by decide))), Int.fmod_eq_emod_of_nonneg _ (by decide)]
  rfl
theorem trow_bd (bits : Int) (i : Nat) : 0 ≤ trow bits i ∧ trow bits i < 16777216 := by unfold trow; omega
theorem u8 {n : Int} (h0 : 0 ≤ n) (h1 : n < 256) : ((n.toNat.toUInt8.toNat : Nat) : Int) = n := byte_back h0 h1
section
local macro_rules | `(tactic| walk_at "eval ListComp") => `(tactic| k_dflt (refine comp_str (F₀ := by k_asm) (by with_unfolding_all rfl) (by decide) (by rfl) (by decide) (by rfl) ?_))
local macro_rules | `(tactic| walk_at "call builtin:bytes.decode") => `(tactic| k_dflt (refine decode_ascii (by assumption) (by assumption) (by assumption) (by assumption) ?_; intro _ _))
local macro_rules | `(tactic| walk_at "call builtin:str.index") => `(tactic| k_dflt (refine SC.index (by assumption) ?_))
local macro_rules | `(tactic| walk_at "binaryOp FloorDiv int int") => `(tactic| k_dflt (refine floordiv_int (Int.ne_of_gt (Int.pow_pos (by decide : (0:Int) < 2))) ?_))
local macro_rules | `(tactic| walk_at "exec For Name Call cons nil") => `(tactic| k_dflt (refine wpAny_For ?_))
theorem told_core {w : World} {mean : ExcName → Option Value} {mg mb : Str → Option Value} {dp un : Nat} {gd : Option (List Code)} {outer : List Env} {A₀ : Around} {base : Heap} {s : Shared} {bits : Int} {t : Tok} {Q E : Value → Shared → Prop}
   (Bw : Below A₀ base outer s.heap) (X : (hd.heap_39 w.params).In s.heap) (T : Top hd.view_39 (looseW hd.view_39 [Str.ofString "b2a_base64", Str.ofString "b64encode"]) mean mg mb s.heap)
   (h0 : 0 ≤ bits) (h1 : bits < 536870912)
   (hdp : dp + 6 < recursionLimit) (hun : un + 60 < cLine)
   (ret : ∀ D vs n h' tk, Kp s.heap h' → IntsAre vs (tf bits 6) → Own s.heap h' [(D, W.listOf vs.toArray n)] → Q (.ref D) { s with heap := h', toks := tk }) :
   wpAny (model PySem.Challenge.rw_om0005_01.row.prog w) (AA dp un gd outer) (call (.ref 105) [.int bits t]) Q E s := by
  revert X; k_fill; intro X
  refine wpAny_call ?_
  refine' enterC (binds := [(Str.ofString "bits", .int bits t)]) X T ?k6 ?k7 ?k8 ?k9 ?kB ?kD ?_ ?c2 ?c3 ?c4
  (case k6 => k_is); (case k7 => k_is); (case k8 => ktr_room); (case k9 => exact BindsTo.of_eq rfl); (case kB => exact rfl); (case kD => decide +kernel); (case c2 => exact rfl); (case c3 => exact rfl); (case c4 => exact rfl)
  k_whole
  intro L' h' tk' cells' F' N' Y'
  k_cells Y'
  (try simp only [List.cons_append, List.nil_append] at N')
  (try dsimp only)
  (try k_fold)
  k_steps
  rename_i D hD1 lD hD2 F8 N8 hh tkk u1 u2 u3 hR FR NR hKR
  clear F8 N8 hKR
  refine pyIter_range_K FR NR hR rfl ?_
  intro I hI FI NI lI
  refine for_range (n := 6) (a := 0) (c := 1) (L := L') (g := s.heap) rfl rfl rfl rfl FI NI (List.forall_mem_cons.mpr ⟨Nat.ne_of_lt (lI _ (.head _)), List.forall_mem_cons.mpr ⟨Nat.ne_of_lt (lI _ (.tail _ (.head _))), List.forall_mem_nil _⟩⟩) (TJ bits D (L' + 1)) ?h0 ?turn ?done
  case h0 => exact ⟨[], 0, _, _, _, (by assumption), .nil, Has.cons rfl (Has.cons rfl Has.nil), rfl⟩
  case done => 
    intro m₁ news₁ h tk hJ F1 N1
    obtain ⟨vs, n, o, ts, tb, ho, hv, hm, rfl⟩ := hJ
    rw [hm.mp] at F1
    dsimp only
    k_steps
    exact ret D vs n _ _ (fun b o e => F1.keep b o e) hv (own_of_news (fun p hp => N1 p (by rw [List.mem_singleton.mp hp]; exact .head _)))
  case turn =>
    intro i m₁ news₁ h tkz tt hi6 hJ hap F1 N1
    obtain ⟨vs, n, o, ts, tb, ho, hv, hm, rfl⟩ := hJ
    rw [hm.mp] at F1
    clear hm NI FI lI FR NR hR
    have hID := neN (hap _ (.head _))
    have hIc := neN (hap _ (.tail _ (.head _)))
    clear hap
    dsimp only at hID hIc ⊢
    k_steps
    (rename Fr _ _ _ _ => FA); (rename News _ _ _ _ => NA)
    rename_i hDl _ _
    dsimp only at FA NA ⊢
    rw [trow_eq bits i hi6] at FA NA
    obtain ⟨hr0, hr1⟩ := trow_bd bits i
    obtain ⟨row, hrow⟩ : ∃ row, trow bits i = row := ⟨_, rfl⟩
    rw [hrow] at FA NA hr0 hr1
    have hin : ∀ n ∈ [row.fdiv 65536, (row.fdiv 256).fmod 256, row.fmod 256], 0 ≤ n ∧ n < 256 := by
      rw [Int.fdiv_eq_ediv_of_nonneg _ (by decide), Int.fdiv_eq_ediv_of_nonneg _ (by decide), Int.fmod_eq_emod_of_nonneg _ (by decide), Int.fmod_eq_emod_of_nonneg _ (by decide)]
      refine List.forall_mem_cons.mpr ⟨by omega, List.forall_mem_cons.mpr ⟨by omega, List.forall_mem_cons.mpr ⟨by omega, List.forall_mem_nil _⟩⟩⟩
    refine bytes_K FA NA ⟨_, (NA _ (.head _)).1, rfl, _, rfl⟩ (.cons _ _ (.cons _ _ (.cons _ _ .nil))) hin (by show 3 ≤ sizeLine; rw [sizeLine_eq]; decide) rfl ?_
    intro h5 t5 k5 F5 N5 _
    clear FA NA
    dsimp only [List.map] at F5 N5 ⊢
    obtain ⟨x, hx⟩ : ∃ x, (row.fdiv 65536).toNat.toUInt8 = x := ⟨_, rfl⟩
    obtain ⟨y, hy⟩ : ∃ x, ((row.fdiv 256).fmod 256).toNat.toUInt8 = x := ⟨_, rfl⟩
    obtain ⟨z, hz⟩ : ∃ x, (row.fmod 256).toNat.toUInt8 = x := ⟨_, rfl⟩
    rw [hx, hy, hz]
    k_steps
    have N6 : News s.heap L' h5 [(I, rIter (0 + ((i + 1 : Nat) : Int) * 1) ((6 : Nat) - ((i + 1 : Nat) : Int)) 1), (D, W.listOf vs.toArray n), (L' + 1, o)] := fun p hp => N5 p (.tail _ hp)
    clear N5
    obtain ⟨u, F6⟩ := fr_shr F5 (Has.cons (x := Str.ofString "bits") rfl (Has.cons (x := Str.ofString "figures") rfl Has.nil))
    clear F5
    refine' use_pure Bw F6 X N6 T rfl rfl rfl ?_
    intro B2 X2 T2 back2
    refine b64encode_core B2 X2 T2 (by show dp + 1 + 5 < recursionLimit; omega) (by show un + 3 + 50 < cLine; omega) ?_
    intro c9 t9 h9 tk9 hc9 hk9
    obtain ⟨F9, N9⟩ := back2 h9 [] hk9 Own.nil
    clear back2 B2 X2 T2 hk9 F6 N6
    rw [List.nil_append] at N9
    obtain ⟨c0, c1, c2, c3, rfl, e0, e1, e2, e3⟩ := four_bytes hc9
    clear hc9
    have hx' : ((x.toNat : Nat) : Int) = row / 65536 := by rw [← hx, u8 (hin _ (.head _)).1 (hin _ (.head _)).2, Int.fdiv_eq_ediv_of_nonneg _ (by decide)]
    have hy' : ((y.toNat : Nat) : Int) = row / 256 % 256 := by rw [← hy, u8 (hin _ (.tail _ (.head _))).1 (hin _ (.tail _ (.head _))).2, Int.fdiv_eq_ediv_of_nonneg _ (by decide), Int.fmod_eq_emod_of_nonneg _ (by decide)]
    have hz' : ((z.toNat : Nat) : Int) = row % 256 := by rw [← hz, u8 (hin _ (.tail _ (.tail _ (.head _)))).1 (hin _ (.tail _ (.tail _ (.head _)))).2, Int.fmod_eq_emod_of_nonneg _ (by decide)]
    have f0 : (x.toNat : Int) / 4 = tfig bits i 0 := by show _ = trow bits i / 262144 % 64; rw [hrow, hx']; omega
    have f1 : (x.toNat : Int) % 4 * 16 + (y.toNat : Int) / 16 = tfig bits i 1 := by show _ = trow bits i / 4096 % 64; rw [hrow, hx', hy']; omega
    have f2 : (y.toNat : Int) % 16 * 4 + (z.toNat : Int) / 64 = tfig bits i 2 := by show _ = trow bits i / 64 % 64; rw [hrow, hy', hz']; omega
    have f3 : (z.toNat : Int) % 64 = tfig bits i 3 := by show _ = trow bits i / 1 % 64; rw [hrow, hz']; omega
    rw [f0] at e0; rw [f1] at e1; rw [f2] at e2; rw [f3] at e3
    clear f0 f1 f2 f3 hx hy hz hx' hy' hz' hin hrow hr0 hr1
    have hfb : ∀ k, 0 ≤ tfig bits i k ∧ tfig bits i k < 64 := fun k => by unfold tfig; omega
    have g0 : c0.toNat < 128 := by have := b64_le (hfb 0).1 (hfb 0).2; omega
    have g1 : c1.toNat < 128 := by have := b64_le (hfb 1).1 (hfb 1).2; omega
    have g2 : c2.toNat < 128 := by have := b64_le (hfb 2).1 (hfb 2).2; omega
    have g3 : c3.toNat < 128 := by have := b64_le (hfb 3).1 (hfb 3).2; omega
    have hocc : ∀ k c, k < 4 → (#[c0.toNat, c1.toNat, c2.toNat, c3.toNat] : Array Nat)[k]? = some c → Builtin.Str.occurrences alpha ⟨#[c]⟩ 0 alpha.length 1 = [(tfig bits i k).toNat] := by
      intro k c hk hc
      match k, hk, hc with
      | 0, _, hc => cases hc; have := occ_b64 (hfb 0).1 (hfb 0).2; rw [← e0] at this; exact this
      | 1, _, hc => cases hc; have := occ_b64 (hfb 1).1 (hfb 1).2; rw [← e1] at this; exact this
      | 2, _, hc => cases hc; have := occ_b64 (hfb 2).1 (hfb 2).2; rw [← e2] at this; exact this
      | 3, _, hc => cases hc; have := occ_b64 (hfb 3).1 (hfb 3).2; rw [← e3] at this; exact this
    clear e0 e1 e2 e3
    k_steps
    (rename Fr _ _ _ _ => FA); (rename News _ _ _ _ => NA)
    dsimp only
    refine ⟨_, _, _, rfl, ?ha, rfl, FA, NA, ?hsz, ?_⟩
    case ha => simp [g0, g1, g2, g3]
    case hsz => show 4 ≤ sizeLine; rw [sizeLine_eq]; decide
    clear FA NA
    rintro s₂ ⟨hh2, rfl⟩
    refine rest_ints (tfig bits i) ?tn ?fin
    case tn =>
      intro k v I' oI C oC D' m₂ ys h tkq E' hk hv hC hx F N off ne
      obtain ⟨c, uc, hc, rfl⟩ := hv
      have ho1 := hocc k c hk hc
      have hfk := hfb k
      clear hocc
      k_steps
      refine LCg.CompEnd.intro (by assumption) (by assumption) _ (fun p hp => hp) (by assumption) trivial ⟨rfl, tkq, ?_⟩
      exact congrArg (fun z => Value.int z _) (Int.toNat_of_nonneg hfk.1)
    case fin =>
      intro ys hys
      intro D' h tkq F N off
      obtain ⟨u', F6⟩ := fr_shr F (Has.cons (x := Str.ofString "bits") rfl (Has.cons (x := Str.ofString "figures") rfl Has.nil))
      clear F
      have N7 : News s.heap L' h [(D, W.listOf vs.toArray n), (D', LCg.lst ys), (I, rIter (0 + ((i + 1 : Nat) : Int) * 1) ((6 : Nat) - ((i + 1 : Nat) : Int)) 1), (L' + 1, o)] :=
        List.forall_mem_cons.mpr ⟨N _ (.tail _ (.tail _ (.head _))), List.forall_mem_cons.mpr ⟨N _ (.head _), List.forall_mem_cons.mpr ⟨N _ (.tail _ (.head _)), List.forall_mem_cons.mpr ⟨N _ (.tail _ (.tail _ (.tail _ (.head _)))), List.forall_mem_nil _⟩⟩⟩⟩
      clear N
      have hD'I : I ≠ D' := off.1
      have hD'D : D ≠ D' := off.2.1
      have hlen : vs.length = 4 * i := by rw [hv.length, tf_len]
      have hlen' : ys.length = 4 := by rw [hys.length]; rfl
      clear off hocc
      dsimp only
      k_steps
      refine iadd_list_K F6 N7 (List.forall_mem_cons.mpr ⟨Ne.symm hD'D, List.forall_mem_cons.mpr ⟨Ne.symm hID, List.forall_mem_cons.mpr ⟨Nat.ne_of_lt lD, List.forall_mem_nil _⟩⟩⟩) (.head _) (by rw [List.size_toArray, List.size_toArray]; omega) ?_
      intro h8 n8 F8 N8
      clear F6 N7
      k_steps
      (rename Fr _ _ _ _ => FA); (rename News _ _ _ _ => NA)
      refine RNext.intro [(D, W.listOf (vs ++ ys).toArray n8), (L' + 1, o)] FA NA (.tail _ (.tail _ (.head _))) (List.forall_mem_cons.mpr ⟨?_, List.forall_mem_cons.mpr ⟨.tail _ (.tail _ (.tail _ (.head _))), List.forall_mem_nil _⟩⟩) (List.forall_mem_cons.mpr ⟨hID, List.forall_mem_cons.mpr ⟨hIc, List.forall_mem_nil _⟩⟩) ?_
      · rw [← List.append_toArray]; exact .head _
      · refine ⟨vs ++ ys, n8, o, ts, tb, ho, ?_, Has.cons rfl (Has.cons rfl Has.nil), rfl⟩
        rw [tf_succ]
        exact hv.append hys
end
end Mine

end
section
open PySem PySem.W PyProof.Rows PySem.Calls PySem.Spec PyProof.Rows.LCg
set_option Elab.async false
set_option maxRecDepth 100000
set_option maxHeartbeats 8000000
set_option linter.unusedVariables false
namespace Mine
noncomputable def sel (tb : Nat → Bool) (ns : List Int) (i : Nat) : List Int := ((List.range i).filter tb).map fun j => ns.getD j 0
theorem sel_succ (tb : Nat → Bool) (ns : List Int) (i : Nat) : sel tb ns (i + 1) = sel tb ns i ++ if tb i = true then [ns.getD i 0] else [] := by
  unfold sel
  rw [List.range_succ, List.filter_append, List.map_append, List.filter_cons]
  cases tb i <;> rfl
theorem sel_len (tb : Nat → Bool) (ns : List Int) (i : Nat) : (sel tb ns i).length ≤ i := by
  unfold sel
  rw [List.length_map]
  exact Nat.le_trans (List.length_filter_le _ _) (by rw [List.length_range]; exact Nat.le_refl _)
section
variable {prog : Program} {w : World} {A : Around} {E : Value → Shared → Prop} {s : Shared} {h₀ : Heap} {L : Addr} {m : Str → Option Value} {env : Env}
def EnumTest (prog : Program) (w : World) (A : Around) (h₀ : Heap) (L : Addr) (m : Str → Option Value) (env : Env) (c : PySem.Expr) (x x₂ : Str) (scope : Scope) (cl : List (Str × Addr)) (s : Shared) (news : List (Addr × Obj)) (ns : List Int) (tb : Nat → Bool) : Prop :=
  ∀ i t u C oC m₂ h tk (E' : Value → Shared → Prop) (Qt : Bool → Shared → Prop), i < ns.length → NsObj oC m₂ → m₂ x = some (.int i t) → m₂ x₂ = some (.int (ns.getD i 0) u) → Fr h₀ L h m → News h₀ L h ((C, oC) :: news) → (∀ p ∈ news, p.1 ≠ C) →
    (∀ tk', Qt (tb i) { s with heap := h, toks := tk' }) → wpAny (model prog w) A (isTrue c (compEnvC scope cl C env) (eval c (compEnvC scope cl C env))) Qt E' { s with heap := h, toks := tk }
def EnumSrc (prog : Program) (w : World) (A : Around) (h₀ : Heap) (L : Addr) (m : Str → Option Value) (env : Env) (c : PySem.Expr) (x x₂ : Str) (scope : Scope) (cl : List (Str × Addr)) (Fin : Shared → Addr → List Value → List (Addr × Obj) → Prop) (xv : Value) (s₁ : Shared) : Prop :=
  ∃ e it l old vs ns tb news, xv = .ref e ∧ A.handled = none ∧ IsEnum s₁.heap e it 0 old ∧ s₁.heap.IsListIter it l 0 ∧ s₁.heap.IsList l vs.toArray ∧ IntsAre vs ns ∧ ns.length ≤ 1000 ∧ e ≠ it ∧ l ≠ e ∧ l ≠ it ∧ L ≠ e ∧ L ≠ it ∧ h₀.get? e = none ∧ h₀.get? it = none ∧
    Fr h₀ L s₁.heap m ∧ News h₀ L s₁.heap news ∧ (∀ p ∈ news, p.1 ≠ e ∧ p.1 ≠ it) ∧ (∀ s₂ : Shared, (∃ h, s₂ = { s₁ with heap := h }) → EnumTest prog w A h₀ L m env c x x₂ scope cl s₂ news ns tb) ∧
    ∀ D ys, IntsAre ys (sel tb ns ns.length) → Fin s₁ D ys news
theorem fr_but2 {h h' : Heap} {a b : Addr} (F : Fr h₀ L h m) (hk : ∀ c o, c ∉ [a, b] → h.get? c = some o → h'.get? c = some o) (ha : L ≠ a) (hb : L ≠ b) (ha₀ : h₀.get? a = none) (hb₀ : h₀.get? b = none) : Fr h₀ L h' m :=
  ⟨F.ns.at' fun o e => hk L o (by simp [ha, hb]) e, fun c o e => hk c o (fun hm => by
    rcases List.mem_cons.mp hm with q | q
    · rw [q, ha₀] at e; cases e
    · rw [List.mem_singleton.mp q, hb₀] at e; cases e) (F.keep c o e), F.above⟩
theorem news_but2 {h h' : Heap} {a b : Addr} {news : List (Addr × Obj)} (N : News h₀ L h news) (hk : ∀ c o, c ∉ [a, b] → h.get? c = some o → h'.get? c = some o) (off : ∀ p ∈ news, p.1 ≠ a ∧ p.1 ≠ b) : News h₀ L h' news :=
  fun p hp => ⟨hk _ _ (by simp [off p hp]) (N p hp).1, (N p hp).2⟩

theorem block_E {iter c : PySem.Expr} {x x₂ : Str} {px px₂ tp pe : Pos} {kk} {scope : Scope} {cl : List (Str × Addr)} {pos : Pos} {s₂ : Shared} {e it l : Addr} {old : Value} {vs : List Value} {ns : List Int} {tb : Nat → Bool} {news : List (Addr × Obj)}
    {RR : Value → Addr → Result → Shared → Prop}
    (hh : A.handled = none) (he : IsEnum s₂.heap e it 0 old) (hli : s₂.heap.IsListIter it l 0) (hl : s₂.heap.IsList l vs.toArray) (hi : IntsAre vs ns) (hsz : ns.length ≤ 1000) (hei : e ≠ it) (hle : l ≠ e) (hlt : l ≠ it) (hLe : L ≠ e) (hLi : L ≠ it) (he₀ : h₀.get? e = none) (hi₀ : h₀.get? it = none)
    (hcell : ∀ y ∈ scope.names, y.2 ≠ .cell) (hkind : scope.kind = .function) (hx : scope.names.lookup x = some .local) (hx₂ : scope.names.lookup x₂ = some .local) (hxx : x ≠ x₂) (hdb : (x₂ == ("__debug__" : Str)) = false)
    (F : Fr h₀ L s₂.heap m) (N : News h₀ L s₂.heap news) (off : ∀ p ∈ news, p.1 ≠ e ∧ p.1 ≠ it)
    (test : EnumTest prog w A h₀ L m env c x x₂ scope cl s₂ news ns tb)
    (hRR : ∀ D C h tk m' ys, IntsAre ys (sel tb ns ns.length) → Fr h₀ L h m → News h₀ L h ((D, lst ys) :: news) → (∀ p ∈ news, p.1 ≠ D) → h.Ns C m' → h₀.get? C = none → h₀.get? D = none → C ≠ L → D ≠ L → C ≠ D → (∀ p ∈ news, p.1 ≠ C) → RR (.ref D) C (.ok .next) { s₂ with heap := h, toks := tk }) :
    wpAny (model prog w) A (newList []) (fun acc s₃ => wpAny (model prog w) A (newFunctionEnv scope env.globals cl [] env.qual none .none (some env)) (fun cenv s₄ =>
      codeAny (model prog w) A (.compStart (.ListComp (.Name x₂ pe) [⟨.Tuple [.Name x px, .Name x₂ px₂] kk tp, iter, [c], 0⟩] scope pos) 0 (.ref e) acc { cenv with scope := relabel scope env }) (RR acc cenv.locals) s₄) E s₃) E s₂ := by
  have hvl : vs.length = ns.length := hi.length
  have W := WalksT.enumerate (prog := prog) (w := w) (A := A) hh e it l hei hle hlt vs.toArray
  rw [List.size_toArray, hvl] at W
  have hst : (∃ old, IsEnum s₂.heap e it ((0 : Nat) : Int) old) ∧ s₂.heap.IsListIter it l 0 ∧ s₂.heap.IsList l vs.toArray := ⟨⟨_, he⟩, hli, hl⟩
  have hfp : ∀ b ∈ [e, it, l], b < s₂.heap.objs.size := by
    refine List.forall_mem_cons.mpr ⟨Heap.lt_size he, List.forall_mem_cons.mpr ⟨?_, List.forall_mem_cons.mpr ⟨?_, List.forall_mem_nil _⟩⟩⟩
    · obtain ⟨_, q, _⟩ := hli; exact Heap.lt_size q
    · obtain ⟨_, q, _⟩ := hl; exact Heap.lt_size q
  refine wpAny_newObj_type (wpAny_newFunctionEnv hcell (by intro y hy; simp at hy) (fun h₁ hns₁ hsb₁ => ?_) hkind)
  dsimp only at hns₁ hsb₁ ⊢
  generalize hH2 : s₂.heap.push { cls := .type "list", dict := none, data := .seq ([] : List Value).toArray } = H2 at hns₁ hsb₁ ⊢
  have hC : H2.objs.size = s₂.heap.objs.size + 1 := by rw [← hH2, Heap.size_push]
  have hDC : s₂.heap.objs.size ≠ H2.objs.size := by rw [hC]; exact Nat.ne_of_lt (Nat.lt_succ_self _)
  have below : ∀ b, b < s₂.heap.objs.size → b ≠ H2.objs.size ∧ b ≠ s₂.heap.objs.size := fun b hb => ⟨by rw [hC]; exact Nat.ne_of_lt (Nat.lt_succ_of_lt hb), Nat.ne_of_lt hb⟩
  have hDf : s₂.heap.objs.size ∉ [e, it, l] := fun hm => Nat.lt_irrefl _ (hfp _ hm)
  have hCf : H2.objs.size ∉ [e, it, l] := fun hm => by have := hfp _ hm; rw [hC] at this; exact Nat.lt_irrefl _ (Nat.lt_of_succ_lt this)
  have hCw : H2.objs.size ∉ [e, it] := fun hm => hCf (W.sub _ hm)
  have hDw : s₂.heap.objs.size ∉ [e, it] := fun hm => hDf (W.sub _ hm)
  have old' : ∀ b o, s₂.heap.get? b = some o → h₁.get? b = some o := fun b o e => hsb₁.extBut b o (below b (Heap.lt_size e)).1 (Heap.get?_push_of_some _ (hH2 ▸ Heap.get?_push_of_some _ e))
  have hacc : h₁.get? s₂.heap.objs.size = some (lst []) := hsb₁.extBut _ _ hDC (Heap.get?_push_of_some _ (hH2 ▸ Heap.get?_push_size _ rfl))
  have hst₁ := W.frame _ _ _ hst fun b _ o e => old' b o e
  have fresh : ∀ a, s₂.heap.objs.size ≤ a → s₂.heap.get? a = none := fun a ha => by
    cases e : s₂.heap.get? a with
    | none => rfl
    | some o' => exact absurd (Heap.lt_size e) (Nat.not_lt.mpr ha)
  have fresh₀ : ∀ a, s₂.heap.objs.size ≤ a → h₀.get? a = none := fun a ha => by
    cases e : h₀.get? a with
    | none => rfl
    | some o' => have := F.keep a o' e; rw [fresh a ha] at this; cases this
  have hD₀ : h₀.get? s₂.heap.objs.size = none := fresh₀ _ (Nat.le_refl _)
  have hC₀ : h₀.get? H2.objs.size = none := fresh₀ _ (by rw [hC]; exact Nat.le_succ _)
  have hLlt : L < s₂.heap.objs.size := F.ns.lt
  have hDL : s₂.heap.objs.size ≠ L := Ne.symm (below L hLlt).2
  have hCL : H2.objs.size ≠ L := Ne.symm (below L hLlt).1
  have offC : ∀ p ∈ news, p.1 ≠ H2.objs.size := fun p hp => (below _ (Heap.lt_size (N p hp).1)).1
  have offD : ∀ p ∈ news, p.1 ≠ s₂.heap.objs.size := fun p hp => (below _ (Heap.lt_size (N p hp).1)).2
  have loop : ∀ s₃ : Shared, s₃ = { s₂ with heap := h₁, toks := s₂.toks + ([] : List (Str × Value)).length } →
      codeAny (model prog w) A (.compLoop (.ListComp (.Name x₂ pe) [⟨.Tuple [.Name x px, .Name x₂ px₂] kk tp, iter, [c], 0⟩] scope pos) 0 (.ref e) (.ref s₂.heap.objs.size) (compEnvC scope cl H2.objs.size env))
        (RR (.ref s₂.heap.objs.size) H2.objs.size) s₃ := by
    rintro s₃ rfl
    refine kct_loop
      (fun k s' => ∃ h' tk i ys m', s' = { s₂ with heap := h', toks := tk } ∧ i ≤ ns.length ∧ k = ns.length + 1 - i ∧ IntsAre ys (sel tb ns i) ∧ ((∃ old, IsEnum h' e it (i : Int) old) ∧ h'.IsListIter it l i ∧ h'.IsList l vs.toArray) ∧ Fr h₀ L h' m ∧ h'.Ns H2.objs.size m' ∧ News h₀ L h' ((s₂.heap.objs.size, lst ys) :: news)) ?_ (ns.length + 1)
      ⟨h₁, _, 0, [], _, rfl, Nat.zero_le _, rfl, .nil, hst₁, F.keeps old', hns₁, fun p hp => ?_⟩
    · rintro k s' ⟨h', tk, i, ys, m', rfl, hile, rfl, hys, hst', F', hn', N'⟩
      by_cases hlt' : i < ns.length
      · refine W.item i _ _ _ hlt' hst' fun T vals h₂ tk₂ hPv hTs hT hMid hk₂ => ?_
        obtain ⟨t, xv, hxv, rfl⟩ := hPv
        obtain ⟨n, u, rfl, hn⟩ := IntsAre.at hi i xv (by simpa using hxv)
        have hnd : ns.getD i 0 = n := by rw [List.getD_eq_getElem?_getD, hn]; rfl
        have hTw := W.apart _ _ _ hMid
        refine W.go _ _ _ i T _ _ _ hMid fun h₃ hst₃ hk₃ => ?_
        have ht : IsTup h₃ T #[.int i t, .int n u] := by obtain ⟨o, q, r⟩ := hT; exact ⟨o, hk₃ _ _ hTw q, r⟩
        have hkk : ∀ b o, b ∉ [e, it] → h'.get? b = some o → h₃.get? b = some o := fun b o hb q => hk₃ b o hb (hk₂ b o hb q)
        refine assign_Tuple_tuple hh ht rfl rfl fun h₅ he₅ => ?_
        have he' : ∀ b o, h₃.get? b = some o → h₅.get? b = some o := fun b o e => he₅ b o (Nat.ne_of_lt (Heap.lt_size e)) e
        refine assignInOrder_cons (wpAny_assign_Name (wpAny_storeName_local (lookup_relabel_local hx) ((hn'.at' fun o e => hkk _ o hCw e).at' fun o e => he' _ o e) (fun h₆ hn₆ hs₆ => ?_) (by simp [compEnvC, relabel, hkind])))
        refine assignInOrder_cons (wpAny_assign_Name (wpAny_storeName_local (lookup_relabel_local hx₂) hn₆ (fun h₇ hn₇ hs₇ => ?_) (by simp [compEnvC, relabel, hkind])))
        refine assignInOrder_nil ?_
        have old3 : ∀ b o, b ≠ H2.objs.size → h₃.get? b = some o → h₇.get? b = some o := fun b o hb e => hs₇.extBut b o hb (hs₆.extBut b o hb (he' b o e))
        have hst₇ := W.frame _ _ _ hst₃ fun b hb o e => old3 b o (fun q => hCf (by rw [← q]; exact hb)) e
        obtain ⟨oC, heC, hoC⟩ := ns_obj hn₇
        have F₇ : Fr h₀ L h₇ m := (((fr_but2 F' hkk hLe hLi he₀ hi₀).keeps he').change hs₆ hCL hC₀).change hs₇ hCL hC₀
        have offDn : ∀ p ∈ (s₂.heap.objs.size, lst ys) :: news, p.1 ≠ e ∧ p.1 ≠ it := List.forall_mem_cons.mpr ⟨⟨fun q => hDw (by rw [show s₂.heap.objs.size = e from q]; exact .head _), fun q => hDw (by rw [show s₂.heap.objs.size = it from q]; exact .tail _ (.head _))⟩, off⟩
        have N₃ : News h₀ L h₃ ((s₂.heap.objs.size, lst ys) :: news) := news_but2 N' hkk offDn
        have N₇ : News h₀ L h₇ ((s₂.heap.objs.size, lst ys) :: news) := fun p hp => by
          have z := N₃ p hp
          refine ⟨old3 _ _ ?_ z.1, z.2⟩
          rcases List.mem_cons.mp hp with rfl | hp
          · exact hDC
          · exact offC p hp
        have NC : News h₀ L h₇ ((H2.objs.size, oC) :: news) := List.forall_mem_cons.mpr ⟨⟨heC, hCL, hC₀⟩, fun p hp => N₇ p (.tail _ hp)⟩
        refine test i t u H2.objs.size oC _ h₇ _ _ _ hlt' hoC (by simp [hxx]) (by rw [hnd]; simp) F₇ NC offC fun tk' => ?_
        have hyl : ys.length ≤ i := by rw [hys.length]; exact sel_len tb ns i
        have hss := sel_succ tb ns i
        cases hb : tb i with
        | false =>
          rw [hb] at hss
          simp only [Bool.false_eq_true, if_false, List.append_nil] at hss
          simp only [Bool.false_eq_true, if_false]
          exact ⟨ns.length + 1 - (i + 1), by omega, h₇, tk', i + 1, ys, _, rfl, hlt', rfl, by rw [hss]; exact hys, by simpa using hst₇, F₇, hn₇, N₇⟩
        | true =>
          rw [hb] at hss
          simp only [if_true] at hss
          simp only [if_true]
          refine wpAny_Name (wpAny_loadName_local (by simp [compEnvC, relabel, hkind]) (lookup_relabel_local hx₂) hn₇ (by simp; rfl) ?_) hdb
          refine append_at (hsz := by show ys.toArray.size ≤ sizeLine; rw [List.size_toArray, sizeLine_eq]; omega) (N₇ _ (.head _)).1 fun h₈ hs₈ hD₈ => ?_
          refine ⟨ns.length + 1 - (i + 1), by omega, h₈, _, i + 1, ys ++ [.int n u], _, rfl, hlt', rfl, by rw [hss, hnd]; exact hys.append (.cons _ _ .nil), W.frame _ _ _ (by simpa using hst₇) fun b hb o e => hs₈.extBut b o (fun q => hDf (q ▸ hb)) e, F₇.change hs₈ hDL hD₀, hn₇.sameBut hs₈ (Ne.symm hDC), fun p hp => ?_⟩
          rcases List.mem_cons.mp hp with rfl | hp
          · exact ⟨hD₈.trans (congrArg some (lst_snoc ys _)), hDL, hD₀⟩
          · exact ⟨hs₈.extBut _ _ (offD p hp) (N₇ p (.tail _ hp)).1, (N₇ p (.tail _ hp)).2⟩
      · obtain rfl : i = ns.length := Nat.le_antisymm hile (Nat.not_lt.mp hlt')
        refine W.done _ _ _ hst' fun h₂ tk₂ hk₂ => ?_
        have offDn : ∀ p ∈ (s₂.heap.objs.size, lst ys) :: news, p.1 ≠ e ∧ p.1 ≠ it := List.forall_mem_cons.mpr ⟨⟨fun q => hDw (by rw [show s₂.heap.objs.size = e from q]; exact .head _), fun q => hDw (by rw [show s₂.heap.objs.size = it from q]; exact .tail _ (.head _))⟩, off⟩
        exact hRR _ _ h₂ tk₂ _ ys hys (fr_but2 F' hk₂ hLe hLi he₀ hi₀) (news_but2 N' hk₂ offDn) offD (hn'.at' fun o e => hk₂ _ o hCw e) hC₀ hD₀ hCL hDL (Ne.symm hDC) offC
    · rcases List.mem_cons.mp hp with rfl | hp
      · exact ⟨hacc, hDL, hD₀⟩
      · exact ⟨old' _ _ (N p hp).1, (N p hp).2⟩
  exact codeAny_compStart_list (loop _ rfl) (W.self 0 _ _ _ hst₁ (loop _ rfl))
theorem assign_enum {iter c : PySem.Expr} {x x₂ y : Str} {px px₂ tp pe py : Pos} {kk} {scope : Scope} {cl : List (Str × Addr)} {pos spos : Pos} {Q : Flow → Shared → Prop} (F₀ : Fr h₀ L s.heap m) (hLe : env.locals = L)
    (hsw : swapsWith (.ListComp (.Name x₂ pe) [⟨.Tuple [.Name x px, .Name x₂ px₂] kk tp, iter, [c], 0⟩] scope pos) (some (.Name y py)) spos.line env = pure true)
    (hclos : closureFor scope env = pure cl) (hcell : ∀ z ∈ scope.names, z.2 ≠ .cell) (hkind : scope.kind = .function)
    (hnames : ∀ z ∈ scope.names, z.2 = .local → scope.names.lookup z.1 = some .local) (hx : scope.names.lookup x = some .local) (hx₂ : scope.names.lookup x₂ = some .local) (hxx : x ≠ x₂) (hdb : (x₂ == ("__debug__" : Str)) = false)
    (hy : env.kindOf y = some .local) (hp : (env.scope.kind == .class || (env.scope.kind == .module && env.locals != env.globals)) = false)
    (h : wpAny (model prog w) A (eval iter env) (EnumSrc prog w A h₀ L m env c x x₂ scope cl (fun s₂ D ys news => ∀ h tk, Fr h₀ L h (fun z => if z = y then some (.ref D) else m z) → News h₀ L h ((D, lst ys) :: news) → (∀ p ∈ news, p.1 ≠ D) → Q .next { s₂ with heap := h, toks := tk })) E s)
    (hs : ∀ x, foldedSetIterable iter env x = pure x := by intro _; rfl) :
    wpAny (model prog w) A (exec (.Assign [.Name y py] (.ListComp (.Name x₂ pe) [⟨.Tuple [.Name x px, .Name x₂ px₂] kk tp, iter, [c], 0⟩] scope pos) spos) env) Q E s := by
  subst hLe
  rw [exec_Assign_Name_used _ _ _ _ hsw]
  refine wpAny_bind (wpAny_standAt (wpAny_bind ?_))
  show wpAny _ A (do let _ ← comprehension (.ListComp (.Name x₂ pe) [⟨.Tuple [.Name x px, .Name x₂ px₂] kk tp, iter, [c], 0⟩] scope pos) scope env _ (newList []) false (eval iter env) (some (assign (.Name y py) env))) _ _ s
  refine wpAny_bind (wpAny_mono (wpAny_comprehension_free (use := some (assign (.Name y py) env)) (Q := fun _ s' => Q .next s') rfl hs hclos hkind hnames
    (wpAny_mono h (fun xv s₁ h₁ => ?_) fun _ _ e => e)) (fun _ s' hq => wpAny_pure (wpAny_pure hq)) fun _ _ e => e)
  obtain ⟨e, it, l, old, vs, ns, tb, news, rfl, hh, he, hli, hl, hi, hsz, hei, hle, hlt, hLe, hLi, he₀, hi₀, F, N, off, test, fin⟩ := h₁
  refine wpAny_pyIter_enum he ?_
  refine block_E (env := env) hh he hli hl hi hsz hei hle hlt hLe hLi he₀ hi₀ hcell hkind hx hx₂ hxx hdb F N off (test _ ⟨_, rfl⟩) ?_
  intro D C h' tk m' ys hys F' N' offD hn hC₀ hD₀ hCL hDL hCD offC
  show wpAny _ A (assign (.Name y py) env (.ref D)) _ _ _
  refine wpAny_assign_Name (wpAny_storeName_local hy F'.ns (fun h₂ hn₂ hs₂ => ?_) hp)
  have hL₀ : h₀.get? env.locals = none := Heap.get?_none_of_le F'.above
  have F₂ : Fr h₀ env.locals h₂ (fun z => if z = y then some (.ref D) else m z) := ⟨hn₂, fun b o e => hs₂.extBut b o (fun q => by rw [q, hL₀] at e; cases e) (F'.keep b o e), F'.above⟩
  refine ⟨m', hn.sameBut hs₂ hCL, fun h'' hs'' => fin D ys hys h'' _ (F₂.change hs'' hCL hC₀) (fun p hp => ?_) offD⟩
  have z : h₂.get? p.1 = some p.2 := hs₂.extBut _ _ (N' p hp).2.1 (N' p hp).1
  refine ⟨hs''.extBut _ _ ?_ z, (N' p hp).2⟩
  rcases List.mem_cons.mp hp with rfl | hp
  · exact Ne.symm hCD
  · exact offC p hp
theorem enum_src {c : PySem.Expr} {x x₂ : Str} {scope : Scope} {cl : List (Str × Addr)} {Fin : Shared → Addr → List Value → List (Addr × Obj) → Prop} {l : Addr} {vs : List Value} {ns : List Int} {n : Nat} (tb : Nat → Bool) {news : List (Addr × Obj)}
    (hh : A.handled = none) (F : Fr h₀ L s.heap m) (N : News h₀ L s.heap ((l, W.listOf vs.toArray n) :: news)) (hi : IntsAre vs ns) (hsz : ns.length ≤ 1000)
    (test : ∀ h, EnumTest prog w A h₀ L m env c x x₂ scope cl { s with heap := h } news ns tb)
    (fin : ∀ h D ys, IntsAre ys (sel tb ns ns.length) → Fin { s with heap := h } D ys news) :
    wpAny (model prog w) A (call (.type "enumerate") [.ref l]) (EnumSrc prog w A h₀ L m env c x x₂ scope cl Fin) E s := by
  refine call_enumerate_list ⟨_, (N _ (.head _)).1, rfl, _, rfl⟩ fun h' he hli hz hk => ?_
  have lt : l < s.heap.objs.size := Heap.lt_size (N _ (.head _)).1
  have Ll : L < s.heap.objs.size := F.ns.lt
  refine ⟨_, _, l, _, vs, ns, tb, news, rfl, hh, he, hli, ⟨_, hk _ _ (N _ (.head _)).1, rfl, _, rfl⟩, hi, hsz, Nat.ne_of_gt (Nat.lt_succ_self _), Nat.ne_of_lt (Nat.lt_succ_of_lt lt), Nat.ne_of_lt lt, Nat.ne_of_lt (Nat.lt_succ_of_lt Ll), Nat.ne_of_lt Ll, ?_, ?_, F.keeps hk, fun p hp => ⟨hk _ _ (N p (.tail _ hp)).1, (N p (.tail _ hp)).2⟩, fun p hp => ?_, ?_, fin h'⟩
  · exact Heap.get?_none_of_le (Nat.le_succ_of_le (fr_size F))
  · exact Heap.get?_none_of_le (fr_size F)
  · have := Heap.lt_size (N p (.tail _ hp)).1
    exact ⟨Nat.ne_of_lt (Nat.lt_succ_of_lt this), Nat.ne_of_lt this⟩
  · rintro s₂ ⟨h2, rfl⟩
    exact test h2
end
section
variable {prog : Program} {w : World} {A : Around} {E : Value → Shared → Prop} {s : Shared} {env : Env} {g : Heap} {L : Addr} {m : Str → Option Value} {news : List (Addr × Obj)}
theorem for_rangeC {R : Result → Shared → Prop} {x : Str} {px : Pos} {I cS : Addr} {oS : Obj} {v₀ : Option Value} {body : List Stmt} {a c : Int} {n : Nat} (hh : A.handled = none) (hL : env.locals = L) (hk : env.scope.kind = .function) (hx : env.kindOf x = some .cell) (hc : env.cells.lookup x = some cS)
    (F : Fr g L s.heap m) (N : News g L s.heap ((I, rIter a n c) :: (cS, oS) :: news)) (hS : oS.data = .cell v₀) (hIS : cS ≠ I) (hap : ∀ p ∈ news, p.1 ≠ I) (haS : ∀ p ∈ news, p.1 ≠ cS)
    (J : Nat → (Str → Option Value) → List (Addr × Obj) → Prop) (h0 : J 0 m news)
    (turn : ∀ i m₁ news₁ h tk t oS₁, i < n → J i m₁ news₁ → (∀ p ∈ news₁, p.1 ≠ I) → (∀ p ∈ news₁, p.1 ≠ cS) → oS₁.data = .cell (some (.int (a + i * c) t)) → Fr g L h m₁ → News g L h ((I, rIter (a + ((i + 1 : Nat) : Int) * c) ((n : Int) - ((i + 1 : Nat) : Int)) c) :: (cS, oS₁) :: news₁) →
      wpAny (model prog w) A (execs body env) (fun f s₃ => match f with
        | .next | .cont => RNext g L s I (rIter (a + ((i + 1 : Nat) : Int) * c) ((n : Int) - ((i + 1 : Nat) : Int)) c) (fun m₂ nw => ∃ news₂ oS₂ v₂, nw = (cS, oS₂) :: news₂ ∧ oS₂.data = .cell v₂ ∧ (∀ p ∈ news₂, p.1 ≠ cS) ∧ J (i + 1) m₂ news₂) s₃
        | .brk => R (.ok .next) s₃
        | .ret v => R (.ok (.ret v)) s₃) (notedBy (model prog w) A env fun e s' => R (.error e) s') { s with heap := h, toks := tk })
    (done : ∀ m₁ news₁ h tk, J n m₁ news₁ → Fr g L h m₁ → News g L h news₁ → R (.ok .next) { s with heap := h, toks := tk }) :
    codeAny (model prog w) A (.forLoop (.Name x px) (.ref I) body [] env) R s := by
  subst hL
  refine codeAny_forLoop (fun k s' => ∃ i m₁ news₁ h tk oS₁ v₁, s' = { s with heap := h, toks := tk } ∧ i ≤ n ∧ k = n + 1 - i ∧ J i m₁ news₁ ∧ (∀ p ∈ news₁, p.1 ≠ I) ∧ (∀ p ∈ news₁, p.1 ≠ cS) ∧ oS₁.data = .cell v₁ ∧ Fr g env.locals h m₁ ∧ News g env.locals h ((I, rIter (a + (i : Int) * c) ((n : Int) - (i : Int)) c) :: (cS, oS₁) :: news₁)) ?_ (n + 1)
    ⟨0, m, news, s.heap, s.toks, oS, v₀, rfl, Nat.zero_le _, rfl, h0, hap, haS, hS, F, by simpa using N⟩
  rintro k s' ⟨i, m₁, news₁, h, tk, oS₁, v₁, rfl, hi, rfl, hJ, hap₁, haS₁, hS₁, F₁, N₁⟩
  have hit := (N₁ _ (.head _)).1
  have hIL := (N₁ _ (.head _)).2.1
  have hapn : ∀ p ∈ (cS, oS₁) :: news₁, p.1 ≠ I := List.forall_mem_cons.mpr ⟨hIS, hap₁⟩
  by_cases hlt : i < n
  · refine wpAny_pyNext_range_item hit (by omega) fun h₁ hit₁ hs₁ => ?_
    have F₂ := fr_change F₁ N₁ hs₁
    have N₂ := N₁.setHead hapn hs₁ hit₁
    have hcS := N₂ _ (.tail _ (.head _))
    refine wpAny_assign_Name (wpAny_storeName_cell hk hx hc ⟨oS₁, hcS.1, hS₁⟩ fun h₂ hv₂ hs₂ => ?_)
    obtain ⟨oS₂, ho₂, hd₂⟩ := hv₂
    have F₃ : Fr g env.locals h₂ m₁ := F₂.change hs₂ hcS.2.1 hcS.2.2
    have N₃ := N₂.setSecond (Ne.symm hIS) haS₁ hs₂ ho₂
    have e1 : a + ((i + 1 : Nat) : Int) * c = a + (i : Int) * c + c := by push_cast; rw [Int.add_mul, Int.one_mul, Int.add_assoc]
    have e2 : (n : Int) - ((i + 1 : Nat) : Int) = (n : Int) - (i : Int) - 1 := by push_cast; omega
    refine wpAny_mono (turn i m₁ news₁ h₂ _ _ oS₂ hlt hJ hap₁ haS₁ hd₂ F₃ (by rw [e1, e2]; exact N₃)) (fun f s₃ h₃ => ?_) fun _ _ e => e
    cases f with
    | next => obtain ⟨m₂, nw, h₂, tk₂, rfl, F₄, N₄, hap₄, news₂, oS₃, v₃, rfl, hd₃, haS₃, hJ₄⟩ := h₃; exact ⟨n + 1 - (i + 1), by omega, i + 1, m₂, news₂, h₂, tk₂, oS₃, v₃, rfl, hlt, rfl, hJ₄, fun p hp => hap₄ p (.tail _ hp), haS₃, hd₃, F₄, N₄⟩
    | cont => obtain ⟨m₂, nw, h₂, tk₂, rfl, F₄, N₄, hap₄, news₂, oS₃, v₃, rfl, hd₃, haS₃, hJ₄⟩ := h₃; exact ⟨n + 1 - (i + 1), by omega, i + 1, m₂, news₂, h₂, tk₂, oS₃, v₃, rfl, hlt, rfl, hJ₄, fun p hp => hap₄ p (.tail _ hp), haS₃, hd₃, F₄, N₄⟩
    | brk => exact h₃
    | ret v => exact h₃
  · have hin : i = n := by omega
    subst hin
    refine wpAny_pyNext_range_end hh hit (by omega) fun h₁ he₁ => wpAny_execs_nil ?_
    refine done m₁ news₁ h₁ tk hJ ?_ ?_
    · exact ⟨F₁.ns.extBut he₁ (Ne.symm hIL), fun b o e => he₁ b o (fun q => by have := (N₁ _ (.head _)).2.2; rw [← q, e] at this; cases this) (F₁.keep b o e), F₁.above⟩
    · exact fun p hp => ⟨he₁ p.1 p.2 (hap₁ p hp) (N₁ p (.tail _ (.tail _ hp))).1, (N₁ p (.tail _ (.tail _ hp))).2⟩
end
end Mine

end
section
open PySem PySem.W PyProof.Rows PySem.Calls PySem.Spec
set_option Elab.async false
set_option maxRecDepth 100000
set_option maxHeartbeats 8000000
set_option linter.unusedVariables false
namespace Mine
noncomputable def dfig (ones total : Int) : Nat → Int
  | 0 => 0
  | k + 1 => 2 * dfig ones total k + ((k : Int) + 1) * ones / total - (k : Int) * ones / total
noncomputable def drt (ones total spot : Int) (t : Nat) : Bool := decide ((spot + ((t : Int) + 1) * ones) % total = 0)
noncomputable def drise (ones total spot : Int) : Int := (sel (drt ones total spot) [16, 8, 4, 2, 1, 1] 6).sum
noncomputable def due (ones total : Int) : Nat → Int
  | 0 => dfig ones total 6
  | j + 1 => due ones total j + drise ones total ((j : Int) + 1)
noncomputable def dl (ones total : Int) (j : Nat) : List Int := (List.range (j + 1)).map (due ones total)
def VJ (ones total : Int) (D : Addr) (cells : List (Addr × Obj)) (i : Nat) (m : Str → Option Value) (news : List (Addr × Obj)) : Prop :=
  ∃ vs n, IntsAre vs (dl ones total i) ∧ Has m [(Str.ofString "figures", .ref D)] ∧ news = (D, W.listOf vs.toArray n) :: cells
def UJ (ones total : Int) (cells : List (Addr × Obj)) (i : Nat) (m : Str → Option Value) (news : List (Addr × Obj)) : Prop :=
  ∃ t, Has m [(Str.ofString "figure", .int (dfig ones total i) t)] ∧ news = cells
theorem drt_eq (ones total : Int) (i j : Nat) (h : 0 < total) : ((1 + (i : Int) * 1 + ((j : Int) + 1) * ones).fmod total == 0) = drt ones total (1 + (i : Int)) j := by
  unfold drt
  rw [Int.fmod_eq_emod_of_nonneg _ (by omega), Int.mul_one]
  rfl
theorem dl_succ (ones total : Int) (j : Nat) : dl ones total (j + 1) = dl ones total j ++ [due ones total j + drise ones total ((j : Int) + 1)] := by
  unfold dl
  rw [List.range_succ (n := j + 1), List.map_append]
  rfl
theorem dl_len (ones total : Int) (j : Nat) : (dl ones total j).length = j + 1 := by unfold dl; simp
theorem dl_get (ones total : Int) (j k : Nat) (h : k ≤ j) : (dl ones total j)[k]? = some (due ones total k) := by
  unfold dl
  rw [List.getElem?_map, List.getElem?_range (by omega)]
  rfl
theorem item_last {prog : Program} {w : World} {A : Around} {E : Value → Shared → Prop} {s : Shared} {value slice : PySem.Expr} {l : Addr} {vs : List Value} {ns : List Int} {n : Int} {j : Nat} {t : Tok} {Q : Value → Shared → Prop}
    (hl : s.heap.IsList l vs.toArray) (hi : IntsAre vs ns) (hj : ns.length = j + 1) (hn : ns[j]? = some n) (h : ∀ u, Q (.int n u) s)
    (hs : subscripted slice false (.ref l) (.int (-1) t) = operate [.ref l, .int (-1) t] (getItem (.ref l) (.int (-1) t)) := by with_unfolding_all rfl) :
    wpAny (model prog w) A (subscriptTail value slice (.ref l) (.int (-1) t)) Q E s := by
  obtain ⟨u, hu⟩ := hi.get j n hn
  have hz : vs.length = j + 1 := by rw [hi.length]; exact hj
  refine tail_any hl.typeIs slot_list_getitem.lookup (wpAny_getItem_list_neg hl (by decide) (by rw [List.size_toArray]; omega) (by decide) ?_ (h u)) hs
  rw [List.size_toArray, hz, show (-1 + ((j + 1 : Nat) : Int)).toNat = j by omega]
  simpa using hu
section
local macro_rules | `(tactic| walk_at "exec Assign cons ListComp") => `(tactic| k_dflt (refine assign_enum (F₀ := by k_asm) (by rfl) (by with_unfolding_all rfl) (by with_unfolding_all rfl) (by decide) (by rfl) (by decide) (by rfl) (by rfl) (by decide) (by decide) (by rfl) (by rfl) ?_))
local macro_rules | `(tactic| walk_at "exec For Name Call cons nil") => `(tactic| k_dflt (refine wpAny_For ?_))
theorem due_core {w : World} {mean : ExcName → Option Value} {mg mb : Str → Option Value} {dp un : Nat} {gd : Option (List Code)} {outer : List Env} {A₀ : Around} {base : Heap} {s : Shared} {ones total : Int} {t1 t2 : Tok} {Q E : Value → Shared → Prop}
   (Bw : Below A₀ base outer s.heap) (X : (hd.heap_39 w.params).In s.heap) (T : Top hd.view_39 (looseW hd.view_39 [Str.ofString "b2a_base64", Str.ofString "b64encode"]) mean mg mb s.heap)
   (h0 : 1 ≤ ones) (h1 : ones ≤ 12) (h2 : 2 ≤ total) (h3 : total ≤ 24)
   (hdp : dp + 3 < recursionLimit) (hun : un + 30 < cLine)
   (ret : ∀ D (vs : List Value) n h' tk, Kp s.heap h' → IntsAre vs (dl ones total (total - 1).toNat) → Own s.heap h' [(D, W.listOf vs.toArray n)] → Q (.ref D) { s with heap := h', toks := tk }) :
   wpAny (model PySem.Challenge.rw_om0005_01.row.prog w) (AA dp un gd outer) (call (.ref 110) [.int ones t1, .int total t2]) Q E s := by
  revert X; k_fill; intro X
  refine wpAny_call ?_
  refine' enterC (binds := [(Str.ofString "ones", .int ones t1), (Str.ofString "total", .int total t2)]) X T ?k6 ?k7 ?k8 ?k9 ?kB ?kD ?_ ?c2 ?c3 ?c4
  (case k6 => k_is); (case k7 => k_is); (case k8 => ktr_room); (case k9 => exact BindsTo.of_eq rfl); (case kB => exact rfl); (case kD => decide +kernel); (case c2 => exact rfl); (case c3 => exact rfl); (case c4 => exact rfl)
  k_whole
  intro L' h' tk' cells' F' N' Y'
  k_cells Y'
  (try simp only [List.cons_append, List.nil_append] at N')
  (try dsimp only)
  (try k_fold)
  k_steps
  rename_i oS oT oO dS0 dT0 dO0 hA FX NX hh tkk u1 u2 u3 hR FR NR hKR
  have dS : oS.data = .cell none := dS0
  have dT : oT.data = .cell (some (.int total t2)) := dT0
  have dO : oO.data = .cell (some (.int ones t1)) := dO0
  clear dS0 dT0 dO0 hKR
  refine pyIter_range_K FR NR hR rfl ?_
  intro I hI FI NI lI
  refine for_range (n := 6) (a := 0) (c := 1) (L := L') (g := s.heap) rfl rfl rfl rfl FI NI (List.forall_mem_cons.mpr ⟨Nat.ne_of_lt (lI _ (.head _)), List.forall_mem_cons.mpr ⟨Nat.ne_of_lt (lI _ (.tail _ (.head _))), List.forall_mem_cons.mpr ⟨Nat.ne_of_lt (lI _ (.tail _ (.tail _ (.head _)))), List.forall_mem_nil _⟩⟩⟩) (UJ ones total [(L' + 1 + 1 + 1, oS), (L' + 1 + 1, oT), (L' + 1, oO)]) ?h0 ?turn ?done
  case h0 => exact ⟨_, Has.cons rfl Has.nil, rfl⟩
  case turn =>
    intro i m₁ news₁ h tkz tt hi6 hJ hap F1 N1
    obtain ⟨t, hm, rfl⟩ := hJ
    rw [hm.mp] at F1
    clear hm NI FI lI FR NR hR
    have hI3 := neN (hap _ (.head _))
    have hI2 := neN (hap _ (.tail _ (.head _)))
    have hI1 := neN (hap _ (.tail _ (.tail _ (.head _))))
    clear hap
    dsimp only at hI1 hI2 hI3 ⊢
    k_steps
    (rename Fr _ _ _ _ => FA); (rename News _ _ _ _ => NA)
    dsimp only at FA ⊢
    refine RNext.intro [(L' + 1 + 1 + 1, oS), (L' + 1 + 1, oT), (L' + 1, oO)] FA NA (.head _) (fun p hp => .tail _ hp) (List.forall_mem_cons.mpr ⟨hI3, List.forall_mem_cons.mpr ⟨hI2, List.forall_mem_cons.mpr ⟨hI1, List.forall_mem_nil _⟩⟩⟩) ?_
    refine ⟨_, Has.cons (Eq.trans rfl (congrArg (fun z => some (Value.int z _)) ?_)) Has.nil, rfl⟩
    show 2 * dfig ones total i + ((0 + (i : Int) * 1 + 1) * ones).fdiv total - ((0 + (i : Int) * 1) * ones).fdiv total = 2 * dfig ones total i + ((i : Int) + 1) * ones / total - (i : Int) * ones / total
    rw [Int.fdiv_eq_ediv_of_nonneg _ (by omega), Int.fdiv_eq_ediv_of_nonneg _ (by omega), Int.zero_add, Int.mul_one]
  case done =>
    intro m₁ news₁ h tkz hJ F1 N1
    obtain ⟨t, hm, rfl⟩ := hJ
    rw [hm.mp] at F1
    clear hm NI FI lI FR NR hR
    dsimp only
    k_steps
    rename_i D hD1 lD hD2 F8 N8 hh2 tkk2 w1 w2 w3 hR FR NR hKR
    clear hKR
    refine pyIter_range_K FR NR hR (small_one (by decide) (by decide) (by omega) (by omega)) ?_
    intro I2 hI2 FI2 NI2 lI2
    rw [rangeSize_nat] at NI2
    have l0 := lI2 _ (.head _)
    have l1 := lI2 _ (.tail _ (.head _))
    have l2 := lI2 _ (.tail _ (.tail _ (.head _)))
    have l3 := lI2 _ (.tail _ (.tail _ (.tail _ (.head _))))
    have NI3 : News s.heap L' hI2 ((I2, rIter 1 (((total - 1).toNat : Nat) : Int) 1) :: (L' + 1 + 1 + 1, oS) :: [(D, W.listOf [Value.int (dfig ones total 6) t].toArray 0), (L' + 1 + 1, oT), (L' + 1, oO)]) :=
      List.forall_mem_cons.mpr ⟨NI2 _ (.head _), List.forall_mem_cons.mpr ⟨NI2 _ (.tail _ (.tail _ (.head _))), List.forall_mem_cons.mpr ⟨NI2 _ (.tail _ (.head _)), List.forall_mem_cons.mpr ⟨NI2 _ (.tail _ (.tail _ (.tail _ (.head _)))), List.forall_mem_cons.mpr ⟨NI2 _ (.tail _ (.tail _ (.tail _ (.tail _ (.head _))))), List.forall_mem_nil _⟩⟩⟩⟩⟩
    clear NI2
    obtain ⟨u2, FU⟩ := fr_shr FI2 (Has.cons (x := Str.ofString "figures") rfl Has.nil)
    clear FI2 FR NR
    refine for_rangeC (n := (total - 1).toNat) (a := 1) (c := 1) (L := L') (g := s.heap) rfl rfl rfl rfl rfl FU NI3 dS (Nat.ne_of_lt l1) (List.forall_mem_cons.mpr ⟨Nat.ne_of_lt l0, List.forall_mem_cons.mpr ⟨Nat.ne_of_lt l2, List.forall_mem_cons.mpr ⟨Nat.ne_of_lt l3, List.forall_mem_nil _⟩⟩⟩)
      (List.forall_mem_cons.mpr ⟨?a1, List.forall_mem_cons.mpr ⟨?a2, List.forall_mem_cons.mpr ⟨?a3, List.forall_mem_nil _⟩⟩⟩) (VJ ones total D [(L' + 1 + 1, oT), (L' + 1, oO)]) ?h0 ?turn ?done
    case a1 => exact Nat.ne_of_gt (by first | exact lD.1 | exact lD)
    case a2 => exact Nat.ne_of_lt (Nat.lt_succ_self _)
    case a3 => exact Nat.ne_of_lt (Nat.lt_succ_of_lt (Nat.lt_succ_self _))
    case h0 => exact ⟨_, _, .cons _ _ .nil, Has.cons rfl Has.nil, rfl⟩
    case done =>
      intro m₁ news₁ h tkz hJ F1 N1
      obtain ⟨vs, n, hv, hm, rfl⟩ := hJ
      rw [hm.mp] at F1
      dsimp only
      k_steps
      exact ret D vs n _ _ (fun b o e => F1.keep b o e) hv (own_of_news (fun p hp => N1 p (by rw [List.mem_singleton.mp hp]; exact .head _)))
    case turn =>
      intro i m₁ news₁ h tkz tt oS1 hi6 hJ hap haS dS1 F1 N1
      obtain ⟨vs, n, hv, hm, rfl⟩ := hJ
      rw [hm.mp] at F1
      clear hm NI3 FU hR dS
      have hID := neN (hap _ (.head _))
      have hI2 := neN (hap _ (.tail _ (.head _)))
      have hI1 := neN (hap _ (.tail _ (.tail _ (.head _))))
      have hSD := neN (haS _ (.head _))
      clear hap haS
      dsimp only at hI1 hI2 hID hSD ⊢
      k_steps
      (rename Fr _ _ _ _ => FA); (rename News _ _ _ _ => NA)
      refine enum_src (drt ones total (1 + (i : Int))) (vs := [_, _, _, _, _, _]) rfl FA NA (.cons _ _ (.cons _ _ (.cons _ _ (.cons _ _ (.cons _ _ (.cons _ _ .nil)))))) (by decide) ?test ?fin
      case test =>
        clear FA NA
        intro h5 j tj tu C oC m₂ h tkq E' Qt hj hC hx1 hx2 F N off hq
        have o1 := neN (off _ (.head _))
        have o2 := neN (off _ (.tail _ (.head _)))
        have o3 := neN (off _ (.tail _ (.tail _ (.head _))))
        have o4 := neN (off _ (.tail _ (.tail _ (.tail _ (.head _)))))
        have o5 := neN (off _ (.tail _ (.tail _ (.tail _ (.tail _ (.head _))))))
        clear off
        dsimp only at o1 o2 o3 o4 o5
        dsimp only at hq ⊢
        k_steps
        rw [drt_eq ones total i j (by omega)]
        exact hq _
      case fin =>
        clear FA NA
        intro h5 D2 ys hys h tkq F N off
        have o1 := neN (off _ (.head _))
        have o2 := neN (off _ (.tail _ (.head _)))
        have o3 := neN (off _ (.tail _ (.tail _ (.head _))))
        have o4 := neN (off _ (.tail _ (.tail _ (.tail _ (.head _)))))
        have o5 := neN (off _ (.tail _ (.tail _ (.tail _ (.tail _ (.head _))))))
        clear off
        dsimp only at o1 o2 o3 o4 o5 ⊢
        k_steps
        refine item_last ⟨_, (N _ (.tail _ (.tail _ (.tail _ (.head _))))).1, rfl, _, rfl⟩ hv (dl_len ones total i) (dl_get ones total i i (Nat.le_refl _)) ?_
        intro tl
        k_steps
        (rename Fr _ _ _ _ => FA); (rename News _ _ _ _ => NA)
        rename_i hS tkS tS
        clear F N
        have hlen : vs.length = i + 1 := by rw [hv.length, dl_len]
        have N7 : News s.heap L' _ [(D, W.listOf vs.toArray n), (I2, rIter (1 + ((i + 1 : Nat) : Int) * 1) (((total - 1).toNat : Nat) - ((i + 1 : Nat) : Int)) 1), (L' + 1 + 1 + 1, oS1), (L' + 1 + 1, oT), (L' + 1, oO)] :=
          List.forall_mem_cons.mpr ⟨NA _ (.tail _ (.tail _ (.tail _ (.head _)))), List.forall_mem_cons.mpr ⟨NA _ (.tail _ (.head _)), List.forall_mem_cons.mpr ⟨NA _ (.tail _ (.tail _ (.head _))), List.forall_mem_cons.mpr ⟨NA _ (.tail _ (.tail _ (.tail _ (.tail _ (.head _))))), List.forall_mem_cons.mpr ⟨NA _ (.tail _ (.tail _ (.tail _ (.tail _ (.tail _ (.head _)))))), List.forall_mem_nil _⟩⟩⟩⟩⟩
        clear NA
        have lD1 : @LT.lt Nat _ (L' + 1 + 1) D := by first | exact lD.2.1 | exact lD.1
        have lD0 : @LT.lt Nat _ (L' + 1) D := by first | exact lD.2.2 | exact lD.2
        refine append_at (hsz := by show vs.toArray.size ≤ sizeLine; rw [List.size_toArray, sizeLine_eq]; omega) (N7 _ (.head _)).1 fun h8 hs8 hD8 => ?_
        have F8 := fr_change FA N7 hs8
        have N8 := N7.setHead (List.forall_mem_cons.mpr ⟨Ne.symm hID, List.forall_mem_cons.mpr ⟨Ne.symm hSD, List.forall_mem_cons.mpr ⟨Nat.ne_of_lt lD1, List.forall_mem_cons.mpr ⟨Nat.ne_of_lt lD0, List.forall_mem_nil _⟩⟩⟩⟩) hs8 hD8
        clear N7 FA hs8 hD8
        k_steps
        (rename Fr _ _ _ _ => FA); (rename News _ _ _ _ => NA)
        refine RNext.intro ((L' + 1 + 1 + 1, oS1) :: (D, W.listOf (vs ++ [Value.int (due ones total i + drise ones total (1 + (i : Int))) tkS]).toArray (n + 1)) :: [(L' + 1 + 1, oT), (L' + 1, oO)]) FA NA (.tail _ (.head _)) (List.forall_mem_cons.mpr ⟨.tail _ (.tail _ (.head _)), List.forall_mem_cons.mpr ⟨?_, List.forall_mem_cons.mpr ⟨.tail _ (.tail _ (.tail _ (.head _))), List.forall_mem_cons.mpr ⟨.tail _ (.tail _ (.tail _ (.tail _ (.head _)))), List.forall_mem_nil _⟩⟩⟩⟩) (List.forall_mem_cons.mpr ⟨Nat.ne_of_lt l1, List.forall_mem_cons.mpr ⟨hID, List.forall_mem_cons.mpr ⟨hI2, List.forall_mem_cons.mpr ⟨hI1, List.forall_mem_nil _⟩⟩⟩⟩) ?_
        · rw [← List.push_toArray]; exact .head _
        · refine ⟨_, oS1, _, rfl, dS1, List.forall_mem_cons.mpr ⟨hSD, List.forall_mem_cons.mpr ⟨Nat.ne_of_lt (Nat.lt_succ_self _), List.forall_mem_cons.mpr ⟨Nat.ne_of_lt (Nat.lt_succ_of_lt (Nat.lt_succ_self _)), List.forall_mem_nil _⟩⟩⟩, _, _, ?_, Has.cons rfl Has.nil, rfl⟩
          rw [dl_succ, Int.add_comm (i : Int) 1]
          exact hv.append (.cons _ _ .nil)
end
end Mine

end
section
open PySem PySem.W PyProof.Rows PySem.Calls PySem.Spec PyProof.Rows.LCg
set_option Elab.async false
set_option maxRecDepth 100000
set_option maxHeartbeats 8000000
set_option linter.unusedVariables false
namespace Mine
section
variable {prog : Program} {w : World} {A : Around} {E : Value → Shared → Prop} {s : Shared} {h₀ : Heap} {L : Addr} {m : Str → Option Value} {env : Env}
theorem turn0_two (elt t1 i1 t2 i2 : PySem.Expr) (scope : Scope) (pos : Pos) (it acc : Value) (env : Env) :
    compTurn (.ListComp elt [⟨t1, i1, [], 0⟩, ⟨t2, i2, [], 0⟩] scope pos) 0 it acc env = (standAt i1.pos >>= fun _ => pyNext it >>= fun r => match r with
      | none => pure (.done .next)
      | some v => letOwnedTupleGo t1 it v >>= fun _ => assign t1 env v >>= fun _ =>
        (eval i2 env >>= fun x => standAt i2.pos >>= fun _ => foldedSetIterable i2 env x >>= fun x => holding [x] (pyIter x) >>= fun it2 => runOwn (.compStart (.ListComp elt [⟨t1, i1, [], 0⟩, ⟨t2, i2, [], 0⟩] scope pos) 1 it2 acc env) env >>= fun _ =>
          again (.compLoop (.ListComp elt [⟨t1, i1, [], 0⟩, ⟨t2, i2, [], 0⟩] scope pos) 0 it acc env))) := by rfl
theorem turn1_two (elt t1 i1 t2 i2 : PySem.Expr) (scope : Scope) (pos : Pos) (it acc : Value) (env : Env) :
    compTurn (.ListComp elt [⟨t1, i1, [], 0⟩, ⟨t2, i2, [], 0⟩] scope pos) 1 it acc env = (standAt i2.pos >>= fun _ => pyNext it >>= fun r => match r with
      | none => pure (.done .next)
      | some v => letOwnedTupleGo t2 it v >>= fun _ => assign t2 env v >>= fun _ =>
        (eval elt env >>= fun x => call (.builtin "list.append") [acc, x] >>= fun _ => pure ()) >>= fun _ =>
          again (.compLoop (.ListComp elt [⟨t1, i1, [], 0⟩, ⟨t2, i2, [], 0⟩] scope pos) 1 it acc env)) := by rfl
theorem start1_two {elt t1 i1 t2 i2 : PySem.Expr} {scope : Scope} {pos : Pos} {it acc : Value} {env : Env} {R : Result → Shared → Prop}
    (h0 : codeAny (model prog w) A (.compLoop (.ListComp elt [⟨t1, i1, [], 0⟩, ⟨t2, i2, [], 0⟩] scope pos) 1 it acc env) R s)
    (h : wpAny (model prog w) A (pyIter it) (fun it' s' => codeAny (model prog w) A (.compLoop (.ListComp elt [⟨t1, i1, [], 0⟩, ⟨t2, i2, [], 0⟩] scope pos) 1 it' acc env) R s')
      (notedBy (model prog w) A env fun x s' => R (.error x) s') s) :
    codeAny (model prog w) A (.compStart (.ListComp elt [⟨t1, i1, [], 0⟩, ⟨t2, i2, [], 0⟩] scope pos) 1 it acc env) R s := by
  refine codeAny_of_tree ?_
  show wpAny _ _ ((compStart (.ListComp elt [⟨t1, i1, [], 0⟩, ⟨t2, i2, [], 0⟩] scope pos) 1 it acc env).onRaise (fun x => do noteFrame x env; standAt theWindowsPlace)) _ _ s
  refine wpAny_notedAt ?_
  unfold compStart
  show wpAny _ _ (ask >>= _) _ _ s
  refine wpAny_bind (wpAny_askSetting (wpAny_ite ?_))
  split
  · first
      | exact wpAny_bind (wpAny_pure (wpAny_pure (And.intro rfl h0)))
      | exact wpAny_pure (And.intro rfl h0)
  · first
      | exact wpAny_bind (wpAny_rule (wpAny_bind (wpAny_standAt (wpAny_bind (wpAny_mono h (fun it' s' h' => wpAny_pure (And.intro rfl h')) fun _ _ x => x)))))
      | (refine wpAny_bind (wpAny_rule ?_); show wpAny _ _ (standAt i2.pos >>= _) _ _ s; exact wpAny_bind (wpAny_standAt (wpAny_bind (wpAny_mono h (fun it' s' h' => wpAny_pure (And.intro rfl h')) fun _ _ x => x))))
theorem loop1_two {elt t1 i1 i2 : PySem.Expr} {x₂ : Str} {p₂ : Pos} {scope : Scope} {pos : Pos} {it acc : Value} {env : Env} {R : Result → Shared → Prop} (I : Nat → Shared → Prop)
    (turn : ∀ n s, I n s → wpAny (model prog w) A (pyNext it) (fun r s₁ => match r with
      | none => R (.ok .next) s₁
      | some v => wpAny (model prog w) A (assign (.Name x₂ p₂) env v) (fun _ s₂ => wpAny (model prog w) A (eval elt env) (fun x s₃ =>
          wpAny (model prog w) A (call (.builtin "list.append") [acc, x]) (fun _ s₄ => ∃ m, m < n ∧ I m s₄) (notedBy (model prog w) A env fun e s' => R (.error e) s') s₃)
          (notedBy (model prog w) A env fun e s' => R (.error e) s') s₂) (notedBy (model prog w) A env fun e s' => R (.error e) s') s₁) (notedBy (model prog w) A env fun e s' => R (.error e) s') s)
    (n : Nat) (h : I n s) : codeAny (model prog w) A (.compLoop (.ListComp elt [⟨t1, i1, [], 0⟩, ⟨.Name x₂ p₂, i2, [], 0⟩] scope pos) 1 it acc env) R s := by
  refine codeAny_loop rfl I (fun n s hI => ?_) n h
  show wpAny _ A ((compTurn (.ListComp elt [⟨t1, i1, [], 0⟩, ⟨.Name x₂ p₂, i2, [], 0⟩] scope pos) 1 it acc env).onRaise (fun x => do noteFrame x env; theTreesLotGoes x)) _ _ s
  refine wpAny_noted ?_
  rw [turn1_two]
  refine wpAny_bind (wpAny_standAt (wpAny_bind (wpAny_mono (turn n s hI) (fun r s₁ h₁ => ?_) fun _ _ h' => h')))
  cases r with
  | none => exact wpAny_pure h₁
  | some v =>
    refine wpAny_bind (wpAny_of_eq (a := ()) rfl ?_)
    refine wpAny_bind (wpAny_mono h₁ (fun _ s₂ h₂ => ?_) fun _ _ h' => h')
    exact wpAny_bind (wpAny_bind (wpAny_mono h₂ (fun x s₄ h₄ => wpAny_bind (wpAny_mono h₄ (fun _ s₅ h₅ => wpAny_pure (wpAny_pure ⟨rfl, h₅⟩)) fun _ _ h' => h')) fun _ _ h' => h'))
theorem loop0_two {elt i1 t2 i2 : PySem.Expr} {x : Str} {p : Pos} {scope : Scope} {pos : Pos} {it acc : Value} {env : Env} {R : Result → Shared → Prop} (I : Nat → Shared → Prop) (hfs : ∀ x, foldedSetIterable i2 env x = pure x)
    (turn : ∀ n s, I n s → wpAny (model prog w) A (pyNext it) (fun r s₁ => match r with
      | none => R (.ok .next) s₁
      | some v => wpAny (model prog w) A (assign (.Name x p) env v) (fun _ s₂ => wpAny (model prog w) A (eval i2 env) (fun xv s₃ =>
          wpAny (model prog w) A (pyIter xv) (fun it2 s₄ => codeAny (model prog w) A (.compStart (.ListComp elt [⟨.Name x p, i1, [], 0⟩, ⟨t2, i2, [], 0⟩] scope pos) 1 it2 acc env) (fun r s' => match r with | .ok f => ∃ m, m < n ∧ I m s' | .error e => cameBackBy (model prog w) A env (notedBy (model prog w) A env fun e s' => R (.error e) s') e s') s₄)
            (notedBy (model prog w) A env fun e s' => R (.error e) s') s₃)
          (notedBy (model prog w) A env fun e s' => R (.error e) s') s₂) (notedBy (model prog w) A env fun e s' => R (.error e) s') s₁) (notedBy (model prog w) A env fun e s' => R (.error e) s') s)
    (n : Nat) (h : I n s) : codeAny (model prog w) A (.compLoop (.ListComp elt [⟨.Name x p, i1, [], 0⟩, ⟨t2, i2, [], 0⟩] scope pos) 0 it acc env) R s := by
  refine codeAny_loop rfl I (fun n s hI => ?_) n h
  show wpAny _ A ((compTurn (.ListComp elt [⟨.Name x p, i1, [], 0⟩, ⟨t2, i2, [], 0⟩] scope pos) 0 it acc env).onRaise (fun x => do noteFrame x env; theTreesLotGoes x)) _ _ s
  refine wpAny_noted ?_
  rw [turn0_two]
  refine wpAny_bind (wpAny_standAt (wpAny_bind (wpAny_mono (turn n s hI) (fun r s₁ h₁ => ?_) fun _ _ h' => h')))
  cases r with
  | none => exact wpAny_pure h₁
  | some v =>
    refine wpAny_bind (wpAny_of_eq (a := ()) rfl ?_)
    refine wpAny_bind (wpAny_mono h₁ (fun _ s₂ h₂ => ?_) fun _ _ h' => h')
    refine wpAny_bind (wpAny_mono h₂ (fun xv s₃ h₃ => ?_) fun _ _ h' => h')
    refine wpAny_bind (wpAny_standAt (wpAny_bind (wpAny_of_eq (hfs xv) ?_)))
    refine wpAny_bind (wpAny_holding (wpAny_mono h₃ (fun it2 s₄ h₄ => ?_) fun _ _ h' => h'))
    refine wpAny_bind (wpAny_runOwn (codeAny_mono h₄ (fun r s₅ h₅ => ?_)))
    cases r with
    | ok f => exact wpAny_pure ⟨rfl, h₅⟩
    | error e => exact h₅
def EltH (prog : Program) (w : World) (A : Around) (h₀ : Heap) (L : Addr) (m : Str → Option Value) (env : Env) (elt : PySem.Expr) (x x₂ : Str) (scope : Scope) (cl : List (Str × Addr)) (s : Shared) (news : List (Addr × Obj)) (n1 n2 : Nat) (f : Nat → Nat → Int) : Prop :=
  ∀ i j t u C oC m₂ h tk (E' : Value → Shared → Prop) (Qe : Value → Shared → Prop), i < n1 → j < n2 → NsObj oC m₂ → m₂ x = some (.int i t) → m₂ x₂ = some (.int j u) → Fr h₀ L h m → News h₀ L h ((C, oC) :: news) → (∀ p ∈ news, p.1 ≠ C) →
    (∀ t' tk', Qe (.int (f i j) t') { s with heap := h, toks := tk' }) → wpAny (model prog w) A (eval elt (compEnvC scope cl C env)) Qe E' { s with heap := h, toks := tk }
def IterH (prog : Program) (w : World) (A : Around) (h₀ : Heap) (L : Addr) (m : Str → Option Value) (env : Env) (iter₂ : PySem.Expr) (scope : Scope) (cl : List (Str × Addr)) (s : Shared) (news : List (Addr × Obj)) (n2 : Nat) : Prop :=
  ∀ C oC m₂ h tk (E' : Value → Shared → Prop) (Qi : Value → Shared → Prop), NsObj oC m₂ → Fr h₀ L h m → News h₀ L h ((C, oC) :: news) → (∀ p ∈ news, p.1 ≠ C) →
    (∀ r t u v h' tk', Kp h h' → IsRange h' r 0 n2 1 t u v → Qi (.ref r) { s with heap := h', toks := tk' }) → wpAny (model prog w) A (eval iter₂ (compEnvC scope cl C env)) Qi E' { s with heap := h, toks := tk }
def TwoSrc (prog : Program) (w : World) (A : Around) (h₀ : Heap) (L : Addr) (m : Str → Option Value) (env : Env) (elt iter₂ : PySem.Expr) (x x₂ : Str) (scope : Scope) (cl : List (Str × Addr)) (n1 n2 : Nat) (Q : Value → Shared → Prop) (xv : Value) (s₁ : Shared) : Prop :=
  ∃ r t u v news f, xv = .ref r ∧ A.handled = none ∧ Fr h₀ L s₁.heap m ∧ News h₀ L s₁.heap news ∧ IsRange s₁.heap r 0 n1 1 t u v ∧
    (∀ h, EltH prog w A h₀ L m env elt x x₂ scope cl { s₁ with heap := h } news n1 n2 f) ∧ (∀ h, IterH prog w A h₀ L m env iter₂ scope cl { s₁ with heap := h } news n2) ∧
    ∀ D ys h tk, IntsAre ys ((List.range n1).flatMap fun i => (List.range n2).map (f i)) → Fr h₀ L h m → News h₀ L h ((D, lst ys) :: news) → (∀ p ∈ news, p.1 ≠ D) → Q (.ref D) { s₁ with heap := h, toks := tk }
theorem flat_succ (f : Nat → Nat → Int) (n2 i : Nat) : ((List.range (i + 1)).flatMap fun i => (List.range n2).map (f i)) = ((List.range i).flatMap fun i => (List.range n2).map (f i)) ++ (List.range n2).map (f i) := by
  rw [List.range_succ, List.flatMap_append, List.flatMap_cons, List.flatMap_nil, List.append_nil]
theorem flat_len (f : Nat → Nat → Int) (n2 i : Nat) : ((List.range i).flatMap fun i => (List.range n2).map (f i)).length = i * n2 := by
  induction i with
  | zero => rw [Nat.zero_mul]; rfl
  | succ i ih => rw [flat_succ, List.length_append, ih, List.length_map, List.length_range, Nat.succ_mul]
theorem News.keepAll {h h' : Heap} {news : List (Addr × Obj)} (N : News h₀ L h news) (hk : Kp h h') : News h₀ L h' news := fun p hp => ⟨hk _ _ (N p hp).1, (N p hp).2⟩
theorem ne_cons {D x : Addr} {o : Obj} {nw : List (Addr × Obj)} (h1 : D ≠ x) (h2 : ∀ p ∈ nw, p.1 ≠ x) : ∀ p ∈ (D, o) :: nw, p.1 ≠ x := List.forall_mem_cons.mpr ⟨h1, h2⟩
theorem comp_two {elt iter iter₂ : PySem.Expr} {x x₂ : Str} {px px₂ : Pos} {scope : Scope} {cl : List (Str × Addr)} {pos : Pos} {Q : Value → Shared → Prop} (n1 n2 : Nat) (hn1 : n1 ≤ 30) (hn2 : n2 ≤ 30) (F₀ : Fr h₀ L s.heap m)
    (hclos : closureFor scope env = pure cl) (hcell : ∀ y ∈ scope.names, y.2 ≠ .cell) (hkind : scope.kind = .function)
    (hnames : ∀ y ∈ scope.names, y.2 = .local → scope.names.lookup y.1 = some .local) (hx : scope.names.lookup x = some .local) (hx₂ : scope.names.lookup x₂ = some .local) (hxx : x ≠ x₂)
    (h : wpAny (model prog w) A (eval iter env) (TwoSrc prog w A h₀ L m env elt iter₂ x x₂ scope cl n1 n2 Q) E s)
    (hs : ∀ x, foldedSetIterable iter env x = pure x := by intro _; rfl) (hs₂ : ∀ env x, foldedSetIterable iter₂ env x = pure x := by intro _ _; rfl) :
    wpAny (model prog w) A (eval (.ListComp elt [⟨.Name x px, iter, [], 0⟩, ⟨.Name x₂ px₂, iter₂, [], 0⟩] scope pos) env) Q E s := by
  rw [eval_ListComp]
  refine wpAny_comprehension_free (use := none) rfl hs hclos hkind hnames (wpAny_mono h (fun xv s₁ h₁ => ?_) fun _ _ e => e)
  obtain ⟨r, t, u, v, news, f, rfl, hh, F, N, hr, hel, hit, fin⟩ := h₁
  refine wpAny_pyIter_range hr (small_one (by decide) (by decide) (by omega) (by omega)) ?_
  rw [rangeSize_nat, show (((n1 : Int) - 0).toNat : Int) = (n1 : Int) by omega]
  generalize hH1 : s₁.heap.push { cls := .type "range_iterator", data := .fields #[rawInt 0, rawInt (n1 : Int), rawInt 1] } = H1
  have hK1 : Kp s₁.heap H1 := fun b o e => hH1 ▸ Heap.get?_push_of_some _ e
  have hI1 : IsRangeIter H1 s₁.heap.objs.size 0 n1 1 := by rw [← hH1]; exact Heap.get?_push_size _ rfl
  have hz1 : H1.objs.size = s₁.heap.objs.size + 1 := by rw [← hH1, Heap.size_push]
  obtain ⟨I1, hI1e⟩ : ∃ I1, s₁.heap.objs.size = I1 := ⟨_, rfl⟩
  rw [hI1e] at hI1 hz1 ⊢
  have hI1₀ : h₀.get? I1 = none := by rw [← hI1e]; exact next_is_new F
  have hI1L : I1 ≠ L := by rw [← hI1e]; exact Nat.ne_of_gt F.ns.lt
  have hI1n : ∀ p ∈ news, p.1 ≠ I1 := fun p hp => by rw [← hI1e]; exact Nat.ne_of_lt (Heap.lt_size (N p hp).1)
  have F1 : Fr h₀ L H1 m := F.keeps hK1
  have N1 : News h₀ L H1 news := News.keepAll N hK1
  clear hH1 hK1
  refine wpAny_newObj_type (wpAny_newFunctionEnv hcell (by intro y hy; simp at hy) (fun h₁ hns₁ hsb₁ => ?_) hkind)
  dsimp only at hns₁ hsb₁ ⊢
  generalize hH2 : H1.push { cls := .type "list", dict := none, data := .seq ([] : List Value).toArray } = H2 at hns₁ hsb₁ ⊢
  obtain ⟨D, hDe⟩ : ∃ D, H1.objs.size = D := ⟨_, rfl⟩
  obtain ⟨C, hCe⟩ : ∃ C, H2.objs.size = C := ⟨_, rfl⟩
  have hC : C = D + 1 := by rw [← hCe, ← hH2, Heap.size_push, hDe]
  have hD1 : D = I1 + 1 := by rw [← hDe, hz1]
  rw [hCe] at hns₁ hsb₁ ⊢
  rw [hDe]
  have lt1 : ∀ b o, H1.get? b = some o → b < D := fun b o e => hDe ▸ Heap.lt_size e
  have hDC : D ≠ C := by rw [hC]; exact Nat.ne_of_lt (Nat.lt_succ_self _)
  have hIC : I1 ≠ C := by rw [hC, hD1]; exact Nat.ne_of_lt (Nat.lt_succ_of_lt (Nat.lt_succ_self _))
  have hID : I1 ≠ D := by rw [hD1]; exact Nat.ne_of_lt (Nat.lt_succ_self _)
  have old : Kp H1 h₁ := fun b o e => hsb₁.extBut b o (by rw [hC]; exact Nat.ne_of_lt (Nat.lt_succ_of_lt (lt1 b o e))) (Heap.get?_push_of_some _ (hH2 ▸ Heap.get?_push_of_some _ e))
  have hacc : h₁.get? D = some (lst []) := hsb₁.extBut _ _ hDC (Heap.get?_push_of_some _ (by rw [← hH2, ← hDe]; exact Heap.get?_push_size _ rfl))
  have hD₀ : h₀.get? D = none := by rw [← hDe]; exact next_is_new F1
  have hC₀ : h₀.get? C = none := Heap.get?_none_of_le (by rw [hC]; exact Nat.le_succ_of_le (hDe ▸ fr_size F1))
  have hLD : L < D := hDe ▸ F1.ns.lt
  have hDL : D ≠ L := Nat.ne_of_gt hLD
  have hCL : C ≠ L := by rw [hC]; exact Nat.ne_of_gt (Nat.lt_succ_of_lt hLD)
  have nD : ∀ p ∈ news, p.1 < D := fun p hp => lt1 _ _ (N1 p hp).1
  have offD : ∀ p ∈ news, p.1 ≠ D := fun p hp => Nat.ne_of_lt (nD p hp)
  have offC : ∀ p ∈ news, p.1 ≠ C := fun p hp => by rw [hC]; exact Nat.ne_of_lt (Nat.lt_succ_of_lt (nD p hp))
  have F2 : Fr h₀ L h₁ m := F1.keeps old
  have N2 : News h₀ L h₁ ((D, lst []) :: news) := List.forall_mem_cons.mpr ⟨⟨hacc, hDL, hD₀⟩, News.keepAll N1 old⟩
  have hI2 : IsRangeIter h₁ I1 0 n1 1 := old _ _ hI1
  clear hacc old hsb₁ hH2 hI1 F1 N1
  have sz : ∀ ys (i j : Nat), IntsAre ys (((List.range i).flatMap fun i => (List.range n2).map (f i)) ++ (List.range j).map (f i)) → i < n1 → j ≤ n2 → ys.length ≤ 930 := by
    intro ys i j hy hi hj
    rw [hy.length, List.length_append, List.length_map, List.length_range]
    rw [flat_len]
    have : i * n2 ≤ 30 * 30 := Nat.mul_le_mul (by omega) hn2
    omega
  have loop : ∀ s₃ : Shared, s₃ = { s₁ with heap := h₁, toks := s₁.toks + ([] : List (Str × Value)).length } →
      codeAny (model prog w) A (.compLoop (.ListComp elt [⟨.Name x px, iter, [], 0⟩, ⟨.Name x₂ px₂, iter₂, [], 0⟩] scope pos) 0 (.ref I1) (.ref D) (compEnvC scope cl C env))
        (compPost (model prog w) A E none Q (.ref D) C) s₃ := by
    rintro s₃ rfl
    refine loop0_two (fun k s' => ∃ h' tk i ys m', s' = { s₁ with heap := h', toks := tk } ∧ i ≤ n1 ∧ k = n1 + 1 - i ∧ IntsAre ys ((List.range i).flatMap fun i => (List.range n2).map (f i)) ∧ IsRangeIter h' I1 (i : Int) ((n1 : Int) - i) 1 ∧ Fr h₀ L h' m ∧ h'.Ns C m' ∧ News h₀ L h' ((D, lst ys) :: news)) (hs₂ _) ?_ (n1 + 1)
      ⟨h₁, _, 0, [], _, rfl, Nat.zero_le _, rfl, .nil, by simpa using hI2, F2, hns₁, N2⟩
    rintro k s' ⟨h', tk, i, ys, m', rfl, hi, rfl, hys, hR, F', hn', N'⟩
    by_cases hlt : i < n1
    · refine wpAny_pyNext_range_item hR (by omega) fun h₂ hR₂ hs₂ => ?_
      have F₂ : Fr h₀ L h₂ m := F'.change hs₂ hI1L hI1₀
      have hn₂ := hn'.sameBut hs₂ (Ne.symm hIC)
      have N₂ : News h₀ L h₂ ((D, lst ys) :: news) := fun p hp => ⟨hs₂.extBut _ _ (ne_cons (Ne.symm hID) hI1n p hp) (N' p hp).1, (N' p hp).2⟩
      refine wpAny_assign_Name (wpAny_storeName_local (lookup_relabel_local hx) hn₂ (fun h₃ hn₃ hs₃ => ?_) (by simp [compEnvC, relabel, hkind]))
      have F₃ : Fr h₀ L h₃ m := F₂.change hs₃ hCL hC₀
      have N₃ : News h₀ L h₃ ((D, lst ys) :: news) := fun p hp => ⟨hs₃.extBut _ _ (ne_cons (hDC) offC p hp) (N₂ p hp).1, (N₂ p hp).2⟩
      have hR₃ : IsRangeIter h₃ I1 ((i : Int) + 1) ((n1 : Int) - i - 1) 1 := hs₃.extBut _ _ hIC hR₂
      obtain ⟨oC, heC, hoC⟩ := ns_obj hn₃
      refine hit s₁.heap C oC _ h₃ _ _ _ hoC F₃ (List.forall_mem_cons.mpr ⟨⟨heC, hCL, hC₀⟩, fun p hp => N₃ p (.tail _ hp)⟩) offC ?_
      intro r2 t2 u2 v2 h₄ tk₄ hk₄ hr₄
      refine wpAny_pyIter_range hr₄ (small_one (by decide) (by decide) (by omega) (by omega)) ?_
      rw [rangeSize_nat, show (((n2 : Int) - 0).toNat : Int) = (n2 : Int) by omega]
      generalize hH5 : h₄.push { cls := .type "range_iterator", data := .fields #[rawInt 0, rawInt (n2 : Int), rawInt 1] } = h₅
      have hK5 : Kp h₃ h₅ := fun b o e => hH5 ▸ Heap.get?_push_of_some _ (hk₄ b o e)
      obtain ⟨J, hJe⟩ : ∃ J, h₄.objs.size = J := ⟨_, rfl⟩
      have hJ : IsRangeIter h₅ J 0 n2 1 := by rw [← hH5, ← hJe]; exact Heap.get?_push_size _ rfl
      have lt4 : ∀ b o, h₃.get? b = some o → b < J := fun b o e => hJe ▸ Heap.lt_size (hk₄ b o e)
      have hJL : J ≠ L := Nat.ne_of_gt (by obtain ⟨o, _, _, e, _⟩ := F₃.ns; exact lt4 _ _ e)
      have hJC : C ≠ J := Nat.ne_of_lt (lt4 _ _ heC)
      have hJD : D ≠ J := Nat.ne_of_lt (lt4 _ _ (N₃ _ (.head _)).1)
      have hJI : I1 ≠ J := Nat.ne_of_lt (lt4 _ _ hR₃)
      have hJn : ∀ p ∈ news, p.1 ≠ J := fun p hp => Nat.ne_of_lt (lt4 _ _ (N₃ p (.tail _ hp)).1)
      have hJ₀ : h₀.get? J = none := by
        cases e : h₀.get? J with
        | none => rfl
        | some o' => exact absurd (lt4 _ _ (F₃.keep _ _ e)) (Nat.lt_irrefl _)
      rw [hJe]
      have F₅ : Fr h₀ L h₅ m := F₃.keeps hK5
      have N₅ : News h₀ L h₅ ((D, lst ys) :: news) := News.keepAll N₃ hK5
      have hR₅ : IsRangeIter h₅ I1 ((i : Int) + 1) ((n1 : Int) - i - 1) 1 := hK5 _ _ hR₃
      have hn₅ := hn₃.at' fun o e => hK5 _ _ e
      have inner : ∀ s₄ : Shared, s₄ = { s₁ with heap := h₅, toks := tk₄ } →
          codeAny (model prog w) A (.compLoop (.ListComp elt [⟨.Name x px, iter, [], 0⟩, ⟨.Name x₂ px₂, iter₂, [], 0⟩] scope pos) 1 (.ref J) (.ref D) (compEnvC scope cl C env))
            (fun r s' => match r with
              | .ok _ => ∃ mm, mm < n1 + 1 - i ∧ ∃ h' tk i ys m', s' = { s₁ with heap := h', toks := tk } ∧ i ≤ n1 ∧ mm = n1 + 1 - i ∧ IntsAre ys ((List.range i).flatMap fun i => (List.range n2).map (f i)) ∧ IsRangeIter h' I1 (i : Int) ((n1 : Int) - i) 1 ∧ Fr h₀ L h' m ∧ h'.Ns C m' ∧ News h₀ L h' ((D, lst ys) :: news)
              | .error e => cameBackBy (model prog w) A (compEnvC scope cl C env) (notedBy (model prog w) A (compEnvC scope cl C env) fun e s' => compPost (model prog w) A E none Q (.ref D) C (.error e) s') e s') s₄ := by
        rintro s₄ rfl
        refine loop1_two (fun k s' => ∃ h' tk j ys m' t', s' = { s₁ with heap := h', toks := tk } ∧ j ≤ n2 ∧ k = n2 + 1 - j ∧ IntsAre ys (((List.range i).flatMap fun i => (List.range n2).map (f i)) ++ (List.range j).map (f i)) ∧ IsRangeIter h' J (j : Int) ((n2 : Int) - j) 1 ∧ IsRangeIter h' I1 ((i : Int) + 1) ((n1 : Int) - i - 1) 1 ∧ Fr h₀ L h' m ∧ h'.Ns C m' ∧ m' x = some (.int i t') ∧ News h₀ L h' ((D, lst ys) :: news)) ?_ (n2 + 1)
          ⟨h₅, _, 0, ys, _, _, rfl, Nat.zero_le _, rfl, by simpa using hys, by simpa using hJ, hR₅, F₅, hn₅, by simp; rfl, N₅⟩
        rintro k s' ⟨g₁, tkg, j, zs, mg', t', rfl, hj, rfl, hzs, hJ₁, hR₁, Fg, hng, hmx, Ng⟩
        by_cases hjl : j < n2
        · refine wpAny_pyNext_range_item hJ₁ (by omega) fun g₂ hJ₂ hs₂ => ?_
          have Fg₂ : Fr h₀ L g₂ m := Fg.change hs₂ hJL hJ₀
          have hng₂ := hng.sameBut hs₂ hJC
          have Ng₂ : News h₀ L g₂ ((D, lst zs) :: news) := fun p hp => ⟨hs₂.extBut _ _ (ne_cons (hJD) hJn p hp) (Ng p hp).1, (Ng p hp).2⟩
          refine wpAny_assign_Name (wpAny_storeName_local (lookup_relabel_local hx₂) hng₂ (fun g₃ hng₃ hs₃ => ?_) (by simp [compEnvC, relabel, hkind]))
          have Fg₃ : Fr h₀ L g₃ m := Fg₂.change hs₃ hCL hC₀
          have Ng₃ : News h₀ L g₃ ((D, lst zs) :: news) := fun p hp => ⟨hs₃.extBut _ _ (ne_cons (hDC) offC p hp) (Ng₂ p hp).1, (Ng₂ p hp).2⟩
          have hJ₃ : IsRangeIter g₃ J ((j : Int) + 1) ((n2 : Int) - j - 1) 1 := hs₃.extBut _ _ (Ne.symm hJC) hJ₂
          have hR₃' : IsRangeIter g₃ I1 ((i : Int) + 1) ((n1 : Int) - i - 1) 1 := hs₃.extBut _ _ hIC (hs₂.extBut _ _ hJI hR₁)
          obtain ⟨oC', heC', hoC'⟩ := ns_obj hng₃
          refine hel s₁.heap i j t' _ C oC' _ g₃ _ _ _ hlt hjl hoC' (by simp only [hxx, if_false]; exact hmx) (by simp; rfl) Fg₃ (List.forall_mem_cons.mpr ⟨⟨heC', hCL, hC₀⟩, fun p hp => Ng₃ p (.tail _ hp)⟩) offC ?_
          intro te tke
          have hzl := sz zs i j hzs hlt hj
          refine append_at (hsz := by show zs.toArray.size ≤ sizeLine; rw [List.size_toArray, sizeLine_eq]; omega) (Ng₃ _ (.head _)).1 fun g₄ hs₄ hD₄ => ?_
          refine ⟨n2 + 1 - (j + 1), by omega, g₄, _, j + 1, zs ++ [.int (f i j) te], _, t', rfl, hjl, rfl, ?_, ?_, hs₄.extBut _ _ hID hR₃', Fg₃.change hs₄ hDL hD₀, hng₃.sameBut hs₄ (Ne.symm hDC), by simp only [hxx, if_false]; exact hmx, ?_⟩
          · rw [List.range_succ, List.map_append, ← List.append_assoc]
            exact hzs.append (.cons _ _ .nil)
          · have := hs₄.extBut _ _ (Ne.symm hJD) hJ₃
            rw [show ((j + 1 : Nat) : Int) = (j : Int) + 1 by omega, show (n2 : Int) - ((j : Int) + 1) = (n2 : Int) - j - 1 by omega]
            exact this
          · exact List.forall_mem_cons.mpr ⟨⟨hD₄.trans (congrArg some (lst_snoc zs _)), hDL, hD₀⟩, fun p hp => ⟨hs₄.extBut _ _ (offD p hp) (Ng₃ p (.tail _ hp)).1, (Ng₃ p (.tail _ hp)).2⟩⟩
        · obtain rfl : j = n2 := by omega
          refine wpAny_pyNext_range_end hh hJ₁ (by omega) fun g₂ he₂ => ?_
          refine ⟨n1 + 1 - (i + 1), by omega, g₂, tkg, i + 1, zs, mg', rfl, hlt, rfl, by rw [flat_succ]; exact hzs, ?_, ?_, hng.extBut he₂ hJC, fun p hp => ⟨he₂ _ _ (ne_cons (hJD) hJn p hp) (Ng p hp).1, (Ng p hp).2⟩⟩
          · rw [show ((i + 1 : Nat) : Int) = (i : Int) + 1 by omega, show (n1 : Int) - ((i : Int) + 1) = (n1 : Int) - i - 1 by omega]
            exact he₂ _ _ hJI hR₁
          · exact ⟨Fg.ns.extBut he₂ (Ne.symm hJL), fun b o e => he₂ b o (fun q => by rw [q, hJ₀] at e; cases e) (Fg.keep b o e), Fg.above⟩
      exact start1_two (inner _ rfl) (wpAny_pyIter_rangeiter hJ (inner _ rfl))
    · obtain rfl : i = n1 := by omega
      refine wpAny_pyNext_range_end hh hR (by omega) fun h₂ he₂ => ?_
      refine ⟨m', hn'.extBut he₂ (Ne.symm hIC), fun h₃ hs₃ => fin D ys h₃ tk hys ?_ (fun p hp => ?_) offD⟩
      · refine Fr.change ⟨F'.ns.extBut he₂ (Ne.symm hI1L), fun b o e => he₂ b o (fun q => by rw [q, hI1₀] at e; cases e) (F'.keep b o e), F'.above⟩ hs₃ hCL hC₀
      · refine ⟨hs₃.extBut _ _ ?_ (he₂ _ _ ?_ (N' p hp).1), (N' p hp).2⟩
        · exact ne_cons hDC offC p hp
        · exact ne_cons (Ne.symm hID) hI1n p hp
  exact codeAny_compStart_list (loop _ rfl) (wpAny_pyIter_rangeiter hI2 (loop _ rfl))
end
end Mine

end
section
open PySem PySem.W PyProof.Rows PySem.Calls PySem.Spec
set_option Elab.async false
set_option maxRecDepth 100000
set_option maxHeartbeats 8000000
set_option linter.unusedVariables false
namespace Mine
section
variable {prog : Program} {w : World} {A : Around} {E : Value → Shared → Prop} {s : Shared} {env : Env} {g : Heap} {L : Addr} {m : Str → Option Value} {news : List (Addr × Obj)}
def TupIt (T : Addr) (i : Nat) (o : Obj) : Prop := o.cls = .type "tuple_iterator" ∧ o.data = .fields #[.ref T, .int i 0]
theorem iter_tup_K {T : Addr} {oT : Obj} {items : Array Value} {n : Nat} {Q : Value → Shared → Prop} (F : Fr g L s.heap m) (N : News g L s.heap ((T, oT) :: news)) (hc : oT.cls = .type "tuple") (hd : oT.data = .seq items n)
    (h : ∀ I h' o, TupIt T 0 o → Fr g L h' m → News g L h' ((I, o) :: (T, oT) :: news) → (∀ p ∈ (T, oT) :: news, p.1 < I) → Q (.ref I) { s with heap := h' }) :
    wpAny (model prog w) A (pyIter (.ref T)) Q E s := by
  refine wpAny_pyIter_tuple (items := items) ⟨oT, (N _ (.head _)).1, hc, n, hd⟩ ?_
  exact h _ _ _ ⟨rfl, rfl⟩ (F.push _) (N.push F _) (fun p hp => Heap.lt_size (N p hp).1)
def TNext (g : Heap) (L : Addr) (s : Shared) (I T : Addr) (oI oT : Obj) (J : (Str → Option Value) → List (Addr × Obj) → Array GenState → Prop) (s₃ : Shared) : Prop :=
  ∃ m₂ news₂ h₂ tk₂ gn₂, s₃ = { s with heap := h₂, toks := tk₂, gens := gn₂ } ∧ Fr g L h₂ m₂ ∧ News g L h₂ ((I, oI) :: (T, oT) :: news₂) ∧ (∀ p ∈ news₂, p.1 ≠ I) ∧ J m₂ news₂ gn₂
theorem TNext.intro {I T : Addr} {oI oT : Obj} {J : (Str → Option Value) → List (Addr × Obj) → Array GenState → Prop} {m₂ : Str → Option Value} {all : List (Addr × Obj)} {h₂ : Heap} {tk₂ : Nat} {gn₂ : Array GenState} (news₂ : List (Addr × Obj))
    (F : Fr g L h₂ m₂) (N : News g L h₂ all) (hI : (I, oI) ∈ all) (hT : (T, oT) ∈ all) (hs : ∀ e ∈ news₂, e ∈ all) (hap : ∀ p ∈ news₂, p.1 ≠ I) (hJ : J m₂ news₂ gn₂) : TNext g L s I T oI oT J { s with heap := h₂, toks := tk₂, gens := gn₂ } :=
  ⟨m₂, news₂, h₂, tk₂, gn₂, rfl, F, List.forall_mem_cons.mpr ⟨N _ hI, List.forall_mem_cons.mpr ⟨N _ hT, fun e he => N e (hs e he)⟩⟩, hap, hJ⟩
theorem for_tup {R : Result → Shared → Prop} {x : Str} {px : Pos} {I T : Addr} {oI oT : Obj} {items : Array Value} {n : Nat} {body : List Stmt} (hh : A.handled = none) (hL : env.locals = L) (hx : env.kindOf x = some .local) (hp : (env.scope.kind == .class || (env.scope.kind == .module && env.locals != env.globals)) = false)
    (F : Fr g L s.heap m) (N : News g L s.heap ((I, oI) :: (T, oT) :: news)) (hI : TupIt T 0 oI) (hc : oT.cls = .type "tuple") (hd : oT.data = .seq items n) (hTI : T ≠ I) (hap : ∀ p ∈ news, p.1 ≠ I)
    (J : Nat → (Str → Option Value) → List (Addr × Obj) → Array GenState → Prop) (h0 : J 0 m news s.gens)
    (turn : ∀ i v m₁ news₁ h tk gn oI₁, items[i]? = some v → J i m₁ news₁ gn → (∀ p ∈ news₁, p.1 ≠ I) → Fr g L h (fun y => if y = x then some v else m₁ y) → News g L h ((I, oI₁) :: (T, oT) :: news₁) →
      wpAny (model prog w) A (execs body env) (fun f s₃ => match f with
        | .next | .cont => TNext g L s I T oI₁ oT (J (i + 1)) s₃
        | .brk => R (.ok .next) s₃
        | .ret v => R (.ok (.ret v)) s₃) (notedBy (model prog w) A env fun e s' => R (.error e) s') { s with heap := h, toks := tk, gens := gn })
    (done : ∀ m₁ news₁ h tk gn, J items.size m₁ news₁ gn → Fr g L h m₁ → News g L h news₁ → R (.ok .next) { s with heap := h, toks := tk, gens := gn }) :
    codeAny (model prog w) A (.forLoop (.Name x px) (.ref I) body [] env) R s := by
  subst hL
  refine codeAny_forLoop (fun k s' => ∃ i m₁ news₁ h tk gn oI₁, s' = { s with heap := h, toks := tk, gens := gn } ∧ i ≤ items.size ∧ k = items.size + 1 - i ∧ J i m₁ news₁ gn ∧ (∀ p ∈ news₁, p.1 ≠ I) ∧ TupIt T i oI₁ ∧ Fr g env.locals h m₁ ∧ News g env.locals h ((I, oI₁) :: (T, oT) :: news₁)) ?_ (items.size + 1)
    ⟨0, m, news, s.heap, s.toks, s.gens, oI, rfl, Nat.zero_le _, rfl, h0, hap, hI, F, N⟩
  rintro k s' ⟨i, m₁, news₁, h, tk, gn, oI₁, rfl, hi, rfl, hJ, hap₁, hI₁, F₁, N₁⟩
  have hit : h.IsTupleIter I T i := ⟨_, (N₁ _ (.head _)).1, hI₁⟩
  have hT : h.IsTuple T items := ⟨_, (N₁ _ (.tail _ (.head _))).1, hc, _, hd⟩
  have hapn : ∀ p ∈ (T, oT) :: news₁, p.1 ≠ I := List.forall_mem_cons.mpr ⟨hTI, hap₁⟩
  by_cases hlt : i < items.size
  · refine wpAny_pyNext_tuple_item hit hT (x := items[i]) (by simp [hlt]) fun h₁ hit₁ hs₁ => ?_
    obtain ⟨oI₂, ho₂, hI₂⟩ := hit₁
    have F₂ := fr_change F₁ N₁ hs₁
    have N₂ := N₁.setHead hapn hs₁ ho₂
    refine wpAny_assign_Name (wpAny_storeName_local hx F₂.ns (fun h₂ hn₂ hs₂ => ?_) hp)
    have F₃ : Fr g env.locals h₂ _ := F₂.set hn₂ hs₂
    have N₃ : News g env.locals h₂ _ := N₂.set hs₂
    refine wpAny_mono (turn i _ m₁ news₁ h₂ _ gn oI₂ (by simp [hlt]) hJ hap₁ F₃ N₃) (fun f s₃ h₃ => ?_) fun _ _ e => e
    cases f with
    | next => obtain ⟨m₂, news₂, h₂, tk₂, gn₂, rfl, F₄, N₄, hap₄, hJ₄⟩ := h₃; exact ⟨items.size + 1 - (i + 1), by omega, i + 1, m₂, news₂, h₂, tk₂, gn₂, oI₂, rfl, hlt, rfl, hJ₄, hap₄, hI₂, F₄, N₄⟩
    | cont => obtain ⟨m₂, news₂, h₂, tk₂, gn₂, rfl, F₄, N₄, hap₄, hJ₄⟩ := h₃; exact ⟨items.size + 1 - (i + 1), by omega, i + 1, m₂, news₂, h₂, tk₂, gn₂, oI₂, rfl, hlt, rfl, hJ₄, hap₄, hI₂, F₄, N₄⟩
    | brk => exact h₃
    | ret v => exact h₃
  · have hin : i = items.size := by omega
    subst hin
    refine wpAny_pyNext_tuple_end hh hit hT (by simp) fun h₁ he₁ => wpAny_execs_nil ?_
    have hIL := (N₁ _ (.head _)).2.1
    refine done m₁ news₁ h₁ tk gn hJ ?_ ?_
    · exact ⟨F₁.ns.extBut he₁ (Ne.symm hIL), fun b o e => he₁ b o (fun q => by have := (N₁ _ (.head _)).2.2; rw [← q, e] at this; cases this) (F₁.keep b o e), F₁.above⟩
    · exact fun p hp => ⟨he₁ p.1 p.2 (hap₁ p hp) (N₁ p (.tail _ (.tail _ hp))).1, (N₁ p (.tail _ (.tail _ hp))).2⟩
end
end Mine

end
section
set_option Elab.async false
set_option maxRecDepth 100000
set_option maxHeartbeats 8000000
namespace Mine
noncomputable def fdue (a b : Nat) (sp0 : Int) (i j : Nat) : Int := (dl (a : Int) ((a + b : Nat) : Int) (((a + b : Nat) : Int) - 1).toNat).getD ((sp0 + ((i : Int) + 6 * (j : Int)) * (a : Int)) % ((a + b : Nat) : Int)).toNat 0
noncomputable def bz (a b : Nat) (z : Int) : Int := if z % ((a + b : Nat) : Int) < b then 0 else 1
noncomputable def bet (a b : Nat) (sp0 : Int) (t : Nat) : Int := bz a b (sp0 + (t : Int) * (a : Int))
noncomputable def nb (a b : Nat) (sp0 : Int) : Nat → Int
  | 0 => 0
  | t + 1 => 2 * nb a b sp0 t + bet a b sp0 t
noncomputable def win (a b : Nat) (z : Int) : Int := 32 * bz a b z + 16 * bz a b (z + a) + 8 * bz a b (z + 2 * a) + 4 * bz a b (z + 3 * a) + 2 * bz a b (z + 4 * a) + bz a b (z + 5 * a)
theorem bz_01 (a b : Nat) (z : Int) : 0 ≤ bz a b z ∧ bz a b z ≤ 1 := by unfold bz; split <;> omega
theorem due_win : ((List.range 13).all fun a => (List.range 13).all fun b => !(decide (1 ≤ a) && decide (1 ≤ b) && decide (Nat.gcd a b = 1)) || (List.range (a + b)).all fun z => decide (due (a : Int) ((a + b : Nat) : Int) z = win a b (z : Int))) = true := by decide +kernel
theorem due_win' {a b z : Nat} (ha1 : 1 ≤ a) (ha2 : a ≤ 12) (hb1 : 1 ≤ b) (hb2 : b ≤ 12) (hg : Nat.gcd a b = 1) (hz : z < a + b) : due (a : Int) ((a + b : Nat) : Int) z = win a b (z : Int) := by
  have h := List.all_eq_true.mp (List.all_eq_true.mp due_win a (List.mem_range.mpr (by omega))) b (List.mem_range.mpr (by omega))
  rw [decide_eq_true ha1, decide_eq_true hb1, decide_eq_true hg] at h
  exact of_decide_eq_true (List.all_eq_true.mp h z (List.mem_range.mpr hz))
theorem bz_mod (a b : Nat) (z w : Int) : bz a b (z % ((a + b : Nat) : Int) + w) = bz a b (z + w) := by
  unfold bz; rw [Int.emod_add_emod]
theorem win_mod (a b : Nat) (z : Int) : win a b (z % ((a + b : Nat) : Int)) = win a b z := by
  unfold win
  rw [bz_mod, bz_mod, bz_mod, bz_mod, bz_mod]
  have := bz_mod a b z 0
  rw [Int.add_zero, Int.add_zero] at this
  rw [this]
theorem nb6 (a b : Nat) (sp0 : Int) (t : Nat) : nb a b sp0 (t + 6) = 64 * nb a b sp0 t + win a b (sp0 + (t : Int) * a) := by
  have e : ∀ k : Nat, bet a b sp0 (t + k) = bz a b (sp0 + (t : Int) * a + (k : Int) * a) := fun k => by
    unfold bet
    rw [show ((t + k : Nat) : Int) = (t : Int) + (k : Int) by omega, Int.add_mul, Int.add_assoc]
  show 2 * (2 * (2 * (2 * (2 * (2 * nb a b sp0 t + bet a b sp0 t) + bet a b sp0 (t + 1)) + bet a b sp0 (t + 2)) + bet a b sp0 (t + 3)) + bet a b sp0 (t + 4)) + bet a b sp0 (t + 5) = _
  rw [e 1, e 2, e 3, e 4, e 5]
  show _ = 64 * nb a b sp0 t + (32 * bz a b (sp0 + (t : Int) * a) + 16 * bz a b (sp0 + (t : Int) * a + a) + 8 * bz a b (sp0 + (t : Int) * a + 2 * a) + 4 * bz a b (sp0 + (t : Int) * a + 3 * a) + 2 * bz a b (sp0 + (t : Int) * a + 4 * a) + bz a b (sp0 + (t : Int) * a + 5 * a))
  rw [show ((1 : Nat) : Int) * (a : Int) = a by omega]
  show 2 * (2 * (2 * (2 * (2 * (2 * nb a b sp0 t + bz a b (sp0 + (t : Int) * a)) + bz a b (sp0 + (t : Int) * a + a)) + bz a b (sp0 + (t : Int) * a + 2 * a)) + bz a b (sp0 + (t : Int) * a + 3 * a)) + bz a b (sp0 + (t : Int) * a + 4 * a)) + bz a b (sp0 + (t : Int) * a + 5 * a) = _
  generalize bz a b (sp0 + (t : Int) * a) = x0
  generalize bz a b (sp0 + (t : Int) * a + a) = x1
  generalize bz a b (sp0 + (t : Int) * a + 2 * a) = x2
  generalize bz a b (sp0 + (t : Int) * a + 3 * a) = x3
  generalize bz a b (sp0 + (t : Int) * a + 4 * a) = x4
  generalize bz a b (sp0 + (t : Int) * a + 5 * a) = x5
  omega
theorem nb_div (a b : Nat) (sp0 : Int) (t : Nat) : ∀ k, nb a b sp0 (t + k) / 2 ^ k = nb a b sp0 t
  | 0 => by simp
  | k + 1 => by
    rw [Int.pow_succ, Int.mul_comm, ← Int.ediv_ediv_of_nonneg (by decide)]
    have e : nb a b sp0 (t + (k + 1)) / 2 = nb a b sp0 (t + k) := by
      show (2 * nb a b sp0 (t + k) + bet a b sp0 (t + k)) / 2 = _
      have := bz_01 a b (sp0 + ((t + k : Nat) : Int) * a)
      unfold bet
      omega
    rw [e, nb_div a b sp0 t k]
theorem tfig_nb (a b : Nat) (sp0 : Int) (i k : Nat) (hi : i < 6) (hk : k < 4) : tfig (nb a b sp0 29) i k = win a b (sp0 + ((i : Int) + 6 * (k : Int)) * a) := by
  have e1 : trow (nb a b sp0 29) i = nb a b sp0 (24 + i) % 16777216 := by
    unfold trow
    rw [show (29 : Nat) = (24 + i) + (5 - i) by omega, nb_div]
  unfold tfig
  rw [e1]
  have e2 : ∀ x : Int, x % 16777216 / 2 ^ (18 - 6 * k) % 64 = x / 2 ^ (18 - 6 * k) % 64 := fun x => by
    match k, hk with
    | 0, _ => show x % 16777216 / 262144 % 64 = x / 262144 % 64; omega
    | 1, _ => show x % 16777216 / 4096 % 64 = x / 4096 % 64; omega
    | 2, _ => show x % 16777216 / 64 % 64 = x / 64 % 64; omega
    | 3, _ => show x % 16777216 / 1 % 64 = x / 1 % 64; omega
  rw [e2, show 24 + i = (i + 6 * k + 6) + (18 - 6 * k) by omega, nb_div, nb6]
  have hw : 0 ≤ win a b (sp0 + ((i + 6 * k : Nat) : Int) * a) ∧ win a b (sp0 + ((i + 6 * k : Nat) : Int) * a) < 64 := by
    generalize sp0 + ((i + 6 * k : Nat) : Int) * a = z
    unfold win
    have h0 := bz_01 a b z
    have h1 := bz_01 a b (z + a)
    have h2 := bz_01 a b (z + 2 * a)
    have h3 := bz_01 a b (z + 3 * a)
    have h4 := bz_01 a b (z + 4 * a)
    have h5 := bz_01 a b (z + 5 * a)
    omega
  rw [show ((i + 6 * k : Nat) : Int) = (i : Int) + 6 * (k : Int) by omega] at hw ⊢
  omega
theorem ml_getD (first step : Int) (i : Nat) (h : i < 30) : (ml first step 30).getD i 0 = first + (i : Int) * step := by
  unfold ml
  rw [List.getD_eq_getElem?_getD, List.getElem?_map, List.getElem?_range h]
  exact sp_eq first step i
theorem cond_iff {c : Nat} {fst snd u : Int} (hc1 : 1 ≤ c) : u * (c : Int) ≤ snd - fst ↔ u ≤ (snd - fst).fdiv (c : Int) := by
  rw [Int.fdiv_eq_ediv_of_nonneg _ (by omega)]
  exact (Int.le_ediv_iff_mul_le (by omega)).symm
theorem mrun_nb {c a b : Nat} {fst snd : Int} (hc1 : 1 ≤ c) (ha1 : 1 ≤ a) (hb1 : 1 ≤ b) (h1 : 1 ≤ fst) (h2 : fst ≤ ((c * a : Nat) : Int)) (h3 : 1 ≤ snd) (h4 : snd ≤ ((c * b : Nat) : Int)) : ∀ t, t ≤ 29 →
    (mrun (ml fst ((c * a : Nat) : Int) 30) (ml snd ((c * b : Nat) : Int) 30) t).2.2 = nb a b ((b : Int) - 1 - (snd - fst).fdiv (c : Int)) t ∧
    0 ≤ ((mrun (ml fst ((c * a : Nat) : Int) 30) (ml snd ((c * b : Nat) : Int) 30) t).1 : Int) * a - ((mrun (ml fst ((c * a : Nat) : Int) 30) (ml snd ((c * b : Nat) : Int) 30) t).2.1 : Int) * b + ((b : Int) - 1 - (snd - fst).fdiv (c : Int)) ∧
    ((mrun (ml fst ((c * a : Nat) : Int) 30) (ml snd ((c * b : Nat) : Int) 30) t).1 : Int) * a - ((mrun (ml fst ((c * a : Nat) : Int) 30) (ml snd ((c * b : Nat) : Int) 30) t).2.1 : Int) * b + ((b : Int) - 1 - (snd - fst).fdiv (c : Int)) < (a : Int) + b := by
  intro t
  induction t with
  | zero =>
    intro _
    refine ⟨rfl, ?_, ?_⟩
    · show 0 ≤ (0 : Int) * a - (0 : Int) * b + ((b : Int) - 1 - (snd - fst).fdiv (c : Int))
      have : ¬ (b : Int) ≤ (snd - fst).fdiv (c : Int) := fun q => by
        have := (cond_iff (fst := fst) (snd := snd) (u := (b : Int)) hc1).mpr q
        have e : (b : Int) * (c : Int) = ((c * b : Nat) : Int) := by push_cast; rw [Int.mul_comm]
        rw [e] at this
        omega
      omega
    · show (0 : Int) * a - (0 : Int) * b + ((b : Int) - 1 - (snd - fst).fdiv (c : Int)) < (a : Int) + b
      have : -(a : Int) ≤ (snd - fst).fdiv (c : Int) := (cond_iff (fst := fst) (snd := snd) (u := -(a : Int)) hc1).mp (by
        have e : -(a : Int) * (c : Int) = -((c * a : Nat) : Int) := by push_cast; rw [Int.neg_mul, Int.mul_comm]
        rw [e]
        omega)
      omega
  | succ t ih =>
    intro ht
    obtain ⟨ih1, ih2, ih3⟩ := ih (by omega)
    have hsum := mrun_sum (ml fst ((c * a : Nat) : Int) 30) (ml snd ((c * b : Nat) : Int) 30) t
    have hsucc : mrun (ml fst ((c * a : Nat) : Int) 30) (ml snd ((c * b : Nat) : Int) 30) (t + 1) = mstep (ml fst ((c * a : Nat) : Int) 30) (ml snd ((c * b : Nat) : Int) 30) (mrun (ml fst ((c * a : Nat) : Int) 30) (ml snd ((c * b : Nat) : Int) 30) t) := rfl
    rw [hsucc]
    clear hsucc
    generalize mrun (ml fst ((c * a : Nat) : Int) 30) (ml snd ((c * b : Nat) : Int) 30) t = st at ih1 ih2 ih3 hsum ⊢
    obtain ⟨i, j, bits⟩ := st
    dsimp only at ih1 ih2 ih3 hsum
    have hbet : bet a b ((b : Int) - 1 - (snd - fst).fdiv (c : Int)) t = if (i : Int) * a - (j : Int) * b + ((b : Int) - 1 - (snd - fst).fdiv (c : Int)) < b then 0 else 1 := by
      unfold bet bz
      have e : (b : Int) - 1 - (snd - fst).fdiv (c : Int) + (t : Int) * a = (i : Int) * a - (j : Int) * b + ((b : Int) - 1 - (snd - fst).fdiv (c : Int)) + (j : Int) * ((a + b : Nat) : Int) := by
        rw [← hsum]
        push_cast
        rw [Int.add_mul, Int.mul_add]
        omega
      rw [e, Int.add_mul_emod_self_right, Int.emod_eq_of_lt ih2 (by push_cast; exact ih3)]
    have hcond : ((ml fst ((c * a : Nat) : Int) 30).getD i 0 ≤ (ml snd ((c * b : Nat) : Int) 30).getD j 0) ↔ (i : Int) * a - (j : Int) * b + ((b : Int) - 1 - (snd - fst).fdiv (c : Int)) < b := by
      rw [ml_getD _ _ _ (by omega), ml_getD _ _ _ (by omega)]
      have hq := cond_iff (fst := fst) (snd := snd) (u := (i : Int) * a - (j : Int) * b) hc1
      have e1 : (i : Int) * ((c * a : Nat) : Int) = (i : Int) * a * c := by push_cast; rw [Int.mul_comm (c : Int), Int.mul_assoc]
      have e2 : (j : Int) * ((c * b : Nat) : Int) = (j : Int) * b * c := by push_cast; rw [Int.mul_comm (c : Int), Int.mul_assoc]
      rw [e1, e2]
      rw [Int.sub_mul] at hq
      constructor
      · intro h
        have := hq.mp (by omega)
        omega
      · intro h
        have := hq.mpr (by omega)
        omega
    have hnb : nb a b ((b : Int) - 1 - (snd - fst).fdiv (c : Int)) (t + 1) = 2 * nb a b ((b : Int) - 1 - (snd - fst).fdiv (c : Int)) t + bet a b ((b : Int) - 1 - (snd - fst).fdiv (c : Int)) t := rfl
    rw [hnb, hbet, ← ih1]
    unfold mstep
    dsimp only
    by_cases hle : (ml fst ((c * a : Nat) : Int) 30).getD i 0 ≤ (ml snd ((c * b : Nat) : Int) 30).getD j 0
    · have hx := hcond.mp hle
      rw [if_pos hle, if_pos hx]
      dsimp only
      refine ⟨by omega, ?_, ?_⟩
      · push_cast; rw [Int.add_mul]; omega
      · push_cast; rw [Int.add_mul]; omega
    · have hx : ¬ _ := fun q => hle (hcond.mpr q)
      rw [if_neg hle, if_neg hx]
      dsimp only
      refine ⟨by omega, ?_, ?_⟩
      · push_cast; rw [Int.add_mul]; omega
      · push_cast; rw [Int.add_mul]; omega
theorem fdue_win {a b : Nat} (ha1 : 1 ≤ a) (ha2 : a ≤ 12) (hb1 : 1 ≤ b) (hb2 : b ≤ 12) (hg : Nat.gcd a b = 1) (sp0 : Int) (i j : Nat) : fdue a b sp0 i j = win a b (sp0 + ((i : Int) + 6 * (j : Int)) * a) := by
  unfold fdue
  generalize sp0 + ((i : Int) + 6 * (j : Int)) * a = z
  have h0 := Int.emod_nonneg z (b := ((a + b : Nat) : Int)) (by omega)
  have h1 := Int.emod_lt_of_pos z (b := ((a + b : Nat) : Int)) (by omega)
  rw [List.getD_eq_getElem?_getD, dl_get _ _ _ _ (by omega)]
  show due _ _ _ = _
  rw [due_win' ha1 ha2 hb1 hb2 hg (by omega), Int.toNat_of_nonneg h0, win_mod]
theorem flat_congr {f g : Nat → Nat → Int} {n1 n2 : Nat} (h : ∀ i j, i < n1 → j < n2 → f i j = g i j) : ((List.range n1).flatMap fun i => (List.range n2).map (f i)) = (List.range n1).flatMap fun i => (List.range n2).map (g i) := by
  rw [List.flatMap_def, List.flatMap_def]
  congr 1
  refine List.map_congr_left fun i hi => List.map_congr_left fun j hj => h i j (List.mem_range.mp hi) (List.mem_range.mp hj)
theorem pure_law {c a b : Nat} {fst snd : Int} (hc1 : 1 ≤ c) (ha1 : 1 ≤ a) (ha2 : a ≤ 12) (hb1 : 1 ≤ b) (hb2 : b ≤ 12) (hg : Nat.gcd a b = 1) (h1 : 1 ≤ fst) (h2 : fst ≤ ((c * a : Nat) : Int)) (h3 : 1 ≤ snd) (h4 : snd ≤ ((c * b : Nat) : Int)) (hc2 : c ≤ 12) :
    tf (mrun (ml fst ((c * a : Nat) : Int) 30) (ml snd ((c * b : Nat) : Int) 30) 29).2.2 6 = (List.range 6).flatMap fun i => (List.range 4).map (fdue a b ((b : Int) - 1 - (snd - fst).fdiv (c : Int)) i) := by
  rw [(mrun_nb hc1 ha1 hb1 h1 h2 h3 h4 29 (Nat.le_refl _)).1]
  unfold tf
  refine flat_congr fun i j hi hj => ?_
  rw [tfig_nb _ _ _ _ _ hi hj, fdue_win ha1 ha2 hb1 hb2 hg]
end Mine

end
section
open PySem PySem.W PyProof.Rows PySem.Calls PySem.Spec
set_option Elab.async false
set_option maxRecDepth 100000
set_option maxHeartbeats 8000000
namespace Mine
local macro_rules | `(tactic| walk_at "enter mine") => `(tactic| (
  refine wpAny_call ?_
  refine' enterG ?k3 ?k5 ?kk ?ks ?km ?k6 ?k7 ?k8 ?k9 ?kB ?_ ?c2 ?c3 ?c4 ?c5
  (case k3 => assumption); (case k5 => assumption); (case kk => assumption); (case ks => first | exact Nat.le_refl _ | assumption); (case km => first | exact Own.nil | assumption)
  (case k6 => k_is); (case k7 => k_is); (case k8 => ktr_room); (case k9 => exact BindsTo.of_eq rfl); (case c5 => decide); (case kB => exact locs rfl); (case c2 => exact rfl); (case c3 => exact rfl); (case c4 => exact rfl)
  k_whole
  intro L' h' F' N' hlt'
  (try dsimp only)
  (try k_fold)))
theorem gcd_step {o t : Int} (ho : 0 < o) (ht : 0 < t) : Int.gcd t (Int.fmod o t) = Int.gcd o t := by
  rw [Int.fmod_eq_emod_of_nonneg _ (by omega)]
  obtain ⟨a, rfl⟩ : ∃ a : Nat, o = a := ⟨o.toNat, by omega⟩
  obtain ⟨b, rfl⟩ : ∃ b : Nat, t = b := ⟨t.toNat, by omega⟩
  rw [← Int.natCast_emod, Int.gcd_natCast_natCast, Int.gcd_natCast_natCast, Nat.gcd_comm b, ← Nat.gcd_rec, Nat.gcd_comm]
theorem gcd_turn {o t o₀ t₀ : Int} (h1 : 0 < o) (h2 : 0 ≤ t) (h3 : o < 100) (h4 : t < 100) (h5 : Int.gcd o t = Int.gcd o₀ t₀) (h6 : t > 0) :
  0 < t ∧ 0 ≤ Int.fmod o t ∧ t < 100 ∧ Int.fmod o t < 100 ∧ Int.gcd t (Int.fmod o t) = Int.gcd o₀ t₀ := by
  refine ⟨h6, ?_, h4, ?_, (gcd_step h1 h6).trans h5⟩
  · exact Int.fmod_nonneg_of_pos _ h6
  · have := Int.fmod_lt_of_pos o h6; omega
theorem gcd_meas {o t : Int} (h : 0 < t) : (Int.fmod o t).toNat < t.toNat := by
  have := Int.fmod_lt_of_pos o h; have := Int.fmod_nonneg_of_pos o h; omega
theorem common_end {Q : Value → Shared → Prop} {s : Shared} {o t x y : Int} {u : Tok} {tk : Nat} {h' : Heap} {L' : Addr} {m : Str → Option Value} (ret : ∀ t h' tk, Kp s.heap h' → Q (.int (Int.gcd x y) t) { s with heap := h', toks := tk })
    (F : Fr s.heap L' h' m) (e : Int.gcd o t = Int.gcd x y) (h0 : 0 < o) (h1 : 0 ≤ t) (h2 : ¬ 0 < t) : Q (.int o u) { s with heap := h', toks := tk } := by
  have : t = 0 := by omega
  subst this
  have : o = ((Int.gcd x y : Nat) : Int) := by rw [← e, Int.gcd_zero]; omega
  rw [this]
  exact ret u h' tk F.keep
theorem common_core {w : World} {mean : ExcName → Option Value} {mg mb : Str → Option Value} {dp un : Nat} {gd : Option (List Code)} {outer : List Env} {A₀ : Around} {base : Heap} {s : Shared} {x y : Int} {tx ty : Tok} {Q E : Value → Shared → Prop}
   (B : Below A₀ base outer s.heap) (X : (hd.heap_39 w.params).In s.heap) (T : Top hd.view_39 (looseW hd.view_39 [Str.ofString "b2a_base64", Str.ofString "b64encode"]) mean mg mb s.heap)
   (hdp : dp + 1 < recursionLimit) (hun : un + 8 < cLine) (hx : 0 < x) (hy : 0 ≤ y) (hx1 : x < 100) (hy1 : y < 100)
   (ret : ∀ t h' tk, Kp s.heap h' → Q (.int (Int.gcd x y) t) { s with heap := h', toks := tk }) :
   wpAny (model PySem.Challenge.rw_om0005_01.row.prog w) (AA dp un gd outer) (call (.ref 117) [.int x tx, .int y ty]) Q E s := by
  k_with "exec While Compare cons nil" => k_while_given ["one!", "other!"] (fun (o₀ t₀ : Int) (script : List Int) (o t : Int) => 0 < o ∧ 0 ≤ t ∧ o < 100 ∧ t < 100 ∧ Int.gcd o t = Int.gcd o₀ t₀) (fun (o₀ t₀ : Int) (script : List Int) (o t : Int) => t.toNat) "one" "other"
  k_with "state" => (first | exact ⟨by assumption, by assumption, by assumption, by assumption, rfl⟩ | exact gcd_turn (by assumption) (by assumption) (by assumption) (by assumption) (by assumption) (by assumption))
  k_with "measure" => exact gcd_meas (by assumption)
  revert X; k_fill; intro X
  have hkk : Kp s.heap s.heap := fun _ _ e => e
  refine wpAny_call ?_
  refine' enterG ?k3 ?k5 ?kk ?ks ?km ?k6 ?k7 ?k8 ?k9 ?kB ?_ ?c2 ?c3 ?c4 ?c5
  (case k3 => assumption); (case k5 => assumption); (case kk => assumption); (case ks => first | exact Nat.le_refl _ | assumption); (case km => first | exact Own.nil | assumption)
  (case k6 => k_is); (case k7 => k_is); (case k8 => ktr_room); (case k9 => exact BindsTo.of_eq rfl); (case c5 => decide); (case kB => exact locs rfl); (case c2 => exact rfl); (case c3 => exact rfl); (case c4 => exact rfl)
  k_whole
  intro L' h' F' N' hlt'
  (try dsimp only)
  (try k_fold)
  k_steps
  all_goals (show Q (.int _ _) _; exact common_end ret (by assumption) (by assumption) (by assumption) (by assumption) (by assumption))
end Mine

end
section
open PySem PySem.W PyProof.Rows PySem.Calls PySem.Spec
set_option Elab.async false
set_option maxRecDepth 100000
set_option maxHeartbeats 8000000
set_option linter.unusedVariables false
namespace Mine
noncomputable def numbersOf (xs : List Int) : List Int := List.map (fun k' => k'.fmod (10 ^ Int.toNat 6)) (List.take 8 xs) ++ List.drop (((List.map (fun k' => k'.fmod (10 ^ Int.toNat 6)) (List.take 8 xs)).length : Int)).toNat [4, 6, 2, 3, 2, 10, 1, 7]
theorem numbers_len (xs : List Int) : 8 ≤ (numbersOf xs).length := by
  unfold numbersOf
  rw [List.length_append, List.length_map, List.length_drop, List.length_take]
  simp only [List.length_cons, List.length_nil]
  omega
theorem one_bd (a : Int) : 1 ≤ 1 + a.fmod 12 ∧ 1 + a.fmod 12 ≤ 12 := by
  rw [Int.fmod_eq_emod_of_nonneg _ (by decide)]; omega
theorem first_bd (a one : Int) (h : 1 ≤ one) : 1 ≤ 1 + a.fmod one ∧ 1 + a.fmod one ≤ one := by
  rw [Int.fmod_eq_emod_of_nonneg _ (by omega)]
  have := Int.emod_nonneg a (by omega : one ≠ 0)
  have := Int.emod_lt_of_pos a (by omega : 0 < one)
  omega
theorem fr_shr5 {g h : Heap} {L l : Addr} {m : Str → Option Value} {a b c d : Int} {ta tb tc td : Tok} (F : Fr g L h m) (h1 : m (Str.ofString "numbers") = some (.ref l)) (h2 : m (Str.ofString "one") = some (.int a ta)) (h3 : m (Str.ofString "other") = some (.int b tb)) (h4 : m (Str.ofString "first") = some (.int c tc)) (h5 : m (Str.ofString "second") = some (.int d td)) :
    ∃ u ta tb tc td, Fr g L h (mp [(Str.ofString "numbers", .ref l), (Str.ofString "one", .int a ta), (Str.ofString "other", .int b tb), (Str.ofString "first", .int c tc), (Str.ofString "second", .int d td)] u) :=
  ⟨m, ta, tb, tc, td, by rw [← Has.mp (Has.cons h1 (Has.cons h2 (Has.cons h3 (Has.cons h4 (Has.cons h5 Has.nil)))))]; exact F⟩
theorem gcd_split : ∀ x ∈ List.range 13, ∀ y ∈ List.range 13, 1 ≤ x → 1 ≤ y → 1 ≤ Nat.gcd x y ∧ Nat.gcd x y ≤ 12 ∧ 1 ≤ x / Nat.gcd x y ∧ 1 ≤ y / Nat.gcd x y ∧ x = Nat.gcd x y * (x / Nat.gcd x y) ∧ y = Nat.gcd x y * (y / Nat.gcd x y) ∧ (x + y) / Nat.gcd x y = x / Nat.gcd x y + y / Nat.gcd x y ∧ Nat.gcd (x / Nat.gcd x y) (y / Nat.gcd x y) = 1 := by decide +kernel
theorem gcd_facts {x y : Int} (h1 : 1 ≤ x) (h2 : x ≤ 12) (h3 : 1 ≤ y) (h4 : y ≤ 12) : ∃ (c a b : Nat), ((Int.gcd x y : Nat) : Int) = (c : Int) ∧ 1 ≤ c ∧ c ≤ 12 ∧ 1 ≤ a ∧ a ≤ 12 ∧ 1 ≤ b ∧ b ≤ 12 ∧ x = ((c * a : Nat) : Int) ∧ y = ((c * b : Nat) : Int) ∧ x.fdiv c = a ∧ y.fdiv c = b ∧ (x + y).fdiv c = ((a + b : Nat) : Int) ∧ Nat.gcd a b = 1 := by
  obtain ⟨n, rfl⟩ : ∃ n : Nat, x = n := ⟨x.toNat, by omega⟩
  obtain ⟨k, rfl⟩ : ∃ k : Nat, y = k := ⟨y.toNat, by omega⟩
  obtain ⟨g1, g2, g3, g4, g5, g6, g7, g8⟩ := gcd_split n (List.mem_range.mpr (by omega)) k (List.mem_range.mpr (by omega)) (by omega) (by omega)
  have e : Int.gcd (n : Int) (k : Int) = Nat.gcd n k := rfl
  refine ⟨Nat.gcd n k, n / Nat.gcd n k, k / Nat.gcd n k, by rw [e], g1, g2, g3, ?_, g4, ?_, by rw [← g5], by rw [← g6], ?_, ?_, ?_, g8⟩
  · exact Nat.le_trans (Nat.div_le_self _ _) (by omega)
  · exact Nat.le_trans (Nat.div_le_self _ _) (by omega)
  · rw [Int.fdiv_eq_ediv_of_nonneg _ (by omega)]; rfl
  · rw [Int.fdiv_eq_ediv_of_nonneg _ (by omega)]; rfl
  · rw [Int.fdiv_eq_ediv_of_nonneg _ (by omega), ← g7]; rfl
def IA (vs : List Value) (ns : List Int) : Prop := IntsAre vs ns
def LJ (xs : List Int) (D c : Addr) (i : Nat) (m : Str → Option Value) (news : List (Addr × Obj)) (gn : Array GenState) : Prop :=
  ∃ ws n oS oD oT oO vS vD vT vO, AllBare gn ∧ Has m [(Str.ofString "numbers", .ref D)] ∧ IntsAre ws (numbersOf xs) ∧ oS.data = .cell vS ∧ oD.data = .cell vD ∧ oT.data = .cell vT ∧ oO.data = .cell vO ∧
    news = [(D, W.listOf ws.toArray n), (c + 1 + 1 + 1, oS), (c + 1 + 1, oD), (c + 1, oT), (c, oO)]
section
local macro_rules | `(tactic| walk_at "eval ListComp") => `(tactic| k_dflt (refine comp_two 6 4 (by decide) (by decide) (F₀ := by k_asm) (by with_unfolding_all rfl) (by decide) (by rfl) (by decide) (by rfl) (by rfl) (by decide) ?_))
local macro_rules | `(tactic| walk_at "exec For Name Tuple cons nil") => `(tactic| k_dflt (refine wpAny_For ?_))
theorem law_core {w : World} {mean : ExcName → Option Value} {mg mb : Str → Option Value} {dp un : Nat} {gd : Option (List Code)} {outer : List Env} {A₀ : Around} {base : Heap} {s : Shared} {ls : Addr} {vs : List Value} {xs : List Int} {R : Result → Shared → Prop}
   (Bw : Below A₀ base outer s.heap) (X : (hd.heap_39 w.params).In s.heap) (T : Top hd.view_39 (looseW hd.view_39 [Str.ofString "b2a_base64", Str.ofString "b64encode"]) mean mg mb s.heap)
   (hl : s.heap.IsList ls vs.toArray) (hi : IntsAre vs xs) (hlen : xs.length ≤ 63)
   (hdp : dp + 8 < recursionLimit) (hun : un + 80 < cLine) (hb : AllBare s.gens)
   (ret : ∀ h' tk gens, Kp s.heap h' → AllBare gens → R (.ok (.ret (.bool true))) { s with heap := h', toks := tk, gens := gens }) :
   codeAny (model PySem.Challenge.rw_om0005_01.row.prog w) (AA dp un gd outer) (.call (.ref 122) ⟨[.ref ls], []⟩) R s := by
  revert X; k_fill; intro X
  refine' enterC (binds := [(Str.ofString "script", .ref ls)]) X T ?k6 ?k7 ?k8 ?k9 ?kB ?kD ?_ ?c2 ?c3 ?c4
  (case k6 => k_is); (case k7 => k_is); (case k8 => ktr_room); (case k9 => exact BindsTo.of_eq rfl); (case kB => exact rfl); (case kD => decide +kernel); (case c2 => exact rfl); (case c3 => exact rfl); (case c4 => exact rfl)
  k_whole
  intro L' h' tk' cells' F' N' Y'
  k_cells Y'
  (try simp only [List.cons_append, List.nil_append] at N')
  (try dsimp only)
  (try k_fold)
  rename_i oS oD oT oO d1 d2 d3 d4
  k_steps
  rename_i D ws hA2 hws0 lD0 hA1 T' hA0 FA0 NA0 lT
  have hws : IntsAre ws (numbersOf xs) := hws0
  clear hws0
  have lD : L' + 4 < D := by
    have q : @LT.lt Nat _ (L' + 4) D := by omega
    exact q
  obtain ⟨tk₀, htk⟩ : ∃ t, tk = t := ⟨_, rfl⟩
  have NA : News s.heap L' hA0 [(T', { cls := Value.type "tuple", data := Data.seq #[Value.int 0 tk₀, Value.int 4 (tk₀ + 1)] }), (D, W.listOf ws.toArray 0), (L' + 1 + 1 + 1 + 1, oS), (L' + 1 + 1 + 1, oD), (L' + 1 + 1, oT), (L' + 1, oO)] := by
    subst htk
    exact List.forall_mem_cons.mpr ⟨NA0 _ (.head _), List.forall_mem_cons.mpr ⟨NA0 _ (.tail _ (.head _)), fun p hp => NA0 p (.tail _ (.tail _ (.tail _ (.tail _ (.tail _ (.tail _ hp))))))⟩⟩
  obtain ⟨uA, FA⟩ := fr_shr FA0 (Has.cons (x := Str.ofString "numbers") rfl Has.nil)
  clear FA0 NA0
  dsimp only
  rw [htk]
  clear htk
  refine iter_tup_K FA NA rfl rfl ?_
  intro I hI oI hoI FI NI lI
  have l0 := lI _ (.head _)
  have l1 := lI _ (.tail _ (.head _))
  have l2 := lI _ (.tail _ (.tail _ (.head _)))
  have l3 := lI _ (.tail _ (.tail _ (.tail _ (.head _))))
  have l4 := lI _ (.tail _ (.tail _ (.tail _ (.tail _ (.head _)))))
  have l5 := lI _ (.tail _ (.tail _ (.tail _ (.tail _ (.tail _ (.head _))))))
  clear lI FA NA
  refine for_tup (L := L') (g := s.heap) rfl rfl rfl rfl FI NI hoI rfl rfl (Nat.ne_of_lt l0) (List.forall_mem_cons.mpr ⟨Nat.ne_of_lt l1, List.forall_mem_cons.mpr ⟨Nat.ne_of_lt l2, List.forall_mem_cons.mpr ⟨Nat.ne_of_lt l3, List.forall_mem_cons.mpr ⟨Nat.ne_of_lt l4, List.forall_mem_cons.mpr ⟨Nat.ne_of_lt l5, List.forall_mem_nil _⟩⟩⟩⟩⟩) (LJ xs D (L' + 1)) ?h0 ?turn ?done
  case h0 => exact ⟨ws, _, oS, oD, oT, oO, _, _, _, _, hb, Has.cons rfl Has.nil, hws, d1, d2, d3, d4, rfl⟩
  case done =>
    intro m₁ news₁ h tkz gn hJ F1 N1
    obtain ⟨ws1, n1, oS1, oD1, oT1, oO1, vS, vD, vT, vO, hbr, hm, hws1, e1, e2, e3, e4, rfl⟩ := hJ
    rw [hm.mp] at F1
    dsimp only
    k_steps
    exact ret _ _ _ (fun b o e => F1.keep b o e) hbr
  case turn =>
    clear FI NI hoI d1 d2 d3 d4
    intro i v m₁ news₁ h tkz gn oI₁ hv hJ hap F1 N1
    obtain ⟨p, tp, hp4, rfl⟩ : ∃ (p : Nat) (tp : Tok), p ≤ 4 ∧ v = Value.int (p : Int) tp := by
      match i, hv with
      | 0, hv => exact ⟨0, _, by decide, (Option.some.inj hv).symm⟩
      | 1, hv => exact ⟨4, _, by decide, (Option.some.inj hv).symm⟩
    clear hv
    obtain ⟨ws1, n1, oS1, oD1, oT1, oO1, vS, vD, vT, vO, hbr, hm, hws1, e1, e2, e3, e4, rfl⟩ := hJ
    rw [hm.mp] at F1
    clear hm hap
    have hnl := numbers_len xs
    obtain ⟨nu, hnu⟩ : ∃ nu, numbersOf xs = nu := ⟨_, rfl⟩
    rw [hnu] at hnl hws1
    have q0 := ltN l0
    have q1 := ltN l1
    have q2 := ltN l2
    have q3 := ltN l3
    have q4 := ltN l4
    have q5 := ltN l5
    have qD := ltN lD
    clear l0 l1 l2 l3 l4 l5
    dsimp only at q0 q1 q2 q3 q4 q5 ⊢
    obtain ⟨hone1, hone2⟩ := one_bd (nu.getD ((p : Int)).toNat 0)
    obtain ⟨hoth1, hoth2⟩ := one_bd (nu.getD ((p : Int) + 1).toNat 0)
    k_steps
    (rename Fr _ _ _ _ => FA); (rename News _ _ _ _ => NA)
    obtain ⟨hfi1, hfi2⟩ := first_bd (nu.getD ((p : Int) + 2).toNat 0) _ hone1
    obtain ⟨hse1, hse2⟩ := first_bd (nu.getD ((p : Int) + 3).toNat 0) _ hoth1
    have N7 : News s.heap L' _ [(I, oI₁), (T', { cls := Value.type "tuple", data := Data.seq #[Value.int 0 tk₀, Value.int 4 (tk₀ + 1)] }), (D, W.listOf ws1.toArray n1), (L' + 1 + 1 + 1 + 1, oS1), (L' + 1 + 1 + 1, oD1), (L' + 1 + 1, oT1), (L' + 1, oO1)] := fun p hp => NA p (.tail _ (.tail _ hp))
    clear NA
    (try dsimp only at FA); (try dsimp only)
    obtain ⟨u, ta, tb, tc, td, F7⟩ := fr_shr5 FA rfl rfl rfl rfl rfl
    clear FA
    generalize 1 + (nu.getD ((p : Int)).toNat 0).fmod 12 = one at F7 hone1 hone2 hfi1 hfi2 ⊢
    generalize 1 + (nu.getD ((p : Int) + 1).toNat 0).fmod 12 = oth at F7 hoth1 hoth2 hse1 hse2 ⊢
    generalize 1 + (nu.getD ((p : Int) + 2).toNat 0).fmod one = fst at F7 hfi1 hfi2 ⊢
    generalize 1 + (nu.getD ((p : Int) + 3).toNat 0).fmod oth = snd at F7 hse1 hse2 ⊢
    refine' use_pure Bw F7 X N7 T rfl rfl rfl ?_
    intro B2 X2 T2 back2
    refine marks_core B2 X2 T2 hfi1 (by omega) hone1 hone2 (by show dp + 1 + 4 < recursionLimit; omega) (by show un + 3 + 40 < cLine; omega) ?_
    intro r0 n0 va h8 tk8 gn8 hk8 ho8 hva hbr8
    have hbr' := hbr8 hbr
    obtain ⟨F8, N8⟩ := back2 h8 _ hk8 ho8
    have hr0 : ∀ p ∈ [(I, oI₁), (T', { cls := Value.type "tuple", data := Data.seq #[Value.int 0 tk₀, Value.int 4 (tk₀ + 1)] }), (D, W.listOf ws1.toArray n1), (L' + 1 + 1 + 1 + 1, oS1), (L' + 1 + 1 + 1, oD1), (L' + 1 + 1, oT1), (L' + 1, oO1)], p.1 ≠ r0 := fun p hp e => by
      have := (ho8 _ (.head _)).2
      have q := (N7 p hp).1
      rw [e, this] at q
      cases q
    clear back2 B2 X2 T2 hk8 ho8 hbr8 hbr F7 N7
    simp only [List.cons_append, List.nil_append] at N8
    (try dsimp only)
    k_steps
    refine' use_pure Bw F8 X N8 T rfl rfl rfl ?_
    intro B2 X2 T2 back2
    refine marks_core B2 X2 T2 hse1 (by omega) hoth1 hoth2 (by show dp + 1 + 4 < recursionLimit; omega) (by show un + 3 + 40 < cLine; omega) ?_
    intro r1 n1' vb h9 tk9 gn9 hk9 ho9 hvb hbr9
    have hbr := hbr9 hbr'
    obtain ⟨F9, N9⟩ := back2 h9 _ hk9 ho9
    have h10 : r0 ≠ r1 := fun e => by
      have := (ho9 _ (.head _)).2
      have q := (N8 _ (.head _)).1
      rw [e, this] at q
      cases q
    clear back2 B2 X2 T2 hk9 ho9 hbr9 hbr' F8 N8
    simp only [List.cons_append, List.nil_append] at N9
    (try dsimp only)
    k_steps
    (rename Fr _ _ _ _ => FA); (rename News _ _ _ _ => NA)
    refine' use_pure Bw FA X NA T rfl rfl rfl ?_
    intro B2 X2 T2 back2
    refine merged_core B2 X2 T2 ⟨_, (NA _ (.head _)).1, rfl, _, rfl⟩ ⟨_, (NA _ (.tail _ (.tail _ (.head _)))).1, rfl, _, rfl⟩ ⟨_, (NA _ (.tail _ (.head _))).1, rfl, _, rfl⟩ hva hvb (ml_length _ _ _) (ml_length _ _ _) (by show dp + 1 + 4 < recursionLimit; omega) (by show un + 3 + 40 < cLine; omega) ?_
    intro tm h10' tk10 hk10
    obtain ⟨F10, N10⟩ := back2 h10' [] hk10 Own.nil
    clear back2 B2 X2 T2 hk10 FA NA
    have N11 : News s.heap L' h10' [(I, oI₁), (T', { cls := Value.type "tuple", data := Data.seq #[Value.int 0 tk₀, Value.int 4 (tk₀ + 1)] }), (D, W.listOf ws1.toArray n1), (L' + 1 + 1 + 1 + 1, oS1), (L' + 1 + 1 + 1, oD1), (L' + 1 + 1, oT1), (L' + 1, oO1)] := fun p hp => N10 p (.tail _ (.tail _ (.tail _ hp)))
    clear N10
    obtain ⟨hbits0, hbits1⟩ := mrun_bits (ml fst one 30) (ml snd oth 30) 29
    obtain ⟨bits, hbits⟩ : ∃ bits, (mrun (ml fst one 30) (ml snd oth 30) 29).2.2 = bits := ⟨_, rfl⟩
    rw [hbits] at hbits0 hbits1 ⊢
    (try dsimp only)
    k_steps
    refine' use_pure Bw F10 X N11 T rfl rfl rfl ?_
    intro B2 X2 T2 back2
    refine told_core B2 X2 T2 hbits0 hbits1 (by show dp + 1 + 6 < recursionLimit; omega) (by show un + 3 + 60 < cLine; omega) ?_
    intro Dt vt nt h11 tk11 hk11 hvt ho11
    obtain ⟨F12, N12⟩ := back2 h11 _ hk11 ho11
    have hDt : ∀ p ∈ [(I, oI₁), (T', { cls := Value.type "tuple", data := Data.seq #[Value.int 0 tk₀, Value.int 4 (tk₀ + 1)] }), (D, W.listOf ws1.toArray n1), (L' + 1 + 1 + 1 + 1, oS1), (L' + 1 + 1 + 1, oD1), (L' + 1 + 1, oT1), (L' + 1, oO1)], p.1 ≠ Dt := fun p hp e => by
      have := (ho11 _ (.head _)).2
      have q := (N11 p hp).1
      rw [e, this] at q
      cases q
    clear back2 B2 X2 T2 hk11 ho11 F10 N11 hr0 h10 hva hvb
    simp only [List.cons_append, List.nil_append] at N12
    (try dsimp only)
    k_steps
    (rename Fr _ _ _ _ => FA); (rename News _ _ _ _ => NA)
    refine' use_pure Bw FA X NA T rfl rfl rfl ?_
    intro B2 X2 T2 back2
    refine common_core B2 X2 T2 (by show dp + 1 + 1 < recursionLimit; omega) (by show un + 3 + 8 < cLine; omega) (by omega) (by omega) (by omega) (by omega) ?_
    intro tg h13 tk13 hk13
    obtain ⟨F13, N13⟩ := back2 h13 [] hk13 Own.nil
    clear back2 B2 X2 T2 hk13 FA NA
    rw [List.nil_append] at N13
    obtain ⟨c, a, b, hc, hc1, hc2, ha1, ha2, hb1, hb2, honeq, hotheq, hda, hdb, hdt, hgab⟩ := gcd_facts hone1 hone2 hoth1 hoth2
    rw [hc]
    have hj1 := neN (hDt _ (.head _))
    have hj2 := neN (hDt _ (.tail _ (.head _)))
    have hj3 := neN (hDt _ (.tail _ (.tail _ (.head _))))
    have hj4 := neN (hDt _ (.tail _ (.tail _ (.tail _ (.head _)))))
    have hj5 := neN (hDt _ (.tail _ (.tail _ (.tail _ (.tail _ (.head _))))))
    have hj6 := neN (hDt _ (.tail _ (.tail _ (.tail _ (.tail _ (.tail _ (.head _)))))))
    have hj7 := neN (hDt _ (.tail _ (.tail _ (.tail _ (.tail _ (.tail _ (.tail _ (.head _))))))))
    clear hDt
    dsimp only at hj1 hj2 hj3 hj4 hj5 hj6 hj7
    (try dsimp only)
    k_steps
    rename_i tkc D6 h63 l6 h62 h61 oO2 dO2 h60 oT2 FA NA dT2
    rw [hda] at dO2 ⊢
    rw [hdt] at dT2 ⊢
    have N14 : News s.heap L' h60 [(Dt, W.listOf vt.toArray nt), (I, oI₁), (T', { cls := Value.type "tuple", data := Data.seq #[Value.int 0 tk₀, Value.int 4 (tk₀ + 1)] }), (D, W.listOf ws1.toArray n1), (L' + 1 + 1 + 1 + 1, oS1), (L' + 1 + 1 + 1, oD1), (L' + 1 + 1, oT2), (L' + 1, oO2)] := fun p hp => NA p (.tail _ hp)
    clear NA
    refine' use_pure Bw FA X N14 T rfl rfl rfl ?_
    intro B2 X2 T2 back2
    refine due_core B2 X2 T2 (by omega) (by omega) (by omega) (by omega) (by show dp + 1 + 3 < recursionLimit; omega) (by show un + 3 + 30 < cLine; omega) ?_
    intro Dd vd nd h15 tk15 hk15 hvd ho15
    obtain ⟨F15, N15⟩ := back2 h15 _ hk15 ho15
    have hDd : ∀ p ∈ [(Dt, W.listOf vt.toArray nt), (I, oI₁), (T', { cls := Value.type "tuple", data := Data.seq #[Value.int 0 tk₀, Value.int 4 (tk₀ + 1)] }), (D, W.listOf ws1.toArray n1), (L' + 1 + 1 + 1 + 1, oS1), (L' + 1 + 1 + 1, oD1), (L' + 1 + 1, oT2), (L' + 1, oO2)], p.1 ≠ Dd := fun p hp e => by
      have := (ho15 _ (.head _)).2
      have q := (N14 p hp).1
      rw [e, this] at q
      cases q
    clear back2 B2 X2 T2 hk15 ho15 FA N14
    simp only [List.cons_append, List.nil_append] at N15
    have hk1 := neN (hDd _ (.head _))
    have hk2 := neN (hDd _ (.tail _ (.head _)))
    have hk3 := neN (hDd _ (.tail _ (.tail _ (.head _))))
    have hk4 := neN (hDd _ (.tail _ (.tail _ (.tail _ (.head _)))))
    have hk5 := neN (hDd _ (.tail _ (.tail _ (.tail _ (.tail _ (.head _))))))
    have hk6 := neN (hDd _ (.tail _ (.tail _ (.tail _ (.tail _ (.tail _ (.head _)))))))
    have hk7 := neN (hDd _ (.tail _ (.tail _ (.tail _ (.tail _ (.tail _ (.tail _ (.head _))))))))
    have hk8 := neN (hDd _ (.tail _ (.tail _ (.tail _ (.tail _ (.tail _ (.tail _ (.tail _ (.head _)))))))))
    clear hDd
    dsimp only at hk1 hk2 hk3 hk4 hk5 hk6 hk7 hk8
    (try dsimp only)
    k_steps
    rename_i h72 oD3 dD3 h71 oS3 F70 N70 dS3 h70 tk70 z1 z2 z3 hR FR NR hKR
    clear hKR F70 N70
    (try dsimp only at dS3)
    obtain ⟨sp0, hsp⟩ : ∃ z, oth.fdiv (c : Int) - 1 - (snd - fst).fdiv (c : Int) = z := ⟨_, rfl⟩
    rw [hsp] at dS3
    have hvd' : IA vd (dl (a : Int) ((a + b : Nat) : Int) (((a + b : Nat) : Int) - 1).toNat) := hvd
    clear hvd
    have htot : (0 : Int) < ((a + b : Nat) : Int) := by omega
    refine ⟨_, z1, z2, z3, _, fdue a b sp0, rfl, rfl, FR, NR, hR, ?el, ?it, ?fin⟩
    case el =>
      clear FR NR hR
      intro h5 i' j' ti tj C oC m₂ h tkq E' Qe hi' hj' hC hx1 hx2 F N off hq
      have o1 := neN (off _ (.head _))
      have o2 := neN (off _ (.tail _ (.head _)))
      have o3 := neN (off _ (.tail _ (.tail _ (.head _))))
      have o4 := neN (off _ (.tail _ (.tail _ (.tail _ (.head _)))))
      have o5 := neN (off _ (.tail _ (.tail _ (.tail _ (.tail _ (.head _))))))
      have o6 := neN (off _ (.tail _ (.tail _ (.tail _ (.tail _ (.tail _ (.head _)))))))
      have o7 := neN (off _ (.tail _ (.tail _ (.tail _ (.tail _ (.tail _ (.tail _ (.head _))))))))
      have o8 := neN (off _ (.tail _ (.tail _ (.tail _ (.tail _ (.tail _ (.tail _ (.tail _ (.head _)))))))))
      have o9 := neN (off _ (.tail _ (.tail _ (.tail _ (.tail _ (.tail _ (.tail _ (.tail _ (.tail _ (.head _))))))))))
      clear off
      have hq' : ∀ t' tk', Qe (.int ((dl (a : Int) ((a + b : Nat) : Int) (((a + b : Nat) : Int) - 1).toNat).getD ((sp0 + ((i' : Int) + 6 * (j' : Int)) * (a : Int)) % ((a + b : Nat) : Int)).toNat 0) t') { s with gens := gn9, heap := h, toks := tk' } := hq
      have hdlen := dl_len (a : Int) ((a + b : Nat) : Int) (((a + b : Nat) : Int) - 1).toNat
      clear hq
      obtain ⟨dv, hdv⟩ : ∃ dv, dl (a : Int) ((a + b : Nat) : Int) (((a + b : Nat) : Int) - 1).toNat = dv := ⟨_, rfl⟩
      rw [hdv] at hvd' hq' hdlen
      clear hdv
      obtain ⟨tot, htt⟩ : ∃ tot : Int, ((a + b : Nat) : Int) = tot := ⟨_, rfl⟩
      rw [htt] at htot dT2 hq' hdlen
      have htb : tot ≤ 24 := by omega
      clear htt hdt hgab honeq hotheq hda hdb hvt hbits hbits0 hbits1 hws1 hnl hnu hsp
      dsimp only at o1 o2 o3 o4 o5 o6 o7 o8 o9 ⊢
      k_steps
      rw [Int.fmod_eq_emod_of_nonneg _ (Int.le_of_lt htot)]
      exact hq' _ _
    case it =>
      clear FR NR hR
      intro h5 C oC m₂ h tkq E' Qi hC F N off hq
      dsimp only at hq ⊢
      clear hvd' hdt hgab honeq hotheq hda hdb hvt hbits hbits0 hbits1 hws1 hnl hnu hsp dT2 dS3 dO2 dD3
      k_steps
      rename_i tk80 y1 y2 y3 hR8 FR8 NR8 hK8
      exact hq _ _ _ _ _ _ (fun b o e => hK8 b o e) hR8
    case fin =>
      intro D2 ys h tkq hys F N off
      have o1 := neN (off _ (.head _))
      have o2 := neN (off _ (.tail _ (.head _)))
      have o3 := neN (off _ (.tail _ (.tail _ (.head _))))
      have o4 := neN (off _ (.tail _ (.tail _ (.tail _ (.head _)))))
      have o5 := neN (off _ (.tail _ (.tail _ (.tail _ (.tail _ (.head _))))))
      have o6 := neN (off _ (.tail _ (.tail _ (.tail _ (.tail _ (.tail _ (.head _)))))))
      have o7 := neN (off _ (.tail _ (.tail _ (.tail _ (.tail _ (.tail _ (.tail _ (.head _))))))))
      have o8 := neN (off _ (.tail _ (.tail _ (.tail _ (.tail _ (.tail _ (.tail _ (.tail _ (.head _)))))))))
      have o9 := neN (off _ (.tail _ (.tail _ (.tail _ (.tail _ (.tail _ (.tail _ (.tail _ (.tail _ (.head _))))))))))
      clear FR NR hR
      have hvt' : IA vt (tf bits 6) := hvt
      have hys' : IA ys ((List.range 6).flatMap fun i => (List.range 4).map (fdue a b sp0 i)) := hys
      have hws' : IA ws1 nu := hws1
      clear off hvt hys hvd' hws1
      dsimp only at o1 o2 o3 o4 o5 o6 o7 o8 o9 ⊢
      k_steps
      · dsimp only
        refine TNext.intro [(D, W.listOf ws1.toArray n1), (L' + 1 + 1 + 1 + 1, oS3), (L' + 1 + 1 + 1, oD3), (L' + 1 + 1, oT2), (L' + 1, oO2)] F N (.tail _ (.tail _ (.tail _ (.head _)))) (.tail _ (.tail _ (.tail _ (.tail _ (.head _))))) (fun p hp => .tail _ (.tail _ (.tail _ (.tail _ (.tail _ hp)))))
          (List.forall_mem_cons.mpr ⟨Nat.ne_of_lt q1, List.forall_mem_cons.mpr ⟨Nat.ne_of_lt q2, List.forall_mem_cons.mpr ⟨Nat.ne_of_lt q3, List.forall_mem_cons.mpr ⟨Nat.ne_of_lt q4, List.forall_mem_cons.mpr ⟨Nat.ne_of_lt q5, List.forall_mem_nil _⟩⟩⟩⟩⟩) ?_
        exact ⟨ws1, n1, oS3, oD3, oT2, oO2, _, _, _, _, hbr, Has.cons rfl Has.nil, hnu ▸ hws', dS3, dD3, dT2, dO2, rfl⟩
      · rename_i hne
        exfalso
        apply hne
        rw [← hbits, ← hsp, hdb, honeq, hotheq]
        exact pure_law hc1 ha1 ha2 hb1 hb2 hgab hfi1 (honeq ▸ hfi2) hse1 (hotheq ▸ hse2) hc2
end
end Mine

end
open PySem PySem.W PyProof.Rows PySem.Calls PySem.Spec
set_option Elab.async false
set_option maxRecDepth 100000
set_option maxHeartbeats 8000000

open Mine
theorem PySem.Challenge.cw_om0005_01_holds : PySem.Challenge.rw_om0005_01.Holds := by
  refine Mine.hd ?_
  k_fill
  intro w s₀ s₁ mg mb G Y fa o pm cd doc dV kV ho hd hcd hD hmg hg args vals as hpre hlay hrd hwl hlo
  have KX := kIn_of Y
  refine Ground.open G ?_
  intro T B D TE TW
  try (refine guard_noD D (by decide +kernel) ?_; clear D)
  have hfa : fa = 122 := by
    have e := mg_of (n := Str.ofString "law") (v := .ref 122) KX T.g (by k_is)
    have e2 : mg (Str.ofString "law") = some (Value.ref fa) := hmg
    rw [e] at e2
    cases e2
    rfl
  subst hfa
  clear hmg hd hcd hD ho TE TW
  wrow_args hpre hlay hrd hwl hlo
  all_goals (
    first | refine callC_kw (enter_call ?_) | refine enter_call ?_ | refine callC_kw (enter_callW ?_) | refine enter_callW ?_ | w_how
    w_top on)
  rename_i xs _ _ _ _ _ _ _ ls vs _ hL _ _ _ hI _ hcond _
  refine law_core (dp := 1 + claimMargin) (un := 4) (gd := some []) (outer := []) (A₀ := callerA) (below_caller _) KX T hL hI ?_ (by decide) (by decide) (AllBare.of_eq hg) ?_
  · omega
  intro h' tk gens hk hgens
  refine ⟨.inl ⟨.bool true, .bool true, [], rfl, fun _ => rfl, .bool _, ?_, fun _ => ⟨List.nodup_nil, fun _ h => nomatch h⟩⟩, .of_keep hk, rfl, hgens⟩
  first | rfl | wrow_post

