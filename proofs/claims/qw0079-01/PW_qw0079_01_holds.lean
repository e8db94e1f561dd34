import PyProof.Rows.All
import Wide.All
import OpenK.AllK
import Wide.FinOn
import PySem.Challenge.RW_qw0079_01
set_option Elab.async false
set_option maxRecDepth 100000
set_option maxHeartbeats 8000000
namespace Mine
open PySem PySem.W PyProof.Rows
open_top hd79 for PySem.Challenge.rw_qw0079_01
end Mine
-- part B79
section
open PySem PySem.W PySem.Calls PyProof.Rows
namespace Mine

noncomputable abbrev prg : Program := PySem.Challenge.rw_qw0079_01.row.prog
noncomputable abbrev KK (w : World) : Frag := hd79.heap_39 w.params
abbrev TT (mean : ExcName → Option Value) (mg mb : Str → Option Value) (h : Heap) : Prop := Top hd79.view_39 (looseW hd79.view_39 []) mean mg mb h

/-- what a call of the def at `f` upon `vs` does: it ends, hands back a value of which `P` tells, and every elder object is as it was -/
def Sp (n : Nat) (w : World) (f : Addr) (vs : List Value) (P : Heap → Heap → Value → Prop) : Prop :=
  ∀ (mean : ExcName → Option Value) (mg mb : Str → Option Value) (dp un : Nat) (gd : Option (List Code)) (cn : Str) (cs : Scope) (a : Addr) (ccd : Value) (cl : List (Str × Addr)) (outer : List Env) (A₀ : Around) (base h₀ : Heap) (L : Addr) (m : Str → Option Value) (s : Shared) (Q E : Value → Shared → Prop),
    Below A₀ base outer h₀ → Fr h₀ L s.heap m → (KK w).In h₀ → TT mean mg mb h₀ → cs.kind = .function →
    dp + n < recursionLimit → un + (10 * n + 40) < cLine →
    (∀ (v : Value) (h' : Heap) (tk' : Nat), s.heap.StaysIn h' → P s.heap h' v → Q v { s with heap := h', toks := tk' }) →
    wpAny (model prg w) (ktrTop dp un gd cn cs L a ccd cl outer) (call (.ref f) vs) Q E s

theorem fr_stay {h₀ h h' : Heap} {L : Addr} {m : Str → Option Value} (F : Fr h₀ L h m) (S : h.StaysIn h') : Fr h₀ L h' m :=
  ⟨F.ns.keeps S, fun b o e => S b o (F.keep b o e), F.above⟩
theorem news_stay {h₀ h h' : Heap} {L : Addr} {news : List (Addr × Obj)} (N : News h₀ L h news) (S : h.StaysIn h') : News h₀ L h' news :=
  fun p hp => ⟨S _ _ (N p hp).1, (N p hp).2⟩

theorem enter {w : World} {A₀ A : Around} {s : Shared} {base h₀ : Heap} {outer : List Env} {L : Addr} {m : Str → Option Value} {env : Env} {K : Frag} {p : Program} {loose : List Str} {mean : ExcName → Option Value} {mg mb : Str → Option Value} {E : Value → Shared → Prop}
    {Q : Value → Shared → Prop} {name qual : Str} {params : Arguments} {body : List Stmt} {scope : Scope} {dV kV doc pm cdv ct oc : Value} {an od : Option Addr} {osl : Array (Option Value)} {f : Addr} {args : List Value} {binds : List (Str × Value)} {prog : Program}
    (B : Below A₀ base outer h₀) (F : Fr h₀ L s.heap m) (X₀ : K.In h₀) (T : Top p loose mean mg mb h₀) (hA : A.frames = some (env :: outer)) (hf : env.frame = some L) (hke : env.scope.kind = .function)
    (ho : K.lookup f = some ⟨oc, od, .func (fnOf name qual params body scope dV kV doc pm an cdv ct), osl⟩) (hcd : codeIn K cdv qual = true) (hroom : A.depth < recursionLimit)
    (hbind : BindsTo s (fnOf name qual params body scope dV kV doc pm an cdv ct) ⟨args, []⟩ binds) (hloc : ∀ y ∈ binds, scope.names.lookup y.1 = some .local)
    (h : ∀ L' h₁ , Fr s.heap L' h₁ (fun y => binds.reverse.lookup y) → News s.heap L' h₁ [] → Below A base (env :: outer) s.heap → K.In s.heap → Top p loose mean mg mb s.heap →
      wpAny (model prog w) (A.deeper (envOf qual scope L' f cdv)) (execs body (envOf qual scope L' f cdv))
        (fun fl s' => Q (match fl with | .ret v => v | _ => .none) s')
        (fun _ _ => False)
        { s with heap := h₁, toks := s.toks + binds.length })
    (hco : scope.isCoroutine = false) (hgen : scope.isGenerator = false) (hk : scope.kind = .function)
    (hcell : ∀ x ∈ scope.names, x.2 ≠ .cell) : wpAny (model prog w) A (call (.ref f) args) Q E s := by
  have X := X₀.keeps F.keep
  have T' := T.keeps F.keep
  obtain ⟨FG, BG, st, lv⟩ := groundX (R := fun r s' => match r with | .ok (.ret v) => Q v s' | .ok _ => False | .error e => E e s') B F News.nil hA hf hke
  refine wpAny_call ?_
  refine codeAny_call_def (fd := fnOf name qual params body scope dV kV doc pm an cdv ct) (body := body) (binds := binds) hroom (X _ _ ho) rfl T'.nolimit (codeRec_of X hcd) rfl hbind hcell hloc (fun h₁ hns hk₁ => ?_) hco hgen hk
  exact wpAny_mono (h s.heap.objs.size h₁ ⟨hns, hk₁, Nat.le_refl _⟩ News.nil BG X T') (fun fl s' hl => hl) fun _ _ y => y.elim

theorem use_v {n : Nat} {w : World} {f : Addr} {vs : List Value} {R : Value → Prop} {mean : ExcName → Option Value} {mg mb : Str → Option Value} {dp un : Nat} {gd : Option (List Code)} {cn : Str} {cs : Scope} {a : Addr} {ccd : Value} {cl : List (Str × Addr)} {outer : List Env} {A₀ : Around} {base h₀ : Heap} {L : Addr} {m : Str → Option Value} {s : Shared} {Q E : Value → Shared → Prop} {news : List (Addr × Obj)}
    (H : Sp n w f vs (fun _ _ v => R v)) (B : Below A₀ base outer h₀) (F : Fr h₀ L s.heap m) (N : News h₀ L s.heap news) (X : (KK w).In h₀) (T : TT mean mg mb h₀) (hk : cs.kind = .function) (hd : dp + n < recursionLimit) (hu : un + (10 * n + 40) < cLine)
    (h : ∀ (v : Value) (h' : Heap) (tk' : Nat), R v → Fr h₀ L h' m → News h₀ L h' news → Q v { s with heap := h', toks := tk' }) :
    wpAny (model prg w) (ktrTop dp un gd cn cs L a ccd cl outer) (call (.ref f) vs) Q E s :=
  H _ _ _ _ _ _ _ _ _ _ _ _ _ _ _ _ _ _ _ _ B F X T hk hd hu fun v h' tk' S r => h v h' tk' r (fr_stay F S) (news_stay N S)

/-- a call that hands back one new object -/
theorem use_t {n : Nat} {w : World} {f : Addr} {vs : List Value} {R : Obj → Prop} {mean : ExcName → Option Value} {mg mb : Str → Option Value} {dp un : Nat} {gd : Option (List Code)} {cn : Str} {cs : Scope} {a : Addr} {ccd : Value} {cl : List (Str × Addr)} {outer : List Env} {A₀ : Around} {base h₀ : Heap} {L : Addr} {m : Str → Option Value} {s : Shared} {Q E : Value → Shared → Prop} {news : List (Addr × Obj)}
    (H : Sp n w f vs (fun h h' v => ∃ D o, v = .ref D ∧ h.get? D = none ∧ h'.get? D = some o ∧ R o)) (B : Below A₀ base outer h₀) (F : Fr h₀ L s.heap m) (N : News h₀ L s.heap news) (X : (KK w).In h₀) (T : TT mean mg mb h₀) (hk : cs.kind = .function) (hd : dp + n < recursionLimit) (hu : un + (10 * n + 40) < cLine)
    (h : ∀ (D : Addr) (o : Obj) (h' : Heap) (tk' : Nat), R o → Fr h₀ L h' m → News h₀ L h' ((D, o) :: news) → (∀ p ∈ news, p.1 ≠ D) → Q (.ref D) { s with heap := h', toks := tk' }) :
    wpAny (model prg w) (ktrTop dp un gd cn cs L a ccd cl outer) (call (.ref f) vs) Q E s :=
  H _ _ _ _ _ _ _ _ _ _ _ _ _ _ _ _ _ _ _ _ B F X T hk hd hu fun v h' tk' S ⟨D, o, e, d1, d2, r⟩ => by
    subst e
    refine h D o h' tk' r (fr_stay F S) ?_ ?_
    · intro p hp
      rcases List.mem_cons.mp hp with rfl | hp
      · refine ⟨d2, ?_, ?_⟩
        · intro q
          obtain ⟨oL, es, ep, hL, _⟩ := F.ns
          have q' : D = L := q
          rw [q', hL] at d1; cases d1
        · cases q : h₀.get? D with
          | none => rfl
          | some o' => have := F.keep _ _ q; rw [d1] at this; cases this
      · exact news_stay N S p hp
    · intro p hp q
      have := (N p hp).1
      rw [q, d1] at this; cases this
end Mine
end
-- part R1
section
open PySem PySem.W PySem.Calls PyProof.Rows
namespace Mine
theorem isub_kind : builtinKind "issubclass.nested" = none := by decide +kernel
theorem isub_plain : plainId "issubclass.nested" = true := by decide +kernel
theorem isub_args (a b c : Value) : argsOk "issubclass.nested" ⟨[a, b, c], []⟩ := by unfold argsOk; kernel_rfl
theorem sub_str_str : isSubtype (.type "str") (.type "str") = pure true := by rw [isSubtype_type]; kernel_rfl
theorem meta_str : typeOf (.type "str") = pure (.type "type") := kitMeta_of (by decide +kernel)

theorem isub_one (k : Int) (tk : Tok) : Meets (Builtin.«issubclass.nested» ⟨[.type "str", .type "str", .int k tk], []⟩) (fun _ R s => R (.ok (.ret (.bool true))) s) := by
  intro prog w A R s hs
  have hm := meta_str
  have hsub := sub_str_str
  unfold Builtin.«issubclass.nested»
  refine wpAny_bind (wpAny_of_eq hm ?_)
  rw [if_pos (by decide)]
  k_delta "plainIsSubclass"
  refine wpAny_bind (wpAny_bind (m := isType _) (wpAny_pure ?_))
  refine wpAny_bind (m := isType _) (wpAny_pure ?_)
  simp only [Bool.and_self, if_true]
  refine wpAny_of_eq hsub ?_
  exact wpAny_pure hs

theorem isub_pair {prog : Program} {w : World} {A : Around} {E : Value → Shared → Prop} {s : Shared} {Q : Value → Shared → Prop} {tp : Addr} {dd : Option Addr} {n : Nat} {sl : Array (Option Value)} {its r : List Value}
    (htp : s.heap.get? tp = some ⟨.type "tuple", dd, .seq its.toArray n, sl⟩) (he : its = Value.type "str" :: r) (h : Q (.bool true) s) :
    wpAny (model prog w) A (call (.builtin "issubclass") [.type "str", .ref tp]) Q E s := by
  refine call_issubclass (S := fun _ R s => (s.heap.get? tp = some ⟨.type "tuple", dd, .seq its.toArray n, sl⟩) ∧ R (.ok (.ret (.bool true))) s) ?_ ⟨htp, h⟩
  intro prog w A R s hs
  refine issubclass_outer ?_
  obtain ⟨h, g, d, tt, os⟩ := s
  obtain ⟨htp, hq⟩ := hs
  have hT2 : (⟨h, g, d, tt, os⟩ : Shared).TypeIs (.ref tp) "tuple" := ⟨_, htp, rfl⟩
  have f1 := F.isi_sub_tuple
  unfold Builtin.«issubclass.nested»
  repeat (any_goals (first | assumption | wp_step))
  refine wpAny_arrayLoop ?_
  simp only [Option.getD_some, List.toList_toArray]
  subst he
  rw [List.forIn_cons]
  refine wpAny_bind (wpAny_bind (call_function_meets isub_kind isub_plain F.entry_issubclass_nested (isub_args _ _ _) (isub_one _ _) ?_))
  show wpAny _ _ (truthy (.bool true) >>= _) _ _ _
  refine wpAny_bind (m := truthy (.bool true)) (wpAny_pure ?_)
  refine wpAny_bind (wpAny_pure (wpAny_pure (wpAny_pure ?_)))
  repeat (any_goals (first | assumption | wp_step))
end Mine
end
-- part R2
section
open PySem PySem.W PySem.Calls PyProof.Rows
namespace Mine
theorem wp_peek {α : Type} {K : Frag} {M : Model} {A : Around} {E : Value → Shared → Prop} {Q : α → Shared → Prop} {s : Shared} {o : Obj} {r : Addr → α}
    (X : K.In s.heap) (q : Q (r s.heap.objs.size) { s with heap := s.heap.push o }) :
    ∀ (t : Sem α) (g : Addr → Option α), peek1 K ⟨M.prog, M.w.params⟩ t = some (o, g) → (∀ D, g D = some (r D)) → wpAny M A t Q E s := by
  intro t
  induction t with
  | rule _ k ih => intro g e hg Γ p hΓ; exact ih () g e hg Γ p hΓ
  | point _ k ih => intro g e hg Γ p hΓ; exact ih () g e hg Γ p hΓ
  | ask k ih => intro g e hg Γ p hΓ; exact ih _ g e hg Γ p hΓ
  | load a _ k ih =>
    intro g e hg Γ p hΓ
    simp only [peek1] at e
    split at e
    · rename_i ob ho; exact ⟨ob, X _ _ ho, ih ob g e hg Γ p hΓ⟩
    · cases e
  | alloc ob k _ =>
    intro g e hg
    have e : some (ob, fun D => peek K ⟨M.prog, M.w.params⟩ (k D)) = some (o, g) := e
    obtain ⟨e1, e2⟩ := Prod.mk.inj (Option.some.inj e)
    subst e1
    subst e2
    have X' : K.In (s.heap.push ob) := X.keeps fun b x hb => Heap.get?_push_of_some _ hb
    show wpAny M A (alloc ob >>= k) Q E s
    refine wpAny_bind (wpAny_alloc ?_)
    exact (Looks.of_peek (M := M) (h := s.heap.push ob) X' (hg s.heap.objs.size)).here (s := { s with heap := s.heap.push ob }) q
  | _ => intro g e; cases e

theorem enterR {w : World} {A₀ A : Around} {s : Shared} {base h₀ : Heap} {outer : List Env} {L : Addr} {m : Str → Option Value} {env : Env} {K : Frag} {p : Program} {loose : List Str} {mean : ExcName → Option Value} {mg mb : Str → Option Value} {E : Value → Shared → Prop}
    {Q : Value → Shared → Prop} {name qual : Str} {params : Arguments} {body : List Stmt} {scope : Scope} {dV kV doc pm cdv ct oc : Value} {an od : Option Addr} {osl : Array (Option Value)} {f : Addr} {args vs : List Value} {g₁ : Addr → Option (List (Str × Value))} {binds : Addr → List (Str × Value)} {prog : Program}
    (B : Below A₀ base outer h₀) (F : Fr h₀ L s.heap m) (X₀ : K.In h₀) (T : Top p loose mean mg mb h₀) (hA : A.frames = some (env :: outer)) (hf : env.frame = some L) (hke : env.scope.kind = .function)
    (ho : K.lookup f = some ⟨oc, od, .func (fnOf name qual params body scope dV kV doc pm an cdv ct), osl⟩) (hcd : codeIn K cdv qual = true) (hroom : A.depth < recursionLimit)
    (hp : peek1 K ⟨prog, w.params⟩ (bindArgs (fnOf name qual params body scope dV kV doc pm an cdv ct) ⟨args, []⟩) = some (({ cls := .type "tuple", data := .seq vs.toArray } : Obj), g₁))
    (hg : ∀ D, g₁ D = some (binds D)) (hloc : ∀ D, ∀ y ∈ binds D, scope.names.lookup y.1 = some .local)
    (h : ∀ D L' h₁ , Fr s.heap L' h₁ (fun y => (binds D).reverse.lookup y) → News s.heap L' h₁ [(D, ({ cls := .type "tuple", data := .seq vs.toArray } : Obj))] → Below A base (env :: outer) s.heap → K.In s.heap → Top p loose mean mg mb s.heap →
      wpAny (model prog w) (A.deeper (envOf qual scope L' f cdv)) (execs body (envOf qual scope L' f cdv))
        (fun fl s' => Q (match fl with | .ret v => v | _ => .none) s')
        (fun _ _ => False)
        { s with heap := h₁, toks := s.toks + (binds D).length })
    (hco : scope.isCoroutine = false) (hgen : scope.isGenerator = false) (hk : scope.kind = .function)
    (hcell : ∀ x ∈ scope.names, x.2 ≠ .cell) : wpAny (model prog w) A (call (.ref f) args) Q E s := by
  have X := X₀.keeps F.keep
  have T' := T.keeps F.keep
  obtain ⟨FG, BG, st, lv⟩ := groundX (R := fun r s' => match r with | .ok (.ret v) => Q v s' | .ok _ => False | .error e => E e s') B F News.nil hA hf hke
  refine wpAny_call ?_
  refine codeAny_call_function (fd := fnOf name qual params body scope dV kV doc pm an cdv ct) (body := body) hroom (X _ _ ho) rfl hco hgen rfl (codeRec_of X hcd) ?_
  refine wp_peek X (r := binds) ?_ _ g₁ hp hg
  refine wpAny_newFunctionEnv hcell (hloc _) (fun h₁ hns hsb => ⟨(T'.nolimit.keeps fun b o e => Heap.get?_push_of_some _ e).fresh _ hsb, codeAny_func ?_⟩) hk
  have hk₁ : ∀ b o, (s.heap.push ({ cls := .type "tuple", data := .seq vs.toArray } : Obj)).get? b = some o → h₁.get? b = some o := fun b o e => hsb.extBut b o (Nat.ne_of_lt (Heap.lt_size e)) (Heap.get?_push_of_some _ e)
  have hlt : s.heap.objs.size < (s.heap.push ({ cls := .type "tuple", data := .seq vs.toArray } : Obj)).objs.size := Heap.lt_size (Heap.get?_push_size (o := ({ cls := .type "tuple", data := .seq vs.toArray } : Obj)) s.heap rfl)
  have hDn : s.heap.get? s.heap.objs.size = none := by
    cases q : s.heap.get? s.heap.objs.size with
    | none => rfl
    | some o => exact absurd (Heap.lt_size q) (Nat.lt_irrefl _)
  show wpAny (model prog w) (A.deeper (envOf qual scope (s.heap.push ({ cls := .type "tuple", data := .seq vs.toArray } : Obj)).objs.size f cdv)) (execs body (envOf qual scope (s.heap.push ({ cls := .type "tuple", data := .seq vs.toArray } : Obj)).objs.size f cdv)) _ _ _
  refine wpAny_mono (h s.heap.objs.size _ h₁ ⟨hns, fun b o e => hk₁ b o (Heap.get?_push_of_some _ e), Nat.le_of_lt hlt⟩ ?_ BG X T') (fun fl s' hl => hl) fun _ _ y => y.elim
  intro p hp
  rw [List.mem_singleton.mp hp]
  exact ⟨hk₁ _ _ (Heap.get?_push_size _ rfl), Nat.ne_of_lt hlt, hDn⟩
end Mine
end
-- part R3
section
open PySem PySem.W PySem.Calls PyProof.Rows
namespace Mine
section
variable {prog : Program} {w : World} {A : Around} {E : Value → Shared → Prop} {s : Shared} {env : Env} {h₀ : Heap} {x : Str} {body : List Stmt} {Q : Flow → Shared → Prop}

/-- where a turn of a loop over a list may end -/
def TurnEnd {σ : Type} (h₀ : Heap) (L : Addr) (x : Str) (mp : σ → Str → Option Value) (led : σ → List (Addr × Obj)) (J : σ → Prop) (own : List (Addr × Obj)) (Q : Flow → Shared → Prop) (s : Shared) (f : Flow) (s₂ : Shared) : Prop :=
  match f with
  | .ret v => Q (.ret v) s₂
  | .brk => Q .next s₂
  | _ => ∃ (a : σ) (h' : Heap) (tk : Nat) (u : Option Value), s₂ = { s with heap := h', toks := tk } ∧ J a ∧ Fr h₀ L h' (fun y => if y = x then u else mp a y) ∧ News h₀ L h' (led a ++ own)

theorem if_self {x : Str} {m : Str → Option Value} : (fun y => if y = x then m x else m y) = m := by
  funext y
  by_cases h : y = x
  · rw [if_pos h, h]
  · rw [if_neg h]
theorem if_twice {x : Str} {u v : Option Value} {m : Str → Option Value} : (fun y => if y = x then v else (fun y => if y = x then u else m y) y) = fun y => if y = x then v else m y := by
  funext y
  by_cases h : y = x
  · simp only [if_pos h]
  · simp only [if_neg h]

/-- a for over a list that stands in the heap, by an invariant over a state of one's own -/
theorem iter_led {σ : Type} {l : Addr} {vs : List Value} (mp : σ → Str → Option Value) (led : σ → List (Addr × Obj)) (adr : List Addr) (J : Nat → σ → Prop) (a₀ : σ)
    (hh : A.handled = none) (hl : s.heap.IsList l vs.toArray) (hlL : l ≠ env.locals)
    (F : Fr h₀ env.locals s.heap (mp a₀)) (N : News h₀ env.locals s.heap (led a₀)) (hadr : ∀ a, (led a).map (·.1) = adr) (hoff : l ∉ adr) (hj : J 0 a₀)
    (turn : ∀ i v a h tk own, vs[i]? = some v → J i a → (∀ p ∈ own, p.1 ∉ adr) → Fr h₀ env.locals h (fun y => if y = x then some v else mp a y) → News h₀ env.locals h (led a ++ own) →
      wpAny (model prog w) A (execs body env) (TurnEnd h₀ env.locals x mp led (J (i + 1)) own Q s) E { s with heap := h, toks := tk })
    (done : ∀ a h tk u, J vs.length a → Fr h₀ env.locals h (fun y => if y = x then u else mp a y) → News h₀ env.locals h (led a) → Q .next { s with heap := h, toks := tk }) :
    wpAny (model prog w) A (pyIter (.ref l)) (fun it s₂ => LoopAtV prog w A h₀ env x body Q E it s₂) E s := by
  obtain ⟨ol, hol, _⟩ := id hl
  have hne : l ≠ s.heap.objs.size := Nat.ne_of_lt (Heap.lt_size hol)
  refine wpAny_pyIter_list hl ?_
  have W := Walks.list (prog := prog) (w := w) hh s.heap.objs.size l hne vs.toArray
  have hlen : vs.toArray.size = vs.length := by simp
  rw [hlen] at W
  let J' : Nat → (Str → Option Value) → List (Addr × Obj) → Prop := fun i m₁ news₁ => ∃ a u, news₁ = led a ∧ m₁ = (fun y => if y = x then u else mp a y) ∧ J i a
  have hI : ∀ a, ∀ p ∈ led a, p.1 ∉ [s.heap.objs.size] := by
    intro a p hp hm
    have h1 : p.1 ∈ adr := by rw [← hadr a]; exact List.mem_map_of_mem hp
    rw [← hadr a₀] at h1
    obtain ⟨q, hq, e⟩ := List.mem_map.mp h1
    have h2 := Heap.lt_size (N q hq).1
    rw [e, List.mem_singleton.mp hm] at h2
    exact absurd h2 (Nat.lt_irrefl _)
  refine ⟨_, _, _, vs.length, _, _, mp a₀, led a₀, J', rfl, W, ?_, ?_, hI a₀, ⟨⟨_, Heap.get?_push_size _ rfl, rfl, rfl⟩, hl.at fun o e => Heap.get?_push_of_some _ e⟩, F.push _, (fun p hp => ⟨Heap.get?_push_of_some _ (N p hp).1, (N p hp).2⟩), ⟨a₀, mp a₀ x, rfl, if_self.symm, hj⟩, ?_, ?_⟩
  · intro hm
    rcases List.mem_cons.mp hm with e | hm
    · exact absurd F.ns.lt (e ▸ Nat.lt_irrefl _)
    · exact hlL (List.mem_singleton.mp hm).symm
  · intro b hb
    rw [List.mem_singleton.mp hb]
    exact next_is_new F
  · rintro i v m₁ news₁ s₁ own ⟨hh', tk', rfl⟩ hin hP ⟨a, u, rfl, rfl, hJ⟩ hoff' hown hhave _ _ F₁ N₁
    rw [if_twice] at F₁
    have hsep : ∀ p ∈ own, p.1 ∉ adr := by
      intro p hp hm
      rcases List.mem_cons.mp (hown p hp) with h1 | h1
      · rw [← hadr a] at hm
        obtain ⟨q, hq, e⟩ := List.mem_map.mp hm
        exact hI a q hq (by rw [e, h1]; exact .head _)
      · exact hoff ((List.mem_singleton.mp h1) ▸ hm)
    have N₂ : News h₀ env.locals hh' (led a ++ own) := fun p hp => N₁ p ((List.mem_append.mp hp).elim (fun h => List.mem_append.mpr (.inr h)) fun h => List.mem_append.mpr (.inl h))
    refine wpAny_mono (turn i v a hh' tk' own (by simpa using hP) hJ hsep F₁ N₂) (fun f s₂ p => ?_) fun _ _ e => e
    have fin : (∃ (a : σ) (h' : Heap) (tk : Nat) (u : Option Value), s₂ = { s with heap := h', toks := tk } ∧ J (i + 1) a ∧ Fr h₀ env.locals h' (fun y => if y = x then u else mp a y) ∧ News h₀ env.locals h' (led a ++ own)) →
        LoopStepU h₀ env.locals [s.heap.objs.size] own (J' (i + 1)) { s with heap := hh', toks := tk' } .next s₂ := by
      rintro ⟨b, h', tk, u', rfl, hJ', F', N'⟩
      exact ⟨rfl, h', tk, _, led b, rfl, F', fun p hp => N' p ((List.mem_append.mp hp).elim (fun h => List.mem_append.mpr (.inr h)) fun h => List.mem_append.mpr (.inl h)), hI b, b, u', rfl, rfl, hJ'⟩
    cases f with
    | ret v => exact .ret p
    | brk => exact .brk p
    | next => exact .next (fin p)
    | cont => exact .cont (fin p)
  · rintro h' tk m' news' F' N' _ ⟨a, u, rfl, rfl, hJ⟩
    exact done a h' tk u hJ F' N'
end
end Mine
end
-- part R4
section
open PySem PySem.W PySem.Calls PyProof.Rows
namespace Mine
section
variable {prog : Program} {w : World} {A : Around} {E : Value → Shared → Prop} {s : Shared} {env : Env} {h₀ : Heap} {x : Str} {body : List Stmt} {Q : Flow → Shared → Prop}

/-- the end of a turn that turns one list of texts -/
def PushEnd (h₀ : Heap) (L : Addr) (x : Str) (m₀ : Str → Option Value) (d : Addr) (ys : List Str) (k : Nat) (own : List (Addr × Obj)) (Q : Flow → Shared → Prop) (s : Shared) (f : Flow) (s₂ : Shared) : Prop :=
  match f with
  | .ret v => Q (.ret v) s₂
  | .brk => Q .next s₂
  | _ => ∃ (zs : List (Str × Tok)) (n : Nat) (h' : Heap) (tk : Nat) (u : Option Value), s₂ = { s with heap := h', toks := tk } ∧ zs.map (·.1) = ys ∧ zs.length ≤ k ∧ Fr h₀ L h' (fun y => if y = x then u else m₀ y) ∧ News h₀ L h' ((d, listOf (strValues zs).toArray n) :: own)

theorem strValues_get {ls : List (Str × Tok)} {i : Nat} {v : Value} (h : (strValues ls)[i]? = some v) : ∃ c t, v = .str c t ∧ (ls.map (·.1))[i]? = some c := by
  unfold strValues at h
  rw [List.getElem?_map] at h
  cases q : ls[i]? with
  | none => rw [q] at h; cases h
  | some p => rw [q] at h; cases h; exact ⟨p.1, p.2, rfl, by rw [List.getElem?_map, q]; rfl⟩

theorem iter_push {d l : Addr} {ls : List (Str × Tok)} {rest : List (Addr × Obj)} {n₀ n₁ : Nat} {m₀ : Str → Option Value} (f : List Str → Str → List Str)
    (hh : A.handled = none) (F : Fr h₀ env.locals s.heap m₀) (N : News h₀ env.locals s.heap ((d, listOf #[] n₁) :: (l, listOf (strValues ls).toArray n₀) :: rest)) (hdl : l ≠ d) (hk : ls.length ≤ 2000)
    (turn : ∀ c tc zs n h tk own, c ∈ ls.map (·.1) → zs.length ≤ 2000 → (∀ p ∈ own, p.1 ≠ d) → Fr h₀ env.locals h (fun y => if y = x then some (.str c tc) else m₀ y) → News h₀ env.locals h ((d, listOf (strValues zs).toArray n) :: own) →
      wpAny (model prog w) A (execs body env) (PushEnd h₀ env.locals x m₀ d (f (zs.map (·.1)) c) (zs.length + 1) own Q s) E { s with heap := h, toks := tk })
    (done : ∀ zs n h tk u, zs.map (·.1) = (ls.map (·.1)).foldl f [] → zs.length ≤ 2000 → Fr h₀ env.locals h (fun y => if y = x then u else m₀ y) → News h₀ env.locals h [(d, listOf (strValues zs).toArray n)] → Q .next { s with heap := h, toks := tk }) :
    wpAny (model prog w) A (pyIter (.ref l)) (fun it s₂ => LoopAtV prog w A h₀ env x body Q E it s₂) E s := by
  have hl : s.heap.IsList l (strValues ls).toArray := ⟨_, (N _ (.tail _ (.head _))).1, rfl, n₀, rfl⟩
  refine iter_led (σ := List (Str × Tok) × Nat) (vs := strValues ls) (fun _ => m₀) (fun a => [(d, listOf (strValues a.1).toArray a.2)]) [d] (fun i a => a.1.map (·.1) = ((ls.map (·.1)).take i).foldl f [] ∧ a.1.length ≤ i) ([], n₁)
    hh hl (N _ (.tail _ (.head _))).2.1 F (fun p hp => N p ?_) (fun _ => rfl) (fun hm => hdl (List.mem_singleton.mp hm)) ⟨rfl, Nat.le_refl _⟩ ?_ ?_
  · rw [List.mem_singleton.mp hp]; exact .head _
  · rintro i v ⟨zs, n⟩ h tk own hv ⟨hz, hzi⟩ hoff F₁ N₁
    obtain ⟨c, tc, rfl, hc⟩ := strValues_get hv
    have hi : i < ls.length := by
      have := List.getElem?_eq_some_iff.mp hc
      obtain ⟨h1, _⟩ := this
      simpa using h1
    refine wpAny_mono (turn c tc zs n h tk own (List.mem_of_getElem? hc) (by dsimp only at hzi; omega) (fun p hp q => hoff p hp (by rw [q]; exact .head _)) F₁ N₁) (fun f' s₂ p => ?_) fun _ _ e => e
    have key : ∀ zs' : List (Str × Tok), zs'.map (·.1) = f (zs.map (·.1)) c → zs'.map (·.1) = ((ls.map (·.1)).take (i + 1)).foldl f [] := by
      intro zs' e
      rw [List.take_add_one, hc, List.foldl_append, ← hz, e]
      rfl
    have fin : (∃ (zs' : List (Str × Tok)) (n' : Nat) (h' : Heap) (tk : Nat) (u : Option Value), s₂ = { s with heap := h', toks := tk } ∧ zs'.map (·.1) = f (zs.map (·.1)) c ∧ zs'.length ≤ zs.length + 1 ∧ Fr h₀ env.locals h' (fun y => if y = x then u else m₀ y) ∧ News h₀ env.locals h' ((d, listOf (strValues zs').toArray n') :: own)) →
        ∃ (a : List (Str × Tok) × Nat) (h' : Heap) (tk : Nat) (u : Option Value), s₂ = { s with heap := h', toks := tk } ∧ (a.1.map (·.1) = ((ls.map (·.1)).take (i + 1)).foldl f [] ∧ a.1.length ≤ i + 1) ∧ Fr h₀ env.locals h' (fun y => if y = x then u else m₀ y) ∧ News h₀ env.locals h' ([(d, listOf (strValues a.1).toArray a.2)] ++ own) := by
      rintro ⟨zs', n', h', tk', u, e, e1, e2, F', N'⟩
      exact ⟨(zs', n'), h', tk', u, e, ⟨key zs' e1, by dsimp only at hzi ⊢; omega⟩, F', N'⟩
    cases f' with
    | ret v => exact p
    | brk => exact p
    | next => exact fin p
    | cont => exact fin p
  · rintro ⟨zs, n⟩ h tk u ⟨hz, hzi⟩ F₁ N₁
    have hlen : (strValues ls).length = ls.length := by simp [strValues]
    rw [hlen] at hz hzi
    refine done zs n h tk u ?_ (by dsimp only at hzi; omega) F₁ N₁
    rw [← hz.symm, List.take_of_length_le (by simp)]
end
end Mine
end
-- part R5
section
open PySem PySem.W PySem.Calls PyProof.Rows
namespace Mine
theorem kl_last_append : ∀ (p : List Value) (y : Value), kl_last (p ++ [y]) = some (p, y)
  | [], _ => rfl
  | x :: r, y => by
    show (match kl_last (r ++ [y]) with | some (p, y) => some (x :: p, y) | none => some ([], x)) = _
    rw [kl_last_append r y]
theorem sizeLine_ge : 2000 ≤ sizeLine := by decide
theorem strValues_length (zs : List (Str × Tok)) : (strValues zs).length = zs.length := by simp [strValues]
theorem strValues_append (a b : List (Str × Tok)) : strValues (a ++ b) = strValues a ++ strValues b := by simp [strValues]
section
variable {prog : Program} {w : World} {A : Around} {E : Value → Shared → Prop} {s : Shared} {h₀ : Heap} {L d : Addr} {m : Str → Option Value} {news own : List (Addr × Obj)} {zs : List (Str × Tok)} {n : Nat}

theorem append_S {c : Str} {tc : Tok} {Q : Value → Shared → Prop} (F : Fr h₀ L s.heap m) (N : News h₀ L s.heap ((d, listOf (strValues zs).toArray n) :: own)) (hoff : ∀ p ∈ own, p.1 ≠ d) (hz : zs.length ≤ 2000)
    (h : ∀ h', Fr h₀ L h' m → News h₀ L h' ((d, listOf (strValues (zs ++ [(c, tc)])).toArray (n + 1)) :: own) → Q .none { s with heap := h' }) :
    wpAny (model prog w) A (call (.builtin "list.append") [.ref d, .str c tc]) Q E s := by
  refine append_K F N (Upd.head hoff) (fun h' F' N' => h h' F' ?_) (by rw [List.size_toArray, strValues_length]; exact Nat.le_trans hz sizeLine_ge)
  rw [strValues_append]
  simpa [strValues] using N'

theorem truthy_S {Q : Bool → Shared → Prop} (N : News h₀ L s.heap news) (hm : (d, listOf (strValues zs).toArray n) ∈ news) (hz : zs.length ≤ 2000)
    (h : ∀ tk, Q (!zs.isEmpty) { s with toks := tk }) : wpAny (model prog w) A (truthy (.ref d)) Q E s := by
  have hl : s.heap.IsList d (strValues zs).toArray := ⟨_, (N _ hm).1, rfl, n, rfl⟩
  refine wpAny_truthy_list hl ?_ ?_
  · rw [List.size_toArray, strValues_length]
    first | omega | (unfold Builtin.List.listFitsIndex; simp; omega)
  · have e : (!(strValues zs).toArray.isEmpty) = !zs.isEmpty := by cases zs <;> rfl
    rw [e]
    exact h _

theorem truthy_S0 {Q : Bool → Shared → Prop} (N : News h₀ L s.heap news) (hm : (d, listOf (strValues []).toArray n) ∈ news)
    (h : ∀ tk, Q false { s with toks := tk }) : wpAny (model prog w) A (truthy (.ref d)) Q E s := truthy_S N hm (by decide) h
theorem truthy_S1 {p : Str × Tok} {Q : Bool → Shared → Prop} (N : News h₀ L s.heap news) (hm : (d, listOf (strValues (zs ++ [p])).toArray n) ∈ news) (hz : (zs ++ [p]).length ≤ 2000)
    (h : ∀ tk, Q true { s with toks := tk }) : wpAny (model prog w) A (truthy (.ref d)) Q E s := by
  refine truthy_S N hm hz fun tk => ?_
  have e : (!(zs ++ [p]).isEmpty) = true := by cases zs <;> rfl
  rw [e]; exact h tk

theorem last_S {value slice : Expr} {z : Str} {tz u : Tok} {Q : Value → Shared → Prop} (N : News h₀ L s.heap news) (hm : (d, listOf (strValues (zs ++ [(z, tz)])).toArray n) ∈ news)
    (h : Q (.str z tz) s)
    (hs : subscripted slice false (.ref d) (.int (-1) u) = operate [.ref d, .int (-1) u] (getItem (.ref d) (.int (-1) u)) := by with_unfolding_all rfl) :
    wpAny (model prog w) A (subscriptTail value slice (.ref d) (.int (-1) u)) Q E s := by
  have hl : s.heap.IsList d (strValues (zs ++ [(z, tz)])).toArray := ⟨_, (N _ hm).1, rfl, n, rfl⟩
  refine tail_any hl.typeIs slot_list_getitem.lookup (wpAny_getItem_list_neg hl (by decide) ?_ (by decide) ?_ h) hs
  · rw [List.size_toArray, strValues_length, List.length_append]; simp; omega
  · rw [List.size_toArray, strValues_length, List.length_append, strValues_append]
    have e : ((-1 : Int) + ((zs.length + [(z, tz)].length : Nat) : Int)).toNat = (strValues zs).length := by rw [strValues_length]; simp; omega
    rw [e]
    simp [strValues]

theorem pop_S {z : Str} {tz : Tok} {Q : Value → Shared → Prop} (F : Fr h₀ L s.heap m) (N : News h₀ L s.heap ((d, listOf (strValues (zs ++ [(z, tz)])).toArray n) :: own)) (hoff : ∀ p ∈ own, p.1 ≠ d) (hz : (zs ++ [(z, tz)]).length ≤ 2000)
    (h : ∀ h', Fr h₀ L h' m → News h₀ L h' ((d, listOf (strValues zs).toArray (n + 1)) :: own) → Q (.str z tz) { s with heap := h' }) :
    wpAny (model prog w) A (call (.builtin "list.pop") [.ref d]) Q E s := by
  rw [strValues_append] at N
  refine kl_pop F N (p := strValues zs) (y := .str z tz) ?_ (Upd.head hoff) ?_ h
  · show kl_last (strValues zs ++ [Value.str z tz]) = _
    exact kl_last_append _ _
  · show (strValues zs ++ [Value.str z tz]).length ≤ sizeLine
    rw [List.length_append, strValues_length]
    rw [List.length_append] at hz
    exact Nat.le_trans hz sizeLine_ge

theorem truthy_str_S {x : Str} {t : Tok} {Q : Bool → Shared → Prop} (hx : x.length ≤ 5000) (h : ∀ tk, Q ((x.length : Int) != 0) { s with toks := tk }) : wpAny (model prog w) A (PySem.truthy (.str x t)) Q E s :=
  SBL.truthy (by omega) (h _)

theorem len_join (sep : Str) : ∀ l : List Str, (Str.join sep l).length ≤ (l.map (·.length)).sum + l.length * sep.length
  | [] => by simp [Str.join, Str.empty, Str.length]
  | [x] => by simp [Str.join]
  | x :: y :: r => by
    have ih := len_join sep (y :: r)
    show (x ++ sep ++ Str.join sep (y :: r)).length ≤ _
    rw [Str.length_append, Str.length_append]
    simp only [List.map_cons, List.sum_cons, List.length_cons, Nat.succ_mul] at ih ⊢
    omega

theorem join_S {x : Str} {t : Tok} {Q : Value → Shared → Prop} (N : News h₀ L s.heap news) (hm : (d, listOf (strValues zs).toArray n) ∈ news) (hsep : x.length = 1) (hw : ((zs.map (·.1)).map (·.length)).sum + (zs.map (·.1)).length ≤ 2000)
    (h : ∀ j t' k, j = Str.join x (zs.map (·.1)) → j.length ≤ 2000 → Q (.str j t') { s with toks := k }) : wpAny (model prog w) A (call (.builtin "str.join") [.str x t, .ref d]) Q E s := by
  have hl : s.heap.IsList d (strValues zs).toArray := ⟨_, (N _ hm).1, rfl, n, rfl⟩
  have e : Txt.join x (zs.map (·.1)) = Str.join x (zs.map (·.1)) := eq_of_beq (join_plain_closes _ _)
  refine join_listW hl (strsAre_of_values zs) (by omega) (by omega) fun t' k => h _ t' k e ?_
  rw [e]
  have := len_join x (zs.map (·.1))
  rw [hsep] at this
  omega
end
end Mine
end
-- part R6
section
open PySem PySem.W PySem.Calls PyProof.Rows
namespace Mine
/-- as Sp, with what the heap must hold at the call -/
def SpH (n : Nat) (w : World) (f : Addr) (vs : List Value) (C : Heap → Prop) (P : Heap → Heap → Value → Prop) : Prop :=
  ∀ (mean : ExcName → Option Value) (mg mb : Str → Option Value) (dp un : Nat) (gd : Option (List Code)) (cn : Str) (cs : Scope) (a : Addr) (ccd : Value) (cl : List (Str × Addr)) (outer : List Env) (A₀ : Around) (base h₀ : Heap) (L : Addr) (m : Str → Option Value) (s : Shared) (Q E : Value → Shared → Prop),
    Below A₀ base outer h₀ → Fr h₀ L s.heap m → (KK w).In h₀ → TT mean mg mb h₀ → cs.kind = .function →
    dp + n < recursionLimit → un + (10 * n + 40) < cLine → C s.heap →
    (∀ (v : Value) (h' : Heap) (tk' : Nat), s.heap.StaysIn h' → P s.heap h' v → Q v { s with heap := h', toks := tk' }) →
    wpAny (model prg w) (ktrTop dp un gd cn cs L a ccd cl outer) (call (.ref f) vs) Q E s

theorem use_vH {n : Nat} {w : World} {f : Addr} {vs : List Value} {C : Heap → Prop} {R : Value → Prop} {mean : ExcName → Option Value} {mg mb : Str → Option Value} {dp un : Nat} {gd : Option (List Code)} {cn : Str} {cs : Scope} {a : Addr} {ccd : Value} {cl : List (Str × Addr)} {outer : List Env} {A₀ : Around} {base h₀ : Heap} {L : Addr} {m : Str → Option Value} {s : Shared} {Q E : Value → Shared → Prop} {news : List (Addr × Obj)}
    (H : SpH n w f vs C (fun _ _ v => R v)) (B : Below A₀ base outer h₀) (F : Fr h₀ L s.heap m) (N : News h₀ L s.heap news) (X : (KK w).In h₀) (T : TT mean mg mb h₀) (hk : cs.kind = .function) (hd : dp + n < recursionLimit) (hu : un + (10 * n + 40) < cLine) (hC : C s.heap)
    (h : ∀ (v : Value) (h' : Heap) (tk' : Nat), R v → Fr h₀ L h' m → News h₀ L h' news → Q v { s with heap := h', toks := tk' }) :
    wpAny (model prg w) (ktrTop dp un gd cn cs L a ccd cl outer) (call (.ref f) vs) Q E s :=
  H _ _ _ _ _ _ _ _ _ _ _ _ _ _ _ _ _ _ _ _ B F X T hk hd hu hC fun v h' tk' S r => h v h' tk' r (fr_stay F S) (news_stay N S)

theorem enterC {w : World} {A₀ A : Around} {s : Shared} {base h₀ : Heap} {outer : List Env} {L : Addr} {m : Str → Option Value} {env : Env} {K : Frag} {p : Program} {loose : List Str} {mean : ExcName → Option Value} {mg mb : Str → Option Value} {E : Value → Shared → Prop}
    {Q : Value → Shared → Prop} {name qual : Str} {params : Arguments} {body : List Stmt} {scope : Scope} {dV kV doc pm cdv ct oc : Value} {an od : Option Addr} {osl : Array (Option Value)} {f : Addr} {args : List Value} {binds : List (Str × Value)} {prog : Program}
    (B : Below A₀ base outer h₀) (F : Fr h₀ L s.heap m) (X₀ : K.In h₀) (T : Top p loose mean mg mb h₀) (hA : A.frames = some (env :: outer)) (hf : env.frame = some L) (hke : env.scope.kind = .function)
    (ho : K.lookup f = some ⟨oc, od, .func (fnOf name qual params body scope dV kV doc pm an cdv ct), osl⟩) (hcd : codeIn K cdv qual = true) (hroom : A.depth < recursionLimit)
    (hbind : BindsTo s (fnOf name qual params body scope dV kV doc pm an cdv ct) ⟨args, []⟩ binds) (hkind : (binds.all fun y => scope.names.lookup y.1 == some .local || scope.names.lookup y.1 == some .cell) = true)
    (hnd : ((cellsFrom 0 scope.names []).map (·.1)).Nodup)
    (h : ∀ L' h₁ tk cells, Fr s.heap L' h₁ (bindL (envOfC qual scope L' f cdv).kindOf binds fun _ => none) → News s.heap L' h₁ cells →
      CellsAre (bindC (envOfC qual scope L' f cdv).kindOf binds fun _ => none) (cellsFrom (L' + 1) scope.names []) cells → Below A base (env :: outer) s.heap → K.In s.heap → Top p loose mean mg mb s.heap →
      wpAny (model prog w) (A.deeper (envOfC qual scope L' f cdv)) (execs body (envOfC qual scope L' f cdv))
        (fun fl s' => Q (match fl with | .ret v => v | _ => .none) s')
        (fun _ _ => False)
        { s with heap := h₁, toks := tk })
    (hco : scope.isCoroutine = false) (hgen : scope.isGenerator = false) (hk : scope.kind = .function) : wpAny (model prog w) A (call (.ref f) args) Q E s := by
  have X := X₀.keeps F.keep
  have T' := T.keeps F.keep
  obtain ⟨FG, BG, st, lv⟩ := groundX (R := fun r s' => match r with | .ok (.ret v) => Q v s' | .ok _ => False | .error e => E e s') B F News.nil hA hf hke
  refine wpAny_call ?_
  refine codeAny_call_function (fd := fnOf name qual params body scope dV kV doc pm an cdv ct) (body := body) hroom (X _ _ ho) rfl hco hgen rfl (codeRec_of X hcd) (hbind _ _ _ _ ?_)
  refine wpAny_newFunctionEnv_cells hk (kindsX hkind _) fun env' he s' x => ?_
  subst he
  refine ⟨T'.nolimit.keeps x.toInCall.keep, codeAny_func ?_⟩
  obtain ⟨h₁, tk, rfl, _⟩ := x.done
  have hk₁ := x.toInCall.keep
  obtain ⟨cells, NC, Y⟩ := Cl.news (h₀ := s.heap) (Nat.le_refl _) fun n c hm => ⟨x.cell n c (lookup_of_mem_nodup (cellsFrom_names scope.names 0 (s.heap.objs.size + 1) [] [] rfl ▸ hnd) hm), x.above n c hm⟩
  exact wpAny_mono (h s.heap.objs.size h₁ tk cells ⟨x.toInCall.ns, hk₁, Nat.le_refl _⟩ NC Y BG X T') (fun fl s' hl => hl) fun _ _ y => y.elim
end Mine
end
-- part R7
section
open PySem PySem.W PySem.Calls PyProof.Rows
namespace Mine
section
variable {prog : Program} {w : World} {A : Around} {E : Value → Shared → Prop} {s : Shared} {h₀ : Heap} {L : Addr} {m : Str → Option Value} {news : List (Addr × Obj)} {st : List (Str × Tok)}
theorem strValues_drop (a : List (Str × Tok)) (k : Nat) : strValues (a.drop k) = (strValues a).drop k := by simp [strValues]
theorem strValues_take (a : List (Str × Tok)) (k : Nat) : strValues (a.take k) = (strValues a).take k := by simp [strValues]

theorem slice_run_S {value slice : Expr} {l : Addr} {x y : Int} {tx ty : Tok} {Q : Value → Shared → Prop}
    (F : Fr h₀ L s.heap m) (N : News h₀ L s.heap news) (hl : s.heap.IsList l (strValues st).toArray) (h0 : 0 ≤ x) (h1 : x ≤ y) (h2 : y ≤ st.length) (hz : st.length ≤ 2000)
    (h : ∀ D h', Fr h₀ L h' m → News h₀ L h' ((D, listOf (strValues ((st.drop x.toNat).take (y - x).toNat)).toArray 0) :: news) → (∀ p ∈ news, p.1 < D) → Q (.ref D) { s with heap := h' })
    (hs : subscripted slice false (.ref l) (.ref s.heap.objs.size) = operate [.ref s.heap.objs.size, .ref l] (getItem (.ref l) (.ref s.heap.objs.size)) := by with_unfolding_all rfl)
    (ht : ∀ r, letTemporaryGo value (.ref l) r = pure () := by intro _; with_unfolding_all rfl) :
    wpAny (model prog w) A (subscriptTail value slice (.ref l) (.ref s.heap.objs.size)) Q E { s with heap := s.heap.push { cls := .type "slice", data := .fields #[.int x tx, .int y ty, .none] } } := by
  refine slice_list F N hl (.int x tx) (.int y ty) (fun h' F' N' => h _ h' F' ?_ fun p hp => Nat.lt_succ_of_lt (Heap.lt_size (N p hp).1)) hs ht (by rw [List.size_toArray, strValues_length]; exact Nat.le_trans hz sizeLine_ge)
  have ex : x = (x.toNat : Int) := by omega
  have ey : y = (y.toNat : Int) := by omega
  have e : (y - x).toNat = y.toNat - x.toNat := by omega
  have q : slicePick (strValues st).toArray (some x) (some y) none = (strValues ((st.drop x.toNat).take (y - x).toNat)).toArray := by
    rw [ex, ey, slicePick_run (strValues st).toArray x.toNat y.toNat (by simp [strValues_length]; omega) (by omega)]
    apply Array.toList_inj.mp
    rw [strValues_take, strValues_drop]
    simp [← ex, ← ey, e]
  rw [q] at N'
  exact N'

theorem slice_from_S {value slice : Expr} {l : Addr} {x : Int} {tx : Tok} {Q : Value → Shared → Prop}
    (F : Fr h₀ L s.heap m) (N : News h₀ L s.heap news) (hl : s.heap.IsList l (strValues st).toArray) (h0 : 0 ≤ x) (h2 : x ≤ st.length) (hz : st.length ≤ 2000)
    (h : ∀ D h', Fr h₀ L h' m → News h₀ L h' ((D, listOf (strValues (st.drop x.toNat)).toArray 0) :: news) → (∀ p ∈ news, p.1 < D) → Q (.ref D) { s with heap := h' })
    (hs : subscripted slice false (.ref l) (.ref s.heap.objs.size) = operate [.ref s.heap.objs.size, .ref l] (getItem (.ref l) (.ref s.heap.objs.size)) := by with_unfolding_all rfl)
    (ht : ∀ r, letTemporaryGo value (.ref l) r = pure () := by intro _; with_unfolding_all rfl) :
    wpAny (model prog w) A (subscriptTail value slice (.ref l) (.ref s.heap.objs.size)) Q E { s with heap := s.heap.push { cls := .type "slice", data := .fields #[.int x tx, .none, .none] } } := by
  refine slice_list F N hl (.int x tx) .none (fun h' F' N' => h _ h' F' ?_ fun p hp => Nat.lt_succ_of_lt (Heap.lt_size (N p hp).1)) hs ht (by rw [List.size_toArray, strValues_length]; exact Nat.le_trans hz sizeLine_ge)
  have ex : x = (x.toNat : Int) := by omega
  have q : slicePick (strValues st).toArray (some x) none none = (strValues (st.drop x.toNat)).toArray := by
    rw [ex, slicePick_from (strValues st).toArray x.toNat (by simp [strValues_length]; omega)]
    apply Array.toList_inj.mp
    rw [strValues_drop]
    simp [← ex]
  rw [q] at N'
  exact N'
end

section
variable {prog : Program} {w : World} {A : Around} {E : Value → Shared → Prop} {s : Shared} {env : Env} {h₀ : Heap} {x y : Str} {body : List Stmt} {Q : Flow → Shared → Prop}
/-- the end of a turn that turns one text -/
def TextEnd (h₀ : Heap) (L : Addr) (x y : Str) (m₀ : Str → Option Value) (b : Str) (news : List (Addr × Obj)) (s : Shared) (f : Flow) (s₂ : Shared) : Prop :=
  f = .next ∧ ∃ (tb : Tok) (h' : Heap) (tk : Nat) (u : Option Value), s₂ = { s with heap := h', toks := tk } ∧ Fr h₀ L h' (fun z => if z = x then u else if z = y then some (.str b tb) else m₀ z) ∧ News h₀ L h' news

theorem fr_text {h : Heap} {L : Addr} {m₀ : Str → Option Value} {u v v0 : Option Value} (F : Fr h₀ L h (fun z => if z = y then v else if z = x then u else if z = y then v0 else m₀ z)) (hxy : x ≠ y) :
    Fr h₀ L h (fun z => if z = x then u else if z = y then v else m₀ z) := by
  have e : (fun z => if z = y then v else if z = x then u else if z = y then v0 else m₀ z) = (fun z => if z = x then u else if z = y then v else m₀ z) := by
    funext z
    by_cases h1 : z = y
    · have h2 : z ≠ x := fun q => hxy (q.symm.trans h1)
      simp only [if_pos h1, if_neg h2]
    · simp only [if_neg h1]
  rw [← e]; exact F

theorem iter_text {l : Addr} {ls : List (Str × Tok)} {rest : List (Addr × Obj)} {n₀ : Nat} {m₀ : Str → Option Value} {a₀ : Str} {t₀ : Tok} (y : Str) (f : Str → Str → Str)
    (hh : A.handled = none) (F : Fr h₀ env.locals s.heap m₀) (N : News h₀ env.locals s.heap ((l, listOf (strValues ls).toArray n₀) :: rest)) (hoff : ∀ p ∈ rest, p.1 < l) (hy : m₀ y = some (.str a₀ t₀))
    (turn : ∀ i c tc ta h tk own, (ls.map (·.1))[i]? = some c → (∀ p ∈ own, p.1 ∉ rest.map (·.1)) → Fr h₀ env.locals h (fun z => if z = x then some (.str c tc) else if z = y then some (.str (((ls.map (·.1)).take i).foldl f a₀) ta) else m₀ z) → News h₀ env.locals h (rest ++ own) →
      wpAny (model prog w) A (execs body env) (TextEnd h₀ env.locals x y m₀ (f (((ls.map (·.1)).take i).foldl f a₀) c) (rest ++ own) s) E { s with heap := h, toks := tk })
    (done : ∀ ta h tk u, Fr h₀ env.locals h (fun z => if z = x then u else if z = y then some (.str ((ls.map (·.1)).foldl f a₀) ta) else m₀ z) → News h₀ env.locals h rest → Q .next { s with heap := h, toks := tk }) :
    wpAny (model prog w) A (pyIter (.ref l)) (fun it s₂ => LoopAtV prog w A h₀ env x body Q E it s₂) E s := by
  have hl : s.heap.IsList l (strValues ls).toArray := ⟨_, (N _ (.head _)).1, rfl, n₀, rfl⟩
  have em : (fun z => if z = y then some (Value.str a₀ t₀) else m₀ z) = m₀ := by
    funext z
    by_cases h : z = y
    · rw [if_pos h, h, hy]
    · rw [if_neg h]
  refine iter_led (σ := Str × Tok) (vs := strValues ls) (fun a z => if z = y then some (.str a.1 a.2) else m₀ z) (fun _ => rest) (rest.map (·.1)) (fun i a => a.1 = ((ls.map (·.1)).take i).foldl f a₀) (a₀, t₀)
    hh hl (N _ (.head _)).2.1 (by rw [em]; exact F) (fun p hp => N p (.tail _ hp)) (fun _ => rfl) (fun hm => ?_) rfl ?_ ?_
  · obtain ⟨p, hp, e⟩ := List.mem_map.mp hm
    exact absurd (hoff p hp) (by rw [e]; exact Nat.lt_irrefl _)
  · rintro i v ⟨a, ta⟩ h tk own hv ha hoff' F₁ N₁
    obtain ⟨c, tc, rfl, hc⟩ := strValues_get hv
    dsimp only at ha
    subst ha
    refine wpAny_mono (turn i c tc ta h tk own hc hoff' F₁ N₁) (fun f' s₂ p => ?_) fun _ _ e => e
    have key : f (((ls.map (·.1)).take i).foldl f a₀) c = ((ls.map (·.1)).take (i + 1)).foldl f a₀ := by
      rw [List.take_add_one, hc, List.foldl_append]; rfl
    obtain ⟨e0, tb, h', tk', u, e, F', N'⟩ := p
    subst e0
    exact ⟨(_, tb), h', tk', u, e, key, F', N'⟩
  · rintro ⟨a, ta⟩ h tk u ha F₁ N₁
    have hlen : (strValues ls).length = ls.length := by simp [strValues]
    rw [hlen, List.take_of_length_le (by simp)] at ha
    dsimp only at ha
    subst ha
    exact done ta h tk u F₁ N₁
end
end Mine
end
-- part R8
section
open PySem PySem.W PySem.Calls PyProof.Rows
namespace Mine
section
variable {prog : Program} {w : World} {A : Around} {E : Value → Shared → Prop} {s : Shared} {h₀ : Heap} {L : Addr} {m : Str → Option Value} {news : List (Addr × Obj)} {st : List (Str × Tok)}

/-- the parts of what normpath told -/
def partsP (told : Str) : List Str := if (told == Str.ofString ".") = true then [] else Txt.split told (Str.ofString "/")
theorem parts_y {x : Str} (h : (x == Str.ofString ".") = true) : [] = partsP x := by unfold partsP; rw [if_pos h]
theorem parts_n {x : Str} {ys : List Str} (e : ys = Txt.split x (Str.ofString "/")) (h : (x == Str.ofString ".") = false) : ys = partsP x := by unfold partsP; rw [if_neg (by rw [h]; decide)]; exact e

theorem item_S {value slice : Expr} {l : Addr} {k : Int} {u : Tok} {Q : Value → Shared → Prop} (hl : s.heap.IsList l (strValues st).toArray) (h0 : 0 ≤ k) (h1 : k < st.length) (hz : st.length ≤ 2000)
    (h : ∀ t', Q (.str ((st.map (·.1)).getD k.toNat (Str.ofString "")) t') s)
    (hs : subscripted slice false (.ref l) (.int k u) = operate [.ref l, .int k u] (getItem (.ref l) (.int k u)) := by with_unfolding_all rfl) :
    wpAny (model prog w) A (subscriptTail value slice (.ref l) (.int k u)) Q E s := by
  have hk : k.toNat < st.length := by omega
  refine tail_any hl.typeIs slot_list_getitem.lookup (wpAny_getItem_list hl h0 (by omega) (x := .str (st[k.toNat]).1 (st[k.toNat]).2) ?_ ?_) hs
  · simp [strValues, hk]
  · have e : (st.map (·.1)).getD k.toNat (Str.ofString "") = (st[k.toNat]).1 := by simp [hk]
    rw [← e]; exact h _

theorem in_S {d : Addr} {n : Nat} {x : Str} {u : Tok} {Q : Value → Shared → Prop} (N : News h₀ L s.heap news) (hm : (d, listOf (strValues st).toArray n) ∈ news)
    (h : Q (.bool ((st.map (·.1)).any (· == x))) s) : wpAny (model prog w) A (compareOp .In (.str x u) (.ref d)) Q E s := by
  have hl : s.heap.IsList d (strValues st).toArray := ⟨_, (N _ hm).1, rfl, n, rfl⟩
  exact in_list_strs hl (strsAre_of_values st) h

theorem len_S {l : Addr} {Q : Value → Shared → Prop} (hl : s.heap.IsList l (strValues st).toArray) (hz : st.length ≤ 2000)
    (h : ∀ t' tk, Q (.int (st.length : Int) t') { s with toks := tk }) : wpAny (model prog w) A (call (.builtin "len") [.ref l]) Q E s := by
  refine PyProof.Rows.len_list hl (by rw [List.size_toArray, strValues_length]; omega) ?_
  rw [List.size_toArray, strValues_length]
  exact h _ _
end

/-- the two dots ahead -/
def upsP (ys : List Str) : Nat := (ys.takeWhile (· == Str.ofString "..")).length
theorem upsP_end {ys : List Str} {u : Nat} (h : ∀ q, q < u → ys.getD q (Str.ofString "") = Str.ofString "..") (hu : u ≤ ys.length) (he : u = ys.length ∨ ys.getD u (Str.ofString "") ≠ Str.ofString "..") : u = upsP ys := by
  induction ys generalizing u with
  | nil => simp at hu; simp [upsP, hu]
  | cons y ys ih =>
    cases u with
    | zero =>
      rcases he with he | he
      · simp at he
      · have : (y == Str.ofString "..") = false := by
          cases q : (y == Str.ofString "..") with
          | false => rfl
          | true => exact absurd (eq_of_beq q) (by simpa using he)
        simp [upsP, this]
    | succ u =>
      have hy : y = Str.ofString ".." := by simpa using h 0 (by omega)
      have := ih (u := u) (fun q hq => by simpa using h (q + 1) (by omega)) (by simpa using hu) (by
        rcases he with he | he
        · left; simpa using he
        · right; simpa using he)
      rw [this]
      simp [upsP, hy]

section
variable {prog : Program} {w : World} {A : Around} {E : Value → Shared → Prop} {Q : Flow → Shared → Prop} {s : Shared} {env : Env} {h₀ : Heap} {L : Addr}
def UpsEnd (h₀ : Heap) (L : Addr) (m : Str → Option Value) (c : Addr) (u : Int) (pre rest : List (Addr × Obj)) (s : Shared) (s₂ : Shared) : Prop :=
  ∃ h' tk o t, s₂ = { s with heap := h', toks := tk } ∧ o.data = .cell (some (.int u t)) ∧ Fr h₀ L h' m ∧ News h₀ L h' (pre ++ (c, o) :: rest)

theorem while_ups {test : Expr} {body : List Stmt} {pos : Pos} {m : Str → Option Value} {D c : Addr} {pt : List (Str × Tok)} {n : Nat} {oc : Obj} {t₀ : Tok} {rest : List (Addr × Obj)}
    (F : Fr h₀ L s.heap m) (N : News h₀ L s.heap ((D, listOf (strValues pt).toArray n) :: (c, oc) :: rest)) (hoc : oc.data = .cell (some (.int 0 t₀)))
    (turn : ∀ (u : Nat) t o h₁ tk₁, u ≤ pt.length → o.data = .cell (some (.int (u : Int) t)) → Fr h₀ L h₁ m → News h₀ L h₁ ((D, listOf (strValues pt).toArray n) :: (c, o) :: rest) →
      wpAny (model prog w) A (isTrue test env (eval test env)) (fun b s₂ =>
        if b = true then (u < pt.length ∧ (pt.map (·.1)).getD u (Str.ofString "") = Str.ofString ".." ∧ wpAny (model prog w) A (execs body env) (fun f s₃ => f = .next ∧ UpsEnd h₀ L m c ((u : Int) + 1) [(D, listOf (strValues pt).toArray n)] rest s s₃) E s₂)
        else ((u = pt.length ∨ (pt.map (·.1)).getD u (Str.ofString "") ≠ Str.ofString "..") ∧ UpsEnd h₀ L m c (u : Int) [(D, listOf (strValues pt).toArray n)] rest s s₂)) E { s with heap := h₁, toks := tk₁ })
    (done : ∀ t o h₁ tk₁, o.data = .cell (some (.int (upsP (pt.map (·.1)) : Int) t)) → Fr h₀ L h₁ m → News h₀ L h₁ ((D, listOf (strValues pt).toArray n) :: (c, o) :: rest) → Q .next { s with heap := h₁, toks := tk₁ })
    (hE : PassesOwn (model prog w) A env E := by passes_own) :
    wpAny (model prog w) A (exec (.While test body [] pos) env) Q E s := by
  refine While_inv (fun k m₁ news₁ => m₁ = m ∧ ∃ (u : Nat) (t : Tok) (o : Obj), news₁ = (D, listOf (strValues pt).toArray n) :: (c, o) :: rest ∧ o.data = .cell (some (.int (u : Int) t)) ∧ u ≤ pt.length ∧ k = pt.length - u ∧ (∀ q, q < u → (pt.map (·.1)).getD q (Str.ofString "") = Str.ofString "..")) (n₀ := pt.length)
    F N ⟨rfl, 0, t₀, oc, rfl, hoc, Nat.zero_le _, rfl, fun q hq => absurd hq (Nat.not_lt_zero _)⟩ ?_ hE
  rintro k m₁ news₁ h₁ tk₁ F₁ N₁ ⟨rfl, u, t, o, rfl, ho, hu, rfl, hall⟩
  refine wpAny_mono (turn u t o h₁ tk₁ hu ho F₁ N₁) (fun b s₂ h => ?_) fun _ _ e => e
  cases b with
  | true =>
    simp only [if_true] at h ⊢
    obtain ⟨hlt, hdd, hb⟩ := h
    refine wpAny_mono hb (fun f s₃ h₃ => ?_) fun _ _ e => e
    obtain ⟨rfl, h', tk, o', t', rfl, ho', F', N'⟩ := h₃
    refine ⟨rfl, h', tk, m₁, _, pt.length - (u + 1), rfl, F', N', by omega, rfl, u + 1, t', o', rfl, ?_, hlt, rfl, ?_⟩
    · rw [ho']; simp
    · intro q hq
      by_cases e : q < u
      · exact hall q e
      · have : q = u := by omega
        subst this; exact hdd
  | false =>
    simp only [Bool.false_eq_true, if_false] at h ⊢
    obtain ⟨he, h', tk, o', t', rfl, ho', F', N'⟩ := h
    have e := upsP_end (ys := pt.map (·.1)) (u := u) hall (by simpa using hu) (by simpa using he)
    exact done t' o' h' tk (by rw [ho', ← e]) F' N'
end
end Mine
end
-- part R9
section
open PySem PySem.W PySem.Calls PyProof.Rows
namespace Mine
section
variable {prog : Program} {w : World} {A : Around} {E : Value → Shared → Prop} {s : Shared} {h₀ : Heap} {L : Addr} {m : Str → Option Value} {news : List (Addr × Obj)} {env : Env}
/-- where a statement ends: the frame, the ledger and what is known, by a letter of one's own -/
def CutEnd {σ : Type} (h₀ : Heap) (L : Addr) (mp : σ → Str → Option Value) (led : σ → List (Addr × Obj)) (J : σ → Prop) (s : Shared) (f : Flow) (s' : Shared) : Prop :=
  f = .next ∧ ∃ a h' tk, s' = { s with heap := h', toks := tk } ∧ J a ∧ Fr h₀ L h' (mp a) ∧ News h₀ L h' (led a)
theorem execs_cut {σ : Type} {st : Stmt} {rest : List Stmt} {Q : Flow → Shared → Prop} (_F : Fr h₀ L s.heap m) (_N : News h₀ L s.heap news) (mp : (Str → Option Value) → σ → Str → Option Value) (led : List (Addr × Obj) → σ → List (Addr × Obj)) (J : σ → Prop)
    (h1 : wpAny (model prog w) A (exec st env) (CutEnd h₀ L (mp m) (led news) J s) E s)
    (h2 : ∀ a h' tk, J a → Fr h₀ L h' (mp m a) → News h₀ L h' (led news a) → wpAny (model prog w) A (execs rest env) Q E { s with heap := h', toks := tk }) :
    wpAny (model prog w) A (execs (st :: rest) env) Q E s := by
  refine wpAny_execs_cons (wpAny_mono h1 (fun f s' h => ?_) fun _ _ x => x)
  obtain ⟨rfl, a, h', tk, rfl, j, F, N⟩ := h
  exact h2 a h' tk j F N

theorem comp_rest {elt : Expr} {x : Str} {scope : Scope} {cl : List (Str × Addr)} {S : List (Addr × Obj) → Prop} {P : Nat → Value → Prop} {Fin : List Value → List (Addr × Obj) → Prop} {n : Nat} {news₀ : List (Addr × Obj)} (I : Nat → List Value → List (Addr × Obj) → Prop) (h0 : I 0 [] news₀)
    (turn : ∀ i ys news v J oJ C oC D m₂ h tk (E' : Value → Shared → Prop), i < n → I i ys news → P i v → LCg.NsObj oC m₂ → m₂ x = some v → Fr h₀ L h m → News h₀ L h ((J, oJ) :: (C, oC) :: (D, LCg.lst ys) :: news) → LCg.Off3 J C D news → ((@Ne Nat J C) ∧ (@Ne Nat J D) ∧ (@Ne Nat C D)) →
      wpAny (model prog w) A (eval elt (compEnvC scope cl C env)) (LCg.CompEnd h₀ L m { s with heap := h, toks := tk } J oJ C oC D (LCg.lst ys) S (fun y news' => I (i + 1) (ys ++ [y]) news')) E' { s with heap := h, toks := tk })
    (fin : ∀ ys news, I n ys news → Fin ys news) : LCg.CompRest prog w A h₀ L m env elt x scope cl s S P Fin n 0 [] news₀ := by
  have key : ∀ (j i : Nat) (ys : List Value) (news : List (Addr × Obj)), i + j = n → I i ys news → LCg.CompRest prog w A h₀ L m env elt x scope cl s S P Fin j i ys news := by
    intro j
    induction j with
    | zero =>
      intro i ys news hi hI
      have e : i = n := by omega
      subst e
      exact LCg.CompRest.zero (fin ys news hI)
    | succ j ih =>
      intro i ys news hi hI
      refine LCg.CompRest.succ ?_
      intro v J oJ C oC D m₂ h tk E' hv hC hx F N off ne
      refine wpAny_mono (turn i ys news v J oJ C oC D m₂ h tk E' (by omega) hI hv hC hx F N off ne) (fun y s₂ hq => ?_) fun _ _ e => e
      obtain ⟨h', tk', nw, e, F', N', off', hS, hr⟩ := hq
      exact ⟨h', tk', nw, e, F', N', off', hS, ih (i + 1) _ nw (by omega) hr⟩
  exact key n 0 [] news₀ (by omega) h0
end
end Mine
end
-- part R10
section
open PySem PySem.W PySem.Calls PyProof.Rows PySem.Spec
namespace Mine
theorem canLayAll0_S : ∀ ns : List Str, (∀ x ∈ ns, PyData.strOk x = true) → PyData.canLayAll0 (ns.map PyData.str) = true
  | [], _ => by simp [PyData.canLayAll0]
  | n :: r, h => by simp [PyData.canLayAll0, PyData.canLay0, canLayAll0_S r fun x hx => h x (.tail _ hx), h n (.head _)]
theorem depthAll_S : ∀ ns : List Str, PyData.depthAll (ns.map PyData.str) ≤ 1
  | [] => by simp [PyData.depthAll]
  | n :: r => by
    have := depthAll_S r
    simp only [List.map_cons, PyData.depthAll, PyData.depth]
    omega
theorem canLay_S (ns : List Str) (h : ∀ x ∈ ns, PyData.strOk x = true) : PyData.canLay0 (.list (ns.map PyData.str)) = true := by
  simp only [PyData.canLay0]; exact canLayAll0_S ns h
theorem shaped_S (ns : List Str) (h : ∀ x ∈ ns, PyData.strOk x = true) : PySem.SeqAt.shaped (.list (ns.map PyData.str)) = true := by
  have h1 := depthAll_S ns
  have h2 : PyData.depth (.list (ns.map PyData.str)) ≤ 64 := by simp only [PyData.depth]; omega
  show (PyData.canLay0 (.list (ns.map PyData.str)) && decide (PyData.depth (.list (ns.map PyData.str)) ≤ 64)) = true
  rw [Bool.and_eq_true]
  exact ⟨canLay_S ns h, decide_eq_true h2⟩
theorem reads_S {h : Heap} {a : Addr} {st : List (Str × Tok)} (hl : h.IsList a (strValues st).toArray) : Reads h (.ref a) (.list ((st.map (·.1)).map PyData.str)) [a] := by
  obtain ⟨o, ho, hc, n, hd⟩ := hl
  exact Reads.list ho hc hd (by simpa using strs_readAll h (strsAre_of_values st))
section
variable {prog : Program} {w : World} {A : Around} {E : Value → Shared → Prop} {s : Shared}
/-- two lists of the same texts are not unequal -/
theorem ne_S {a b : Addr} {xs ys : List (Str × Tok)} {Q : Value → Shared → Prop} (hl : s.heap.IsList a (strValues xs).toArray) (hl' : s.heap.IsList b (strValues ys).toArray) (he : xs.map (·.1) = ys.map (·.1)) (hk : ∀ x ∈ xs.map (·.1), PyData.strOk x = true) (hu : A.units + 64 < cLine)
    (h : Q (.bool false) s) : wpAny (model prog w) A (compareOp .NotEq (.ref a) (.ref b)) Q E s := by
  have r1 := reads_S hl
  have r2 := reads_S hl'
  rw [← he] at r2
  refine ne_dataH r1 r2 (shaped_S _ hk) (shaped_S _ hk) hu ?_
  rw [PySem.SeqAt.eqv_refl _ (canLay_S _ hk)]; exact h
theorem ne_str_S {x y : Str} {t u : Tok} {Q : Value → Shared → Prop} (he : x = y) (h : Q (.bool false) s) : wpAny (model prog w) A (compareOp .NotEq (.str x t) (.str y u)) Q E s := by
  subst he
  refine PyProof.Rows.ne_str ?_
  have e : (x != x) = false := by simp
  rw [e]; exact h
end
end Mine
end
-- part F1
section
open PySem PySem.W PySem.Calls PyProof.Rows
namespace Mine
theorem sp_fspath (w : World) (x : Str) (t : Tok) : Sp 2 w 94 [.str x t] (fun _ _ v => v = .str x t) := by
  w_top off
  k_with_none
  unfold Sp KK prg
  k_fill
  intro mean mg mb dp un gd cn cs a ccd cl outer A₀ base h₀ L m s Q E B F X T hck hd hu hret
  refine' enter (binds := [(Str.ofString "path", .str x t)]) B F X T rfl rfl hck ?k6 ?k7 ?k8 ?k9 ?kB ?_ ?c2 ?c3 ?c4 ?c5
  (case k6 => k_is)
  (case k7 => k_is)
  (case k8 => dsimp only [ktrTop]; omega)
  (case k9 => exact BindsTo.of_eq rfl)
  (case kB => exact locs rfl)
  (case c2 => rfl)
  (case c3 => rfl)
  (case c4 => rfl)
  (case c5 => decide)
  clear F T X B
  intro L' h' F' N' B' X' T'
  (try dsimp only)
  (try k_fold)
  k_steps
  refine' isub_pair ?k1 ?k2 ?_
  (case k1 => exact News.get (by k_asm) (by k_mem))
  (case k2 => rfl)
  k_steps
  exact hret _ _ _ (Fr.keep (by assumption)) rfl
end Mine
end
section
open PySem PySem.W PySem.Calls PyProof.Rows
namespace Mine
-- part F2
local macro_rules | `(tactic| walk_at "call ref") => `(tactic| (k_here; k_dflt (refine' use_v (sp_fspath _ _ _) ?k1 ?k2 ?k3 ?k4 ?k5 ?k6 ?k7 ?k8 ?_; (case k1 | k2 | k3 | k4 | k5 => k_asm); (case k6 => first | exact rfl | assumption); (case k7 => ktr_room); (case k8 => ktr_units); k_whole); (intro v' h' tk' hv' F' N'); (subst hv'); (try dsimp only); (try k_sweep)))
local macro_rules | `(tactic| walk_at "subscriptTail") => `(tactic| (k_here; (with_reducible show wpAny _ _ (subscriptTail _ (Expr.Slice _ _ none _) (Value.str _ _) (Value.ref _)) _ _ _); (with_reducible rename Fr _ _ _ _ => F'); (with_reducible rename News _ _ _ _ => N'); (first
  | ((with_reducible show wpAny _ _ (subscriptTail _ (Expr.Slice none (some _) none _) _ _) _ _ _); (refine slice_strN_ns (hsz := ?hsz) (s := ⟨_, _, _, _, _⟩) F' N' ?_))
  | ((with_reducible show wpAny _ _ (subscriptTail _ (Expr.Slice (some _) none none _) _ _) _ _ _); (refine slice_strN_sn (hsz := ?hsz) (s := ⟨_, _, _, _, _⟩) F' N' ?_))
  | ((with_reducible show wpAny _ _ (subscriptTail _ (Expr.Slice (some _) (some _) none _) _ _) _ _ _); (refine slice_strN_ss (hsz := ?hsz) (s := ⟨_, _, _, _, _⟩) F' N' ?_))); (case hsz => (refine Nat.le_trans (by assumption) ?_; decide)); (intro h' t' k' F' N'); (try k_sweep)))

theorem sp_get_sep (w : World) (x : Str) (t : Tok) : Sp 2 w 108 [.str x t] (fun _ _ v => ∃ t', v = .str (Str.ofString "/") t') := by
  w_top off
  k_with_none
  unfold Sp KK prg
  k_fill
  intro mean mg mb dp un gd cn cs a ccd cl outer A₀ base h₀ L m s Q E B F X T hck hd hu hret
  refine' enter (binds := [(Str.ofString "path", .str x t)]) B F X T rfl rfl hck ?k6 ?k7 ?k8 ?k9 ?kB ?_ ?c2 ?c3 ?c4 ?c5
  (case k6 => k_is)
  (case k7 => k_is)
  (case k8 => dsimp only [ktrTop]; omega)
  (case k9 => exact BindsTo.of_eq rfl)
  (case kB => exact locs rfl)
  (case c2 => rfl)
  (case c3 => rfl)
  (case c4 => rfl)
  (case c5 => decide)
  clear F T X B
  intro L' h' F' N' B' X' T'
  (try dsimp only)
  (try k_fold)
  k_steps
  all_goals exact hret _ _ _ (Fr.keep (by assumption)) ⟨_, rfl⟩

/-- what splitroot tells: the root and the rest -/
def rootP (x : Str) : Str × Str :=
  if (Txt.slice x none (some 1) != Str.ofString "/") = true then (Str.ofString "", x)
  else if (Txt.slice x (some 1) (some 2) != Str.ofString "/") = true then (Str.ofString "/", Txt.slice x (some 1) none)
  else if (Txt.slice x (some 2) (some 3) == Str.ofString "/") = true then (Str.ofString "/", Txt.slice x (some 1) none)
  else (Txt.slice x none (some 2), Txt.slice x (some 2) none)
theorem rootP_1 {x : Str} (h : (Txt.slice x none (some 1) != Str.ofString "/") = true) : rootP x = (Str.ofString "", x) := by
  unfold rootP; rw [if_pos h]
theorem rootP_2 {x : Str} (h : (Txt.slice x none (some 1) != Str.ofString "/") = false) (h2 : (Txt.slice x (some 1) (some 2) != Str.ofString "/") = true) : rootP x = (Str.ofString "/", Txt.slice x (some 1) none) := by
  unfold rootP; rw [if_neg (by rw [h]; decide), if_pos h2]
theorem rootP_3 {x : Str} (h : (Txt.slice x none (some 1) != Str.ofString "/") = false) (h2 : (Txt.slice x (some 1) (some 2) != Str.ofString "/") = false) (h3 : (Txt.slice x (some 2) (some 3) == Str.ofString "/") = true) : rootP x = (Str.ofString "/", Txt.slice x (some 1) none) := by
  unfold rootP; rw [if_neg (by rw [h]; decide), if_neg (by rw [h2]; decide), if_pos h3]
theorem rootP_4 {x : Str} (h : (Txt.slice x none (some 1) != Str.ofString "/") = false) (h2 : (Txt.slice x (some 1) (some 2) != Str.ofString "/") = false) (h3 : (Txt.slice x (some 2) (some 3) == Str.ofString "/") = false) : rootP x = (Txt.slice x none (some 2), Txt.slice x (some 2) none) := by
  unfold rootP; rw [if_neg (by rw [h]; decide), if_neg (by rw [h2]; decide), if_neg (by rw [h3]; decide)]
theorem rootP_len {x : Str} (h : x.length ≤ 1000) : (rootP x).1.length ≤ 1000 ∧ (rootP x).2.length ≤ 1000 := by
  unfold rootP
  have h1 := Txt.slice_le x (some 1) none
  have h2 := Txt.slice_le x (some 2) none
  have h3 := Txt.slice_le x none (some 2)
  have h4 : (Str.ofString "").length ≤ 1000 := by decide
  have h5 : (Str.ofString "/").length ≤ 1000 := by decide
  (repeat' split) <;> dsimp only <;> omega
/-- the tuple that splitroot hands back -/
def RootO (x : Str) (o : Obj) : Prop := ∃ ra rb t1 t2 t3, rootP x = (ra, rb) ∧ ra.length ≤ 1000 ∧ rb.length ≤ 1000 ∧ o = { cls := .type "tuple", data := .seq #[.str (Str.ofString "") t1, .str ra t2, .str rb t3] }
theorem RootO.mk {x a b : Str} {t1 t2 t3 : Tok} (hx : x.length ≤ 1000) (e : rootP x = (a, b)) : RootO x { cls := .type "tuple", data := .seq #[.str (Str.ofString "") t1, .str a t2, .str b t3] } := by
  have := rootP_len hx
  rw [e] at this
  exact ⟨a, b, t1, t2, t3, e, this.1, this.2, rfl⟩
theorem sp_splitroot (w : World) (x : Str) (t : Tok) (hx : x.length ≤ 1000) : Sp 4 w 122 [.str x t] (fun h h' v => ∃ D o, v = .ref D ∧ h.get? D = none ∧ h'.get? D = some o ∧ RootO x o) := by
  w_top off
  k_with_none
  unfold Sp KK prg
  k_fill
  intro mean mg mb dp un gd cn cs a ccd cl outer A₀ base h₀ L m s Q E B F X T hck hd hu hret
  refine' enter (binds := [(Str.ofString "p", .str x t)]) B F X T rfl rfl hck ?k6 ?k7 ?k8 ?k9 ?kB ?_ ?c2 ?c3 ?c4 ?c5
  (case k6 => k_is)
  (case k7 => k_is)
  (case k8 => dsimp only [ktrTop]; omega)
  (case k9 => exact BindsTo.of_eq rfl)
  (case kB => exact locs rfl)
  (case c2 => rfl)
  (case c3 => rfl)
  (case c4 => rfl)
  (case c5 => decide)
  clear F T X B
  intro L' h' F' N' B' X' T'
  (try dsimp only)
  (try k_fold)
  k_steps
  all_goals (with_reducible rename News _ _ _ _ => NN)
  all_goals (refine hret _ _ _ (Fr.keep (by assumption)) ⟨_, _, rfl, News.fresh NN (.head _), News.get NN (.head _), RootO.mk hx ?_⟩)
  all_goals (first | exact rootP_1 (by assumption) | exact rootP_2 (by assumption) (by assumption) | exact rootP_3 (by assumption) (by assumption) (by assumption) | exact rootP_4 (by assumption) (by assumption) (by assumption))

-- part F3
local macro_rules | `(tactic| walk_at "call ref") => `(tactic| (k_here; k_dflt (refine' use_v (sp_get_sep _ _ _) ?k1 ?k2 ?k3 ?k4 ?k5 ?k6 ?k7 ?k8 ?_; (case k1 | k2 | k3 | k4 | k5 => k_asm); (case k6 => first | exact rfl | assumption); (case k7 => ktr_room); (case k8 => ktr_units); k_whole); (intro v' h' tk' hv' F' N'); (obtain ⟨tz', hv'⟩ := hv'); (subst hv'); (try dsimp only); (try k_sweep)))

/-- what join tells of two texts -/
def joinP (x y : Str) : Str :=
  if Txt.startswith y (Str.ofString "/") = true then y
  else if x.length = 0 then y
  else if Txt.endswith x (Str.ofString "/") = true then x ++ y
  else x ++ (Str.ofString "/" ++ y)
theorem joinP_1 {x y : Str} (h : Txt.startswith y (Str.ofString "/") = true) : y = joinP x y := by unfold joinP; rw [if_pos h]
theorem joinP_2 {x y : Str} (h : Txt.startswith y (Str.ofString "/") = false) (h2 : (x.length : Int) = 0) : y = joinP x y := by unfold joinP; rw [if_neg (by rw [h]; decide), if_pos (by omega)]
theorem joinP_3 {x y : Str} (h : Txt.startswith y (Str.ofString "/") = false) (h2 : (x.length : Int) ≠ 0) (h3 : Txt.endswith x (Str.ofString "/") = true) : x ++ y = joinP x y := by
  unfold joinP; rw [if_neg (by rw [h]; decide), if_neg (by omega), if_pos h3]
theorem joinP_4 {x y : Str} (h : Txt.startswith y (Str.ofString "/") = false) (h2 : (x.length : Int) ≠ 0) (h3 : Txt.endswith x (Str.ofString "/") = false) : x ++ (Str.ofString "/" ++ y) = joinP x y := by
  unfold joinP; rw [if_neg (by rw [h]; decide), if_neg (by omega), if_neg (by rw [h3]; decide)]
theorem sp_join (w : World) (x y : Str) (t u : Tok) (hx : x.length ≤ 500) (hy : y.length ≤ 500) : Sp 4 w 115 [.str x t, .str y u] (fun _ _ v => ∃ t', v = .str (joinP x y) t') := by
  w_top off
  k_with_none
  unfold Sp KK prg
  k_fill
  intro mean mg mb dp un gd cn cs a ccd cl outer A₀ base h₀ L m s Q E B F X T hck hd hu hret
  refine' enterR (binds := fun D => [(Str.ofString "a", .str x t), (Str.ofString "p", .ref D)]) (vs := [.str y u]) B F X T rfl rfl hck ?k6 ?k7 ?k8 ?kP ?kG ?kB ?_ ?c2 ?c3 ?c4 ?c5
  (case k6 => k_is)
  (case k7 => k_is)
  (case k8 => dsimp only [ktrTop]; omega)
  (case kP => exact rfl)
  (case kG => exact fun _ => rfl)
  (case kB => exact fun _ => locs rfl)
  (case c2 => rfl)
  (case c3 => rfl)
  (case c4 => rfl)
  (case c5 => decide)
  clear F T X B
  intro D' L' h' F' N' B' X' T'
  (try dsimp only)
  (try k_fold)
  k_steps
  all_goals (refine hret _ _ _ (Fr.keep (by assumption)) ⟨_, congrArg (fun z => Value.str z _) ?_⟩)
  all_goals (first | exact joinP_1 (by assumption) | exact joinP_2 (by assumption) (by assumption) | exact joinP_3 (by assumption) (by assumption) (by assumption) | exact joinP_4 (by assumption) (by assumption) (by assumption))

-- part F4
/-- one turn of normpath's loop -/
def pushP (r : Str) (zs : List Str) (c : Str) : List Str :=
  if c.length = 0 ∨ c = Str.ofString "." then zs
  else if c ≠ Str.ofString ".." ∨ (r.length = 0 ∧ zs = []) ∨ zs.getLast? = some (Str.ofString "..") then zs ++ [c]
  else zs.dropLast
theorem split_len {l : List (Str × Tok)} {x : Str} (e : l.map (·.1) = Txt.split x (Str.ofString "/")) (h : x.length ≤ 1000) : l.length ≤ 2000 := by
  have h1 := len_le_of_split e
  omega
theorem push_0 {r c : Str} {zs : List Str} (h : (c.length : Int) = 0) : zs = pushP r zs c := by
  unfold pushP; rw [if_pos (.inl (by omega))]
theorem push_1 {r c : Str} {zs : List Str} (h : (c == Str.ofString ".") = true) : zs = pushP r zs c := by
  unfold pushP; rw [if_pos (.inr (eq_of_beq h))]
theorem ne_of_beq {a b : Str} (h : (a == b) = false) : a ≠ b := by intro e; subst e; rw [beq_self_eq_true] at h; cases h
theorem push_a {r c : Str} {zs : List Str} (h : (c.length : Int) ≠ 0) (h1 : (c == Str.ofString ".") = false) (h2 : c ≠ Str.ofString ".." ∨ (r.length = 0 ∧ zs = []) ∨ zs.getLast? = some (Str.ofString "..")) : zs ++ [c] = pushP r zs c := by
  unfold pushP
  rw [if_neg (by rintro (q | q); exact h (by omega); exact ne_of_beq h1 q), if_pos h2]
theorem push_2 {r c : Str} {tc : Tok} {zs : List (Str × Tok)} (h : (c.length : Int) ≠ 0) (h1 : (c == Str.ofString ".") = false) (h2 : (c != Str.ofString "..") = true) : (zs ++ [(c, tc)]).map (·.1) = pushP r (zs.map (·.1)) c := by
  rw [← push_a h h1 (.inl (by intro e; subst e; revert h2; decide))]; simp
theorem push_3 {r c : Str} {tc : Tok} (h : (c.length : Int) ≠ 0) (h1 : (c == Str.ofString ".") = false) (h2 : (r.length : Int) = 0) : (([] : List (Str × Tok)) ++ [(c, tc)]).map (·.1) = pushP r (([] : List (Str × Tok)).map (·.1)) c := by
  exact push_a (zs := []) h h1 (.inr (.inl ⟨by omega, rfl⟩))
theorem push_4 {r c : Str} (h : (c.length : Int) ≠ 0) (h1 : (c == Str.ofString ".") = false) (h2 : (c != Str.ofString "..") = false) (h3 : (r.length : Int) ≠ 0) : ([] : List (Str × Tok)).map (·.1) = pushP r (([] : List (Str × Tok)).map (·.1)) c := by
  unfold pushP
  rw [if_neg (by rintro (q | q); exact h (by omega); exact ne_of_beq h1 q), if_neg]
  · rfl
  · rintro (q | q | q)
    · rw [bne_eq_false_iff_eq] at h2; exact q h2
    · exact h3 (by omega)
    · cases q
theorem push_5 {r c z : Str} {tc tz : Tok} {zs : List (Str × Tok)} (h : (c.length : Int) ≠ 0) (h1 : (c == Str.ofString ".") = false) (h2 : (z == Str.ofString "..") = true) : ((zs ++ [(z, tz)]) ++ [(c, tc)]).map (·.1) = pushP r ((zs ++ [(z, tz)]).map (·.1)) c := by
  rw [← push_a h h1 (.inr (.inr (by rw [List.map_append, eq_of_beq h2]; simp)))]; simp
theorem push_6 {r c z : Str} {tz : Tok} {zs : List (Str × Tok)} (h : (c.length : Int) ≠ 0) (h1 : (c == Str.ofString ".") = false) (h2 : (c != Str.ofString "..") = false) (h3 : (z == Str.ofString "..") = false) : zs.map (·.1) = pushP r ((zs ++ [(z, tz)]).map (·.1)) c := by
  unfold pushP
  rw [if_neg (by rintro (q | q); exact h (by omega); exact ne_of_beq h1 q), if_neg]
  · simp
  · rintro (q | q | q)
    · rw [bne_eq_false_iff_eq] at h2; exact q h2
    · simp at q
    · rw [List.map_append] at q; simp at q; exact ne_of_beq h3 q
/-- what normpath tells -/
def normP (x : Str) : Str :=
  if x.length = 0 then Str.ofString "."
  else
    let p := (rootP x).1 ++ Str.join (Str.ofString "/") ((Txt.split (rootP x).2 (Str.ofString "/")).foldl (pushP (rootP x).1) [])
    if p.length = 0 then Str.ofString "." else p
theorem normP_0 {x : Str} (h : (x.length : Int) = 0) : Str.ofString "." = normP x := by unfold normP; rw [if_pos (by omega)]
theorem normP_1 {x j : Str} {zs : List (Str × Tok)} {l : List (Str × Tok)} {ra rb : Str} (h : (x.length : Int) ≠ 0) (hr : rootP x = (ra, rb)) (hl : l.map (·.1) = Txt.split rb (Str.ofString "/")) (hz : zs.map (·.1) = (l.map (·.1)).foldl (pushP (rootP x).1) []) (hj : j = Str.join (Str.ofString "/") (zs.map (·.1)))
    (h2 : ((ra ++ j).length : Int) ≠ 0) : ra ++ j = normP x := by
  subst hj
  unfold normP
  rw [if_neg (by omega)]
  rw [hz, hl, hr] at *
  dsimp only at *
  rw [if_neg (by omega)]
theorem normP_2 {x j : Str} {zs : List (Str × Tok)} {l : List (Str × Tok)} {ra rb : Str} (h : (x.length : Int) ≠ 0) (hr : rootP x = (ra, rb)) (hl : l.map (·.1) = Txt.split rb (Str.ofString "/")) (hz : zs.map (·.1) = (l.map (·.1)).foldl (pushP (rootP x).1) []) (hj : j = Str.join (Str.ofString "/") (zs.map (·.1)))
    (h2 : ((ra ++ j).length : Int) = 0) : Str.ofString "." = normP x := by
  subst hj
  unfold normP
  rw [if_neg (by omega)]
  rw [hz, hl, hr] at *
  dsimp only at *
  rw [if_pos (by omega)]
def wt (l : List Str) : Nat := (l.map (·.length)).sum + l.length
theorem wt_append (a b : List Str) : wt (a ++ b) = wt a + wt b := by unfold wt; simp; omega
theorem wt_dropLast (l : List Str) : wt l.dropLast ≤ wt l := by
  rcases List.eq_nil_or_concat l with rfl | ⟨a, b, rfl⟩
  · exact Nat.le_refl _
  · rw [List.concat_eq_append, List.dropLast_concat, wt_append]; omega
theorem wt_push (r : Str) (zs : List Str) (c : Str) : wt (pushP r zs c) ≤ wt zs + (c.length + 1) := by
  unfold pushP
  have h1 := wt_append zs [c]
  have h2 : wt [c] = c.length + 1 := by simp [wt]
  have h3 := wt_dropLast zs
  (repeat' split) <;> omega
theorem wt_fold (r : Str) : ∀ (cs zs : List Str), wt (cs.foldl (pushP r) zs) ≤ wt zs + wt cs
  | [], zs => by simp [wt]
  | c :: cs, zs => by
    have h1 := wt_fold r cs (pushP r zs c)
    have h2 := wt_push r zs c
    have h3 : wt (c :: cs) = (c.length + 1) + wt cs := by unfold wt; simp; omega
    rw [List.foldl_cons]
    omega
theorem norm_wt {zs l : List (Str × Tok)} {r rb : Str} (hl : l.map (·.1) = Txt.split rb (Str.ofString "/")) (hb : rb.length ≤ 1000) (hz : zs.map (·.1) = (l.map (·.1)).foldl (pushP r) []) : ((zs.map (·.1)).map (·.length)).sum + (zs.map (·.1)).length ≤ 2000 := by
  have h1 := split_weight rb (Str.ofString "/") (by decide)
  rw [← hl] at h1
  have h2 := wt_fold r (l.map (·.1)) []
  rw [← hz] at h2
  unfold wt at h2
  simp only [List.map_nil, List.sum_nil, List.length_nil] at h2
  omega
local macro_rules | `(tactic| walk_at "call ref") => `(tactic| (k_here; k_dflt (refine' use_t (sp_splitroot _ _ _ (by assumption)) ?k1 ?k2 ?k3 ?k4 ?k5 ?k6 ?k7 ?k8 ?_; (case k1 | k2 | k3 | k4 | k5 => k_asm); (case k6 => first | exact rfl | assumption); (case k7 => ktr_room); (case k8 => ktr_units); k_whole); (intro D' o' h' tk' hv' F' N' l1); (obtain ⟨ra', rb', t1', t2', t3', hre', hra', hrb', hv'⟩ := hv'); (subst hv'); (clear l1); (try dsimp only); (try k_sweep)))
local macro_rules | `(tactic| walk_at "call builtin:str.split") => `(tactic| (k_here; (with_reducible show wpAny _ _ (call (Value.builtin "str.split") [Value.str _ _, Value.str _ _]) _ _ _); (refine KSpl.split1 (by k_asm) (by k_asm) (by decide) ?_ (by (refine Nat.le_trans (Nat.add_le_add_right (by assumption) 2) ?_; decide))); (intro D' l' h' k' e' a' F' N' l1); (try k_lt l1); (try k_sweep)))
local macro_rules | `(tactic| walk_at "call builtin:list.append") => `(tactic| (k_here; k_dflt (refine' append_S ?k1 ?k2 ?k3 ?k4 ?_; (case k1 | k2 => k_asm); (case k3 | k4 => assumption); k_whole); (intro h' F' N'); (try k_sweep)))
local macro_rules | `(tactic| walk_at "call builtin:list.pop") => `(tactic| (k_here; k_dflt (refine' pop_S ?k1 ?k2 ?k3 ?k4 ?_; (case k1 | k2 => k_asm); (case k3 | k4 => assumption); k_whole); (intro h' F' N'); (try k_sweep)))
local macro_rules | `(tactic| walk_at "truthy ref") => `(tactic| (k_here; k_dflt (first | (refine' truthy_S1 ?k1 ?k2 ?k3 ?_; (case k1 => k_asm); (case k2 => k_mem); (case k3 => assumption); k_whole) | (refine' truthy_S0 ?k1 ?k2 ?_; (case k1 => k_asm); (case k2 => k_mem); k_whole)); (intro tk')))
local macro_rules | `(tactic| walk_at "subscriptTail") => `(tactic| (k_here; (with_reducible show wpAny _ _ (subscriptTail _ _ (Value.ref _) (Value.int _ _)) _ _ _); k_dflt (refine' last_S ?k1 ?k2 ?_; (case k1 => k_asm); (case k2 => k_mem); k_whole)))
local macro_rules | `(tactic| walk_at "call builtin:str.join") => `(tactic| (k_here; (with_reducible show wpAny _ _ (call (Value.builtin "str.join") [Value.str _ _, Value.ref _]) _ _ _); k_dflt (refine' join_S ?k1 ?k2 ?k3 ?k4 ?_; (case k1 => k_asm); (case k2 => k_mem); (case k3 => decide); (case k4 => assumption); k_whole); (intro j' t' k' hj' hjl')))
local macro_rules | `(tactic| walk_at "truthy str") => `(tactic| (k_here; (with_reducible show wpAny _ _ (PySem.truthy (Value.str _ _)) _ _ _); (refine truthy_str_S (by first | omega | (refine Nat.le_trans (by assumption) ?_; decide)) ?_); intro tk'))

theorem sp_normpath (w : World) (x : Str) (t : Tok) (hx : x.length ≤ 1000) : Sp 6 w 129 [.str x t] (fun _ _ v => ∃ t', v = .str (normP x) t') := by
  w_top off
  k_with_none
  unfold Sp KK prg
  k_fill
  intro mean mg mb dp un gd cn cs a ccd cl outer A₀ base h₀ L m s Q E B F X T hck hd hu hret
  refine' enter (binds := [(Str.ofString "path", .str x t)]) B F X T rfl rfl hck ?k6 ?k7 ?k8 ?k9 ?kB ?_ ?c2 ?c3 ?c4 ?c5
  (case k6 => k_is)
  (case k7 => k_is)
  (case k8 => dsimp only [ktrTop]; omega)
  (case k9 => exact BindsTo.of_eq rfl)
  (case kB => exact locs rfl)
  (case c2 => rfl)
  (case c3 => rfl)
  (case c4 => rfl)
  (case c5 => decide)
  clear F T X B
  intro L' h' F' N' B' X' T'
  (try dsimp only)
  (try k_fold)
  k_steps
  · rename News _ _ _ _ => NN
    rename Fr _ _ _ _ => FF
    rename List.map _ _ = Txt.split _ _ => hspl
    rename rootP _ = _ => hre
    refine' iter_push (s := ⟨_, _, _, _, _⟩) (pushP (rootP x).1) ?g1 FF NN ?g2 ?g3 ?g4 ?g5
    (case g1 => rfl)
    (case g2 => k_ne)
    (case g3 => exact split_len hspl (by assumption))
    (case g4 =>
      clear NN FF
      intro c tc zs n h tk own hc hzl hoff F' N'
      have hcl : c.length ≤ 1000 := by rw [hspl] at hc; exact Nat.le_trans (part_short hc) (by assumption)
      rw [hre]
      dsimp only
      clear hc hre hspl
      rcases List.eq_nil_or_concat zs with rfl | ⟨zs', ⟨z, tz⟩, rfl⟩
      · k_steps
        all_goals first
          | exact ⟨[], _, _, _, _, rfl, push_0 (by assumption), Nat.zero_le _, by assumption, by assumption⟩
          | exact ⟨[], _, _, _, _, rfl, push_1 (by assumption), Nat.zero_le _, by assumption, by assumption⟩
          | exact ⟨_, _, _, _, _, rfl, push_2 (by assumption) (by assumption) (by assumption), Nat.le_refl _, by assumption, by assumption⟩
          | exact ⟨_, _, _, _, _, rfl, push_3 (by assumption) (by assumption) (by assumption), Nat.le_refl _, by assumption, by assumption⟩
          | exact ⟨[], _, _, _, _, rfl, push_4 (by assumption) (by assumption) (by assumption) (by assumption), Nat.zero_le _, by assumption, by assumption⟩
      · rw [List.concat_eq_append] at N' hzl ⊢
        k_steps
        all_goals first
          | exact ⟨zs' ++ [(z, tz)], _, _, _, _, rfl, push_0 (by assumption), Nat.le_succ _, by assumption, by assumption⟩
          | exact ⟨zs' ++ [(z, tz)], _, _, _, _, rfl, push_1 (by assumption), Nat.le_succ _, by assumption, by assumption⟩
          | exact ⟨_, _, _, _, _, rfl, push_2 (by assumption) (by assumption) (by assumption), by simp, by assumption, by assumption⟩
          | exact ⟨_, _, _, _, _, rfl, push_5 (by assumption) (by assumption) (by assumption), by simp, by assumption, by assumption⟩
          | exact ⟨zs', _, _, _, _, rfl, push_6 (by assumption) (by assumption) (by assumption) (by assumption), by simp; omega, by assumption, by assumption⟩)
    (case g5 =>
      clear NN FF
      intro zs n h tk u hzs hzl F' N'
      have hwt := norm_wt hspl (by assumption) hzs
      k_steps
      · refine hret _ _ _ (Fr.keep (by assumption)) ⟨_, congrArg (fun z => Value.str z _) ?_⟩
        exact normP_1 (by assumption) hre hspl hzs (by assumption) (by assumption)
      · refine hret _ _ _ (Fr.keep (by assumption)) ⟨_, congrArg (fun z => Value.str z _) ?_⟩
        exact normP_2 (by assumption) hre hspl hzs (by assumption) (by assumption))
  · refine hret _ _ _ (Fr.keep (by assumption)) ⟨_, congrArg (fun z => Value.str z _) ?_⟩
    exact normP_0 (by assumption)

end Mine
end
-- part F5
section
open PySem PySem.W PySem.Calls PyProof.Rows
namespace Mine

def namesL : List Str := [Str.ofString "a", Str.ofString "...", Str.ofString ".a", Str.ofString "a.", Str.ofString "..a", Str.ofString "-", Str.ofString " "]
def dotsL : List Str := [Str.ofString ".", Str.ofString "", Str.ofString ".//"]
/-- what _law_step tells -/
def stepP (x k : Int) : Str :=
  if x.fmod 5 < 2 then namesL.getD k.toNat (Str.ofString "")
  else if x.fmod 5 < 4 then Str.ofString ".." else dotsL.getD ((x.fdiv 5).fmod 3).toNat (Str.ofString "")
theorem step_1 {x k i : Int} {s : Str} (h : x.fmod 5 < 2) (e : k = i) (hs : s = namesL.getD i.toNat (Str.ofString "")) : s = stepP x k := by
  unfold stepP; rw [if_pos h, e, hs]
theorem step_2 {x k : Int} (h : ¬ x.fmod 5 < 2) (h2 : x.fmod 5 < 4) : Str.ofString ".." = stepP x k := by
  unfold stepP; rw [if_neg h, if_pos h2]
theorem step_3 {x k i : Int} {s : Str} (h : ¬ x.fmod 5 < 2) (h2 : ¬ x.fmod 5 < 4) (e : (x.fdiv 5).fmod 3 = i) (hs : s = dotsL.getD i.toNat (Str.ofString "")) : s = stepP x k := by
  unfold stepP; rw [if_neg h, if_neg h2, e, hs]
theorem sp_step (w : World) (x k : Int) (t u : Tok) (h0 : 0 ≤ k) (h7 : k < 7) : Sp 2 w 136 [.int x t, .int k u] (fun _ _ v => ∃ t', v = .str (stepP x k) t') := by
  w_top off
  k_with_none
  unfold Sp KK prg
  k_fill
  intro mean mg mb dp un gd cn cs a ccd cl outer A₀ base h₀ L m s Q E B F X T hck hd hu hret
  refine' enter (binds := [(Str.ofString "x", .int x t), (Str.ofString "k", .int k u)]) B F X T rfl rfl hck ?k6 ?k7 ?k8 ?k9 ?kB ?_ ?c2 ?c3 ?c4 ?c5
  (case k6 => k_is)
  (case k7 => k_is)
  (case k8 => dsimp only [ktrTop]; omega)
  (case k9 => exact BindsTo.of_eq rfl)
  (case kB => exact locs rfl)
  (case c2 => rfl)
  (case c3 => rfl)
  (case c4 => rfl)
  (case c5 => decide)
  clear F T X B
  intro L' h' F' N' B' X' T'
  (try dsimp only)
  (try k_fold)
  k_steps
  all_goals refine hret _ _ _ (Fr.keep (by assumption)) ⟨_, congrArg (fun z => Value.str z _) ?_⟩
  all_goals first
    | exact step_1 (by assumption) (by assumption) (by rfl)
    | exact step_2 (by assumption) (by assumption)
    | exact step_3 (by assumption) (by assumption) (by assumption) (by rfl)
/-- what _law_mate tells: the total so far, the place, what is left -/
def mateG : Int → Int → List Int → Int
  | _, j, [] => j
  | t, j, r :: rs => if t + r = 0 then j else mateG (t + r) (j + 1) rs
theorem mate_y {t j r : Int} {rs : List Int} (h : t + r = 0) : mateG t j (r :: rs) = j := by rw [mateG, if_pos h]
theorem mate_n {t j r : Int} {rs : List Int} (h : ¬ t + r = 0) : mateG t j (r :: rs) = mateG (t + r) (j + 1) rs := by rw [mateG, if_neg h]
def Ints7 (l : Addr) (rs : List Int) (h : Heap) : Prop := ∃ vs, h.IsList l vs.toArray ∧ IntsAre vs rs
theorem mate_s0 {rs : List Int} {k : Int} : mateG 0 k (rs.drop k.toNat) = mateG 0 (k + (([] : List Int).length : Int)) (rs.drop (k.toNat + ([] : List Int).length)) := by simp
theorem drop_at {rs : List Int} {i : Nat} (h : i < rs.length) : rs.drop i = rs.getD i 0 :: rs.drop (i + 1) := by
  rw [List.drop_eq_getElem_cons h, List.getD_eq_getElem?_getD, List.getElem?_eq_getElem h]; rfl
theorem mate_at {rs pre : List Int} {k n t : Int} (h0 : 0 ≤ k) (e : n = k + (pre.length : Int)) (hl : pre.length < ((rs.length : Int) - k).toNat) : rs.drop (k.toNat + pre.length) = rs.getD n.toNat 0 :: rs.drop (k.toNat + (pre.length + 1)) := by
  have e2 : n.toNat = k.toNat + pre.length := by omega
  rw [e2, drop_at (by omega)]; rfl
theorem mate_s1 {rs pre : List Int} {k n t : Int} (h0 : 0 ≤ k) (e : n = k + (pre.length : Int)) (hl : pre.length < ((rs.length : Int) - k).toNat) (hi : mateG 0 k (rs.drop k.toNat) = mateG t (k + (pre.length : Int)) (rs.drop (k.toNat + pre.length)))
    (hn : ¬ t + rs.getD n.toNat 0 = 0) : mateG 0 k (rs.drop k.toNat) = mateG (t + rs.getD n.toNat 0) (k + ((pre ++ [n]).length : Int)) (rs.drop (k.toNat + (pre ++ [n]).length)) := by
  rw [hi, mate_at (t := t) h0 e hl, mate_n hn]
  simp [Int.add_assoc]
theorem mate_e1 {rs pre : List Int} {k n t : Int} (h0 : 0 ≤ k) (e : n = k + (pre.length : Int)) (hl : pre.length < ((rs.length : Int) - k).toNat) (hi : mateG 0 k (rs.drop k.toNat) = mateG t (k + (pre.length : Int)) (rs.drop (k.toNat + pre.length)))
    (hn : t + rs.getD n.toNat 0 = 0) : n = mateG 0 k (rs.drop k.toNat) := by
  rw [hi, mate_at (t := t) h0 e hl, mate_y hn, e]
theorem mate_e2 {rs q : List Int} {k t : Int} (h0 : 0 ≤ k) (h7 : k < 7) (hl : rs.length = 7) (hi : mateG 0 k (rs.drop k.toNat) = mateG t (k + (q.length : Int)) (rs.drop (k.toNat + q.length))) (hq : q.length = ((rs.length : Int) - k).toNat) : (rs.length : Int) = mateG 0 k (rs.drop k.toNat) := by
  rw [hi, List.drop_eq_nil_of_le (by omega), mateG]
  omega
theorem sp_mate (w : World) (l : Addr) (rs : List Int) (k : Int) (u : Tok) (h0 : 0 ≤ k) (h7 : k < 7) (hlen : rs.length = 7) : SpH 2 w 143 [.ref l, .int k u] (Ints7 l rs) (fun h _ v => ∃ t', v = .int (mateG 0 k (rs.drop k.toNat)) t') := by
  w_top off
  k_with_none
  unfold SpH KK prg
  k_fill
  intro mean mg mb dp un gd cn cs a ccd cl outer A₀ base h₀ L m s Q E B F X T hck hd hu hC hret
  refine' enter (binds := [(Str.ofString "rises", .ref l), (Str.ofString "k", .int k u)]) B F X T rfl rfl hck ?k6 ?k7 ?k8 ?k9 ?kB ?_ ?c2 ?c3 ?c4 ?c5
  (case k6 => k_is)
  (case k7 => k_is)
  (case k8 => dsimp only [ktrTop]; omega)
  (case k9 => exact BindsTo.of_eq rfl)
  (case kB => exact locs rfl)
  (case c2 => rfl)
  (case c3 => rfl)
  (case c4 => rfl)
  (case c5 => decide)
  clear F T X B
  intro L' h' F' N' B' X' T'
  (try dsimp only)
  (try k_fold)
  obtain ⟨vs, hl, hI⟩ := hC
  (k_with "pyIter ref" => k_state (fun pre total => mateG 0 k (rs.drop k.toNat) = mateG total (k + (pre.length : Int)) (rs.drop (k.toNat + pre.length))) "total")
  (k_with "state" => first | exact mate_s0 | exact mate_s1 (by assumption) (by assumption) (by assumption) (by assumption) (by assumption))
  k_steps
  · refine hret _ _ _ (Fr.keep (by assumption)) ⟨_, congrArg (fun z => Value.int z _) ?_⟩
    exact mate_e1 h0 (by assumption) (by assumption) (by assumption) (by assumption)
  · refine hret _ _ _ (Fr.keep (by assumption)) ⟨_, congrArg (fun z => Value.int z _) ?_⟩
    exact mate_e2 h0 h7 hlen (by assumption) (by rw [rangeKs_length])
end Mine
end
-- part F6
section
open PySem PySem.W PySem.Calls PyProof.Rows
namespace Mine

theorem le_seven {i j : Int} {n : Nat} (h0 : 0 ≤ i) (hij : i < j) (h7 : j ≤ 7) (h : n ≤ (j - i).toNat) : n ≤ 7 := by omega
theorem joinP_le (x y : Str) : (joinP x y).length ≤ x.length + y.length + 1 := by
  unfold joinP
  have h1 := Str.length_append x y
  have h2 := Str.length_append x (Str.ofString "/" ++ y)
  have h3 := Str.length_append (Str.ofString "/") y
  have h4 : (Str.ofString "/").length = 1 := by decide
  (repeat' split) <;> omega
theorem way_le : ∀ (l : List Str) (a : Str), (∀ p ∈ l, p.length ≤ 3) → (l.foldl joinP a).length ≤ a.length + 4 * l.length
  | [], a, _ => by simp
  | c :: r, a, h => by
    have h1 := way_le r (joinP a c) fun p hp => h p (.tail _ hp)
    have h2 := joinP_le a c
    have h3 := h c (.head _)
    rw [List.foldl_cons, List.length_cons]
    omega
theorem ups_y {ys : List Str} {u : Nat} {y : Str} (h : ys[((u : Int)).toNat]? = some y) (e : (y == Str.ofString "..") = true) : ys.getD u (Str.ofString "") = Str.ofString ".." := by
  have h' : ys[u]? = some y := h
  rw [List.getD_eq_getElem?_getD, h']; exact eq_of_beq e
theorem ups_n {ys : List Str} {n u : Nat} {y : Str} (h : ys[((u : Int)).toNat]? = some y) (e : (y == Str.ofString "..") = false) : u = n ∨ ys.getD u (Str.ofString "") ≠ Str.ofString ".." := by
  have h' : ys[u]? = some y := h
  right
  rw [List.getD_eq_getElem?_getD, h']; exact ne_of_beq e
theorem parts_len {x : Str} {pt : List (Str × Tok)} (e : pt.map (·.1) = partsP x) (h : x.length ≤ 1000) : pt.length ≤ 1100 := by
  have h1 := congrArg List.length e
  rw [List.length_map] at h1
  unfold partsP at h1
  split at h1
  · have : pt.length = 0 := h1
    omega
  · have h2 := split_le x (Str.ofString "/")
    omega
theorem upsP_le (ys : List Str) : upsP ys ≤ ys.length := by
  unfold upsP
  have h := congrArg List.length (List.takeWhile_append_dropWhile (p := (· == Str.ofString "..")) (l := ys))
  rw [List.length_append] at h
  omega
/-- the test of the places' comprehension -/
def placeG (st pt : List (Str × Tok)) (up : Nat) (l : List Int) (k : Int) : List Int :=
  if (((pt.drop up).map (·.1)).any (· == (st.map (·.1)).getD k.toNat (Str.ofString ""))) = true then l ++ [k] else l
theorem placeG_grows (st pt : List (Str × Tok)) (up : Nat) : KPfGrows (placeG st pt up) := by
  intro l k
  unfold placeG
  split <;> simp
theorem get_getD {ys : List Str} {n : Nat} {y : Str} (h : ys[n]? = some y) : ys.getD n (Str.ofString "") = y := by
  rw [List.getD_eq_getElem?_getD, h]; rfl
theorem strValues_snoc (zt : List (Str × Tok)) (y : Str) (t : Tok) : strValues zt ++ [Value.str y t] = strValues (zt ++ [(y, t)]) := by simp [strValues]
theorem names_step {ss : List Str} {zt : List (Str × Tok)} {ks : List Int} {n : Nat} {k : Int} {y : Str} {t : Tok} (h : zt.map (·.1) = (ks.take n).map (fun k => ss.getD k.toNat (Str.ofString ""))) (hk : ks[n]? = some k) (hy : ss[k.toNat]? = some y) :
    (zt ++ [(y, t)]).map (·.1) = (ks.take (n + 1)).map (fun k => ss.getD k.toNat (Str.ofString "")) := by
  rw [List.take_add_one, hk, List.map_append, List.map_append, h]
  simp [hy]
theorem place_y {st pt : List (Str × Tok)} {up : Nat} {l : List Int} {k : Int} {y : Str} (h : (st.map (·.1))[k.toNat]? = some y) (e : (((pt.drop ((up : Int)).toNat).map (·.1)).any fun x => x == y) = true) : placeG st pt up l k = l ++ [k] := by
  unfold placeG; rw [get_getD h]; exact if_pos e
theorem place_n {st pt : List (Str × Tok)} {up : Nat} {l : List Int} {k : Int} {y : Str} (h : (st.map (·.1))[k.toNat]? = some y) (e : (((pt.drop ((up : Int)).toNat).map (·.1)).any fun x => x == y) = false) : placeG st pt up l k = l := by
  unfold placeG; rw [get_getD h]
  refine if_neg ?_
  intro q
  have e' : (((pt.drop up).map (·.1)).any fun x => x == y) = false := e
  rw [e'] at q; cases q
theorem place_fold (st pt : List (Str × Tok)) (up : Nat) : ∀ (ks l : List Int), ks.foldl (placeG st pt up) l = l ++ ks.filter (fun k => ((pt.drop up).map (·.1)).any (· == (st.map (·.1)).getD k.toNat (Str.ofString "")))
  | [], l => by simp
  | k :: r, l => by
    rw [List.foldl_cons, place_fold st pt up r, List.filter_cons]
    unfold placeG
    split <;> simp
theorem place_mem {st pt : List (Str × Tok)} {up : Nat} {ks : List Int} {k : Int} (h : k ∈ ks.foldl (placeG st pt up) []) : k ∈ ks := by
  rw [place_fold] at h
  rw [List.nil_append] at h
  exact (List.mem_filter.mp h).1
/-- the window's way -/
def wayP (ss : List Str) (i j : Int) : Str := ((ss.drop i.toNat).take (j - i).toNat).foldl joinP (Str.ofString "")
def rootT (root : Str) : Str := if (Txt.slice root (some 2) none).length = 0 then root else Txt.slice root (some 2) none
/-- what a window must be for _law_window to hand back a pair -/
structure WinOk (ss : List Str) (i j : Int) (root : Str) (up : Nat) (ks : List Int) : Prop where
  ups : upsP (partsP (normP (wayP ss i j))) = up
  places : (rangeKs i (j - i).toNat).filter (fun k => ((partsP (normP (wayP ss i j))).drop up).any (· == ss.getD k.toNat (Str.ofString ""))) = ks
  names : (partsP (normP (wayP ss i j))).drop up = ks.map (fun k => ss.getD k.toNat (Str.ofString ""))
  root : normP (joinP root (wayP ss i j)) = rootT root ++ Str.join (Str.ofString "/") (ks.map (fun k => ss.getD k.toNat (Str.ofString "")))
/-- the pair that _law_window hands back -/
def WinPost (up : Nat) (ks : List Int) (h h' : Heap) (v : Value) : Prop :=
  ∃ D D2 t vs, v = .ref D ∧ h.get? D = none ∧ h.get? D2 = none ∧ h'.get? D = some { cls := .type "tuple", data := .seq #[.int (up : Int) t, .ref D2] } ∧ h'.get? D2 = some (LCg.lst vs) ∧ IntsAre vs ks ∧ vs.length ≤ 7
theorem win_y {root way j : Str} {nt : List Str} (h : normP (joinP root way) = rootT root ++ Str.join (Str.ofString "/") nt) (hl : ((Txt.slice root (some 2) none).length : Int) ≠ 0) (hj : j = Str.join (Str.ofString "/") nt) : normP (joinP root way) = Txt.slice root (some 2) none ++ j := by
  rw [h, hj]; unfold rootT; rw [if_neg (by omega)]
theorem win_n {root way j : Str} {nt : List Str} (h : normP (joinP root way) = rootT root ++ Str.join (Str.ofString "/") nt) (hl : ((Txt.slice root (some 2) none).length : Int) = 0) (hj : j = Str.join (Str.ofString "/") nt) : normP (joinP root way) = root ++ j := by
  rw [h, hj]; unfold rootT; rw [if_pos (by omega)]
theorem sum_le3 : ∀ l : List Str, (∀ x ∈ l, x.length ≤ 3) → (l.map (·.length)).sum ≤ 3 * l.length
  | [], _ => by simp
  | a :: r, h => by
    have h1 := sum_le3 r fun x hx => h x (.tail _ hx)
    have h2 := h a (.head _)
    simp only [List.map_cons, List.sum_cons, List.length_cons]
    omega
theorem rootP_le (x : Str) : (rootP x).1.length ≤ x.length + 1 ∧ (rootP x).2.length ≤ x.length := by
  unfold rootP
  have h1 := Txt.slice_le x (some 1) none
  have h2 := Txt.slice_le x (some 2) none
  have h3 := Txt.slice_le x none (some 2)
  have h4 : (Str.ofString "").length = 0 := by decide
  have h5 : (Str.ofString "/").length = 1 := by decide
  (repeat' split) <;> dsimp only <;> omega
theorem normP_le (x : Str) : (normP x).length ≤ 3 * x.length + 3 := by
  unfold normP
  have h1 := rootP_le x
  have h4 := len_join (Str.ofString "/") ((Txt.split (rootP x).2 (Str.ofString "/")).foldl (pushP (rootP x).1) [])
  have h5 := wt_fold (rootP x).1 (Txt.split (rootP x).2 (Str.ofString "/")) []
  have h6 := split_weight (rootP x).2 (Str.ofString "/") (by decide)
  have h7 : (Str.ofString "/").length = 1 := by decide
  have h8 : (Str.ofString ".").length = 1 := by decide
  have h9 := Str.length_append (rootP x).1 (Str.join (Str.ofString "/") ((Txt.split (rootP x).2 (Str.ofString "/")).foldl (pushP (rootP x).1) []))
  unfold wt at h5
  simp only [List.map_nil, List.sum_nil, List.length_nil] at h5
  rw [h7] at h4
  dsimp only
  split
  · omega
  · split <;> omega
local macro_rules | `(tactic| k_ne) => `(tactic| (refine neN ?_; (try dsimp only); first | assumption | (exact Ne.symm (by assumption)) | exact Nat.ne_of_lt (Nat.lt_succ_self _) | exact Nat.ne_of_lt (Nat.lt_succ_of_lt (Nat.lt_succ_self _)) | exact Nat.ne_of_lt (Nat.lt_succ_of_lt (Nat.lt_succ_of_lt (Nat.lt_succ_self _))) | exact Nat.ne_of_lt (Nat.lt_succ_of_lt (Nat.lt_succ_of_lt (Nat.lt_succ_of_lt (Nat.lt_succ_self _)))) | exact Nat.ne_of_gt (Nat.lt_succ_self _) | exact Nat.ne_of_gt (Nat.lt_succ_of_lt (Nat.lt_succ_self _)) | exact Nat.ne_of_gt (Nat.lt_succ_of_lt (Nat.lt_succ_of_lt (Nat.lt_succ_self _))) | exact Nat.ne_of_gt (Nat.lt_succ_of_lt (Nat.lt_succ_of_lt (Nat.lt_succ_of_lt (Nat.lt_succ_self _)))) | omega))
local macro_rules | `(tactic| walk_at "call ref") => `(tactic| (k_here; k_dflt (refine' use_v (sp_join _ _ _ _ _ (by first | assumption | omega) (by first | assumption | omega)) ?k1 ?k2 ?k3 ?k4 ?k5 ?k6 ?k7 ?k8 ?_; (case k1 | k2 | k3 | k4 | k5 => k_asm); (case k6 => first | exact rfl | assumption); (case k7 => ktr_room); (case k8 => ktr_units); k_whole); (intro v' h' tk' hv' F' N'); (obtain ⟨tz', hv'⟩ := hv'); (subst hv'); (try dsimp only); (try k_sweep)))
local macro_rules | `(tactic| walk_at "call ref") => `(tactic| (k_here; k_dflt (refine' use_v (sp_normpath _ _ _ (by first | assumption | omega)) ?k1 ?k2 ?k3 ?k4 ?k5 ?k6 ?k7 ?k8 ?_; (case k1 | k2 | k3 | k4 | k5 => k_asm); (case k6 => first | exact rfl | assumption); (case k7 => ktr_room); (case k8 => ktr_units); k_whole); (intro v' h' tk' hv' F' N'); (obtain ⟨tz', hv'⟩ := hv'); (subst hv'); (try dsimp only); (try k_sweep)))
local macro_rules | `(tactic| walk_at "subscriptTail") => `(tactic| (k_here; (with_reducible show wpAny _ _ (subscriptTail _ (Expr.Slice (some _) (some _) none _) (Value.ref _) (Value.ref _)) _ _ _); (with_reducible rename Fr _ _ _ _ => F'); (with_reducible rename News _ _ _ _ => N'); (refine' slice_run_S (s := ⟨_, _, _, _, _⟩) F' N' ?k1 ?k2 ?k3 ?k4 ?k5 ?_; (case k1 => first | exact Fr.lst F' (by assumption) | exact News.isList N' (by k_mem)); (case k2 | k3 | k4 | k5 => omega)); (intro D' h' F' N' l1); (try k_lt l1); (try k_sweep)))
local macro_rules | `(tactic| walk_at "subscriptTail") => `(tactic| (k_here; (with_reducible show wpAny _ _ (subscriptTail _ (Expr.Slice (some _) none none _) (Value.ref _) (Value.ref _)) _ _ _); (with_reducible rename Fr _ _ _ _ => F'); (with_reducible rename News _ _ _ _ => N'); (refine' slice_from_S (s := ⟨_, _, _, _, _⟩) F' N' ?k1 ?k2 ?k4 ?k5 ?_; (case k1 => first | exact Fr.lst F' (by assumption) | exact News.isList N' (by k_mem)); (case k2 | k4 | k5 => omega)); (intro D' h' F' N' l1); (try k_lt l1); (try k_sweep)))
local macro_rules | `(tactic| walk_at "call builtin:str.split") => `(tactic| (k_here; (with_reducible show wpAny _ _ (call (Value.builtin "str.split") [Value.str _ _, Value.str _ _]) _ _ _); (refine KSpl.split1 (by k_asm) (by k_asm) (by decide) ?_ (by (refine Nat.le_trans (Nat.add_le_add_right (by assumption) 2) ?_; decide))); (intro D' l' h' k' e' a' F' N' l1); (try k_lt l1); (try k_sweep)))
local macro_rules | `(tactic| walk_at "subscriptTail") => `(tactic| (k_here; (with_reducible show wpAny _ _ (subscriptTail _ _ (Value.ref _) (Value.int _ _)) _ _ _); k_dflt (refine' item_S ?k1 ?k2 ?k3 ?k4 ?_; (case k1 => first | exact Fr.lst (by assumption) (by assumption) | exact News.isList (by assumption) (by k_mem)); (case k2 | k3 | k4 => omega); k_whole); (intro ti')))
local macro_rules | `(tactic| walk_at "compareOp In str ref") => `(tactic| (k_here; k_dflt (refine' in_S ?k1 ?k2 ?_; (case k1 => k_asm); (case k2 => k_mem); k_whole)))
local macro_rules | `(tactic| walk_at "call builtin:len") => `(tactic| (k_here; (with_reducible show wpAny _ _ (call (Value.builtin "len") [Value.ref _]) _ _ _); k_dflt (refine' len_S ?k1 ?k2 ?_; (case k1 => first | exact Fr.lst (by assumption) (by assumption) | exact News.isList (by assumption) (by k_mem)); (case k2 => omega); k_whole); (intro ti' tk')))
local macro_rules | `(tactic| walk_at "call builtin:str.join") => `(tactic| (k_here; (with_reducible show wpAny _ _ (call (Value.builtin "str.join") [Value.str _ _, Value.ref _]) _ _ _); k_dflt (refine' join_S ?k1 ?k2 ?k3 ?k4 ?_; (case k1 => k_asm); (case k2 => k_mem); (case k3 => decide); (case k4 => assumption); k_whole); (intro j' t' k' hj' hjl')))
local macro_rules | `(tactic| walk_at "truthy str") => `(tactic| (k_here; (with_reducible show wpAny _ _ (PySem.truthy (Value.str _ _)) _ _ _); (refine truthy_str_S (by first | omega | (refine Nat.le_trans (by assumption) ?_; decide)) ?_); intro tk'))
local macro_rules | `(tactic| walk_at "compareOp NotEq ref ref") => `(tactic| (k_here; (with_reducible show wpAny _ _ (compareOp CmpOp.NotEq (Value.ref _) (Value.ref _)) _ _ _); k_dflt (refine' ne_S ?k1 ?k2 ?k3 ?k4 ?k5 ?_; (case k1 => exact News.isList (by assumption) (by k_mem)); (case k2 => exact News.isList (by assumption) (by k_mem)); (case k3 | k4 => assumption); (case k5 => units_room); k_whole)))
local macro_rules | `(tactic| walk_at "subscriptTail") => `(tactic| (k_here; (with_reducible show wpAny _ _ (subscriptTail _ (Expr.Slice _ _ none _) (Value.str _ _) (Value.ref _)) _ _ _); (with_reducible rename Fr _ _ _ _ => F'); (with_reducible rename News _ _ _ _ => N'); (first
  | ((with_reducible show wpAny _ _ (subscriptTail _ (Expr.Slice none (some _) none _) _ _) _ _ _); (refine slice_strN_ns (hsz := ?hsz) (s := ⟨_, _, _, _, _⟩) F' N' ?_))
  | ((with_reducible show wpAny _ _ (subscriptTail _ (Expr.Slice (some _) none none _) _ _) _ _ _); (refine slice_strN_sn (hsz := ?hsz) (s := ⟨_, _, _, _, _⟩) F' N' ?_))
  | ((with_reducible show wpAny _ _ (subscriptTail _ (Expr.Slice (some _) (some _) none _) _ _) _ _ _); (refine slice_strN_ss (hsz := ?hsz) (s := ⟨_, _, _, _, _⟩) F' N' ?_))); (case hsz => (refine Nat.le_trans (by assumption) ?_; decide)); (intro h' t' k' F' N'); (try k_sweep)))
local macro_rules | `(tactic| walk_at "compareOp NotEq str str") => `(tactic| (k_here; (with_reducible show wpAny _ _ (compareOp CmpOp.NotEq (Value.str _ _) (Value.str _ _)) _ _ _); k_dflt (refine' ne_str_S ?k1 ?_; (case k1 => first | exact win_y (by assumption) (by assumption) (by assumption) | exact win_n (by assumption) (by assumption) (by assumption)); k_whole)))

set_option maxHeartbeats 16000000 in
theorem sp_window (w : World) (ls : Addr) (st : List (Str × Tok)) (i j : Int) (ti tj tr : Tok) (root : Str) (up₀ : Nat) (ks₀ : List Int) (h0 : 0 ≤ i) (hij : i < j) (h7 : j ≤ 7) (hlen : st.length = 7) (hst : ∀ p ∈ st, p.1.length ≤ 3) (hok : ∀ p ∈ st, PyData.strOk p.1 = true) (hr : root.length ≤ 3)
    (hw : WinOk (st.map (·.1)) i j root up₀ ks₀) :
    SpH 8 w 148 [.ref ls, .int i ti, .int j tj, .str root tr] (fun h => h.IsList ls (strValues st).toArray) (WinPost up₀ ks₀) := by
  w_top off
  k_with_none
  unfold SpH KK prg
  k_fill
  intro mean mg mb dp un gd cn cs a ccd cl outer A₀ base h₀ L m s Q E B F X T hck hd hu hC hret
  refine' enterC (binds := [(Str.ofString "steps", .ref ls), (Str.ofString "i", .int i ti), (Str.ofString "j", .int j tj), (Str.ofString "root", .str root tr)]) B F X T rfl rfl hck ?k6 ?k7 ?k8 ?k9 ?kB ?kD ?_ ?c2 ?c3 ?c4
  (case k6 => k_is)
  (case k7 => k_is)
  (case k8 => dsimp only [ktrTop]; omega)
  (case k9 => exact BindsTo.of_eq rfl)
  (case kB => exact rfl)
  (case kD => decide +kernel)
  (case c2 => rfl)
  (case c3 => rfl)
  (case c4 => rfl)
  clear F T X B
  intro L' h' tk' cells' F' N' Y' B' X' T'
  obtain ⟨o1, o2, o3, hE', d1, d2, d3⟩ := CellsAre.three Y'; subst hE'; clear Y'
  (try dsimp only)
  (try k_fold)
  repeat' (first | ((fail_if_success (with_reducible show wpAny _ _ (exec (Stmt.For _ _ _ _ _) _) _ _ _)); (first | (k_unfold; (try dsimp only)) | (k_end; wrow_close) | walk1 | (dsimp only; walk1) | (leave1; try dsimp only))))
  rename Fr _ _ _ _ => lF'
  (with_unfolding_all refine' For_invVF lF' ?v1 ?v2 ?_; (case v1 => exact rfl); (case v2 => exact rfl); k_whole)
  k_steps
  have hms : ∀ p ∈ (((st.drop i.toNat).take (j - i).toNat).map (·.1)), p.length ≤ 3 := by
    intro p hp
    obtain ⟨q, hq, rfl⟩ := List.mem_map.mp hp
    exact hst q (List.mem_of_mem_drop (List.mem_of_mem_take hq))
  have hml : (((st.drop i.toNat).take (j - i).toNat).map (·.1)).length ≤ 7 := by simp; omega
  rename News _ _ _ _ => NN
  rename Fr _ _ _ _ => FF
  refine' iter_text (s := ⟨_, _, _, _, _⟩) (Str.ofString "way") joinP ?g1 FF NN ?g2 ?g3 ?g4 ?g5
  (case g1 => rfl)
  (case g2 => refine List.forall_mem_cons.mpr ⟨ltN (by dsimp only; omega), List.forall_mem_cons.mpr ⟨ltN (by dsimp only; omega), List.forall_mem_cons.mpr ⟨ltN (by dsimp only; omega), List.forall_mem_nil _⟩⟩⟩)
  (case g3 => rfl)
  (case g4 =>
    clear NN FF
    intro n c tc ta h tk own hc hoff F' N'
    have hcl := hms c (List.mem_of_getElem? hc)
    have hcm : c.length ≤ 500 := by omega
    have hal : (List.foldl joinP (Str.ofString "") (((((st.drop i.toNat).take (j - i).toNat).map (·.1))).take n)).length ≤ 500 := by
      have h1 := way_le (((((st.drop i.toNat).take (j - i).toNat).map (·.1))).take n) (Str.ofString "") fun p hp => hms p (List.mem_of_mem_take hp)
      have h2 : (Str.ofString "").length = 0 := by decide
      have h3 := List.length_take_le n ((((st.drop i.toNat).take (j - i).toNat).map (·.1)))
      have h4 : ((((st.drop i.toNat).take (j - i).toNat).map (·.1)).take n).length ≤ 7 := Nat.le_trans (List.length_take_le' n _) hml
      omega
    generalize (List.foldl joinP (Str.ofString "") (((((st.drop i.toNat).take (j - i).toNat).map (·.1))).take n)) = a at *
    k_steps
    exact ⟨rfl, _, _, _, _, rfl, fr_text (by assumption) (by decide), by assumption⟩)
  (case g5 =>
    clear NN FF
    intro ta h tk u F' N'
    have hal : (List.foldl joinP (Str.ofString "") (((((st.drop i.toNat).take (j - i).toNat).map (·.1))))).length ≤ 28 := by
      have h1 := way_le (((((st.drop i.toNat).take (j - i).toNat).map (·.1)))) (Str.ofString "") hms
      have h2 : (Str.ofString "").length = 0 := by decide
      omega
    generalize hway : (List.foldl joinP (Str.ofString "") (((((st.drop i.toNat).take (j - i).toNat).map (·.1))))) = way at *
    have hal2 : way.length ≤ 500 := by omega
    have hal3 : way.length ≤ 1000 := by omega
    have hnl : (normP way).length ≤ 1000 := by have := normP_le way; omega
    have hway2 : wayP (st.map (·.1)) i j = way := by rw [← hway]; unfold wayP; rw [← List.map_drop, ← List.map_take]
    clear hway hms hml
    (try dsimp only)
    (try k_unfold)
    (try dsimp only)
    -- told
    refine' execs_cut (s := ⟨_, _, _, _, _⟩) F' N' (σ := Tok) (fun m t y => if y = Str.ofString "told" then some (.str (normP way) t) else m y) (fun l _ => l) (fun _ => True) ?_ ?_
    · k_steps
      exact ⟨rfl, _, _, _, rfl, trivial, by assumption, by assumption⟩
    clear F' N'
    intro tt h tk _ F' N'
    -- parts
    refine' execs_cut (s := ⟨_, _, _, _, _⟩) F' N' (σ := Addr × List (Str × Tok) × Obj) (fun m _ => m) (fun _ a => [(a.1, listOf (strValues a.2.1).toArray 0), (L' + 1 + 1 + 1, o1), (L' + 1 + 1, a.2.2), (L' + 1, o3)]) (fun a => a.2.1.map (·.1) = partsP (normP way) ∧ a.2.2.data = .cell (some (.ref a.1)) ∧ @LT.lt Nat _ (L' + 1 + 1 + 1) a.1) ?_ ?_
    · k_steps
      · exact ⟨rfl, (_, [], _), _, _, rfl, ⟨parts_y (by assumption), by assumption, by dsimp only; omega⟩, by assumption, by assumption⟩
      · exact ⟨rfl, (_, _, _), _, _, rfl, ⟨parts_n (by assumption) (by assumption), by assumption, by dsimp only; omega⟩, by assumption, by assumption⟩
    clear F' N'
    rintro ⟨D, pt, op⟩ h tk ⟨hpt, hop, hD⟩ F' N'
    dsimp only at hpt hop hD N'
    have hptl := parts_len hpt hnl
    -- ups
    refine' execs_cut (s := ⟨_, _, _, _, _⟩) F' N' (σ := Obj × Tok) (fun m _ => m) (fun _ a => [(D, listOf (strValues pt).toArray 0), (L' + 1 + 1 + 1, a.1), (L' + 1 + 1, op), (L' + 1, o3)]) (fun a => a.1.data = .cell (some (.int 0 a.2))) ?_ ?_
    · k_steps
      exact ⟨rfl, (_, _), _, _, rfl, by assumption, by assumption, by assumption⟩
    clear F' N'
    rintro ⟨ou, tu⟩ h tk hou F' N'
    dsimp only at hou N'
    -- while
    refine' execs_cut (s := ⟨_, _, _, _, _⟩) F' N' (σ := Obj × Tok) (fun m _ => m) (fun _ a => [(D, listOf (strValues pt).toArray 0), (L' + 1 + 1 + 1, a.1), (L' + 1 + 1, op), (L' + 1, o3)]) (fun a => a.1.data = .cell (some (.int (upsP (pt.map (·.1)) : Int) a.2))) ?_ ?_
    · refine' while_ups (s := ⟨_, _, _, _, _⟩) F' N' hou ?turn ?done
      (case turn =>
        clear F' N'
        intro u t o h₁ tk₁ hul ho F' N'
        k_steps
        all_goals first
          | exact ups_y (by assumption) (by assumption)
          | exact ⟨_, _, _, _, rfl, by assumption, by assumption, by assumption⟩
          | exact ups_n (by assumption) (by assumption)
          | exact Or.inl (by omega))
      (case done =>
        intro t o h₁ tk₁ ho F' N'
        exact ⟨rfl, (_, _), _, _, rfl, ho, F', N'⟩)
    clear F' N' hou ou tu
    rintro ⟨ou, tu⟩ h tk hou F' N'
    dsimp only at hou N'
    have hul : (upsP (pt.map (·.1)) : Int) ≤ pt.length := by have := upsP_le (pt.map (·.1)); rw [List.length_map] at this; omega
    generalize hup : upsP (pt.map (·.1)) = up at *
    -- places
    refine' execs_cut (s := ⟨_, _, _, _, _⟩) F' N' (σ := Addr × List Value) (fun m a y => if y = Str.ofString "places" then some (.ref a.1) else m y) (fun l a => (a.1, LCg.lst a.2) :: l) (fun a => IntsAre a.2 ((rangeKs i (j - i).toNat).foldl (placeG st pt up) []) ∧ a.2.length ≤ 7) ?_ ?_
    · k_dflt (refine LCt.Assign_ListComp_T (F₀ := by k_asm) (by rfl) (by with_unfolding_all rfl) (by with_unfolding_all rfl) (by decide) (by rfl) (by decide) (by rfl) (by rfl) (by rfl) ?_)
      repeat' (first | ((fail_if_success (with_reducible show LCt.CompSrcT _ _ _ _ _ _ _ _ _ _ _ _ _ _ _)); (first | (k_unfold; (try dsimp only)) | (k_end; wrow_close) | walk1 | (dsimp only; walk1) | (leave1; try dsimp only))))
      refine LCt.CompSrcT.range (n := (j - i).toNat) (by rfl) (by k_asm) (by k_asm) (by assumption) (by first | decide | exact small_one (by l_bnd) (by l_bnd) (by l_bnd) (by l_bnd)) (by first | exact rangeSize_nat _ _ | rfl) (by rw [PySem.sizeLine_eq]; omega) ?_
      intro g'
      refine' kci_range (placeG st pt up) (fun k' t' I' oI' C' oC' D' m' ys' l' h' tk' E' hlo' hhi' hI' hC' hx' F' N' off' ne' => ?_) ?_ ?_
      · intro _
        have hk7 : k' < 7 := by clear off' ne'; omega
        simp only [LCg.Off3, and_true] at off'
        repeat' (first | ((fail_if_success (with_reducible show LCg.CompEnd _ _ _ _ _ _ _ _ _ _ _ _ _ _)); (first | (k_unfold; (try dsimp only)) | (k_end; wrow_close) | walk1 | (dsimp only; walk1) | (leave1; try dsimp only))))
        all_goals first
          | exact LCg.CompEnd.intro (by k_asm) (by k_asm) _ (by (repeat' (first | exact List.forall_mem_nil _ | (refine List.forall_mem_cons.mpr ⟨?_, ?_⟩) | k_mem))) (by simp only [LCg.Off3, and_true]; exact off') trivial (kci_el (place_y (by assumption) (by assumption)) rfl rfl)
          | exact LCg.CompEnd.intro (by k_asm) (by k_asm) _ (by (repeat' (first | exact List.forall_mem_nil _ | (refine List.forall_mem_cons.mpr ⟨?_, ?_⟩) | k_mem))) (by simp only [LCg.Off3, and_true]; exact off') trivial (kci_no (place_n (by assumption) (by assumption)) rfl)
      · intro ys hys hyl
        k_steps
        exact ⟨rfl, (_, _), _, _, rfl, ⟨hys, le_seven h0 hij h7 hyl⟩, by assumption, by assumption⟩
      · exact placeG_grows st pt up
    clear F' N'
    rintro ⟨D2, ys⟩ h tk ⟨hys, hyl⟩ F' N'
    dsimp only at hys hyl F' N'
    generalize hks : (rangeKs i (j - i).toNat).foldl (placeG st pt up) [] = ks at *
    have hkr : ∀ k ∈ ks, 0 ≤ k ∧ k < 7 := by
      intro k hk
      rw [← hks] at hk
      have h1 := mem_rangeKs (place_mem hk)
      omega
    -- names
    refine' execs_cut (s := ⟨_, _, _, _, _⟩) F' N' (σ := Addr × List (Str × Tok)) (fun m a y => if y = Str.ofString "names" then some (.ref a.1) else m y) (fun l a => (a.1, LCg.lst (strValues a.2)) :: l) (fun a => a.2.map (·.1) = ks.map (fun k => (st.map (·.1)).getD k.toNat (Str.ofString ""))) ?_ ?_
    · k_dflt (refine LCg.Assign_ListComp_U (F₀ := by k_asm) (by rfl) (by with_unfolding_all rfl) (by with_unfolding_all rfl) (by decide) (by rfl) (by decide) (by rfl) (by rfl) (by rfl) ?_)
      repeat' (first | ((fail_if_success (with_reducible show LCg.CompSrc _ _ _ _ _ _ _ _ _ _ _ _ _ _)); (first | (k_unfold; (try dsimp only)) | (k_end; wrow_close) | walk1 | (dsimp only; walk1) | (leave1; try dsimp only))))
      refine LCg.CompSrc.ledger (its := ys.toArray) (by rfl) (by k_asm) (by k_asm) (by k_mem) (by rw [List.size_toArray, PySem.sizeLine_eq]; omega) ?_
      intro g'
      refine' comp_rest (fun n zs nw => nw = _ ∧ ∃ zt : List (Str × Tok), zs = strValues zt ∧ zt.map (·.1) = (ks.take n).map (fun k => (st.map (·.1)).getD k.toNat (Str.ofString ""))) ⟨rfl, [], rfl, rfl⟩ ?_ ?_
      · rintro n zs nw v J oJ C oC D' m' h' tk' E' hn ⟨rfl, zt, rfl, hzt⟩ hv hC' hx' F' N' off' ne'
        simp only [LCg.Off3, and_true] at off'
        obtain ⟨k, tv, rfl, hk⟩ := IntsAre.at hys n v (by simpa using hv)
        have hkb := hkr k (List.mem_of_getElem? hk)
        repeat' (first | ((fail_if_success (with_reducible show LCg.CompEnd _ _ _ _ _ _ _ _ _ _ _ _ _ _)); (first | (k_unfold; (try dsimp only)) | (k_end; wrow_close) | walk1 | (dsimp only; walk1) | (leave1; try dsimp only))))
        exact LCg.CompEnd.intro (by k_asm) (by k_asm) _ (by (repeat' (first | exact List.forall_mem_nil _ | (refine List.forall_mem_cons.mpr ⟨?_, ?_⟩) | k_mem))) (by simp only [LCg.Off3, and_true]; exact off') (Or.inr ⟨_, by k_mem, rfl, _, rfl⟩) ⟨rfl, _, strValues_snoc _ _ _, names_step (by assumption) hk (by assumption)⟩
      · rintro zs nw ⟨rfl, zt, rfl, hzt⟩
        k_steps
        have hzt' : zt.map (·.1) = ks.map (fun k => (st.map (·.1)).getD k.toNat (Str.ofString "")) := by
          rw [hzt, List.take_of_length_le (by have h2 := hys.length; simp; omega)]
        exact ⟨rfl, (_, _), _, _, rfl, hzt', by assumption, by assumption⟩
    clear F' N'
    rintro ⟨D3, nt⟩ h tk hnt F' N'
    dsimp only at hnt F' N'
    
    have e1 : up = up₀ := by rw [← hup, hpt, ← hway2]; exact hw.ups
    have e2 : ks = ks₀ := by
      rw [← hks, place_fold, List.nil_append, List.map_drop, hpt, ← hway2, e1]; exact hw.places
    subst e1
    subst e2
    have hne : (pt.drop ((up : Int)).toNat).map (·.1) = nt.map (·.1) := by
      rw [List.map_drop, hpt, hnt, ← hway2]; exact hw.names
    have hroot : normP (joinP root way) = rootT root ++ Str.join (Str.ofString "/") (nt.map (·.1)) := by
      rw [hnt, ← hway2]; exact hw.root
    have hntm : ∀ x ∈ nt.map (·.1), x.length ≤ 3 ∧ PyData.strOk x = true := by
      intro x hx
      rw [hnt] at hx
      obtain ⟨k, hk, rfl⟩ := List.mem_map.mp hx
      have hk7 := hkr k hk
      have e : (st.map (·.1)).getD k.toNat (Str.ofString "") = (st[k.toNat]'(by omega)).1 := by
        simp [List.getElem?_eq_getElem (show k.toNat < st.length by omega)]
      rw [e]
      exact ⟨hst _ (List.getElem_mem _), hok _ (List.getElem_mem _)⟩
    have hnok : ∀ x ∈ (pt.drop ((up : Int)).toNat).map (·.1), PyData.strOk x = true := by
      intro x hx; rw [hne] at hx; exact (hntm x hx).2
    have hntl : nt.length ≤ 7 := by
      have h1 := congrArg List.length hnt
      have h2 := hys.length
      simp at h1 h2
      omega
    have hnw : ((nt.map (·.1)).map (·.length)).sum + (nt.map (·.1)).length ≤ 2000 := by
      have := sum_le3 (nt.map (·.1)) fun x hx => (hntm x hx).1
      simp only [List.length_map] at this ⊢
      omega
    have hjl : (joinP root way).length ≤ 1000 := by have := joinP_le root way; omega
    have hjn : (normP (joinP root way)).length ≤ 1000 := by have := normP_le (joinP root way); have := joinP_le root way; omega
    clear hntm hks hkr hw hup hnt hpt
    refine' execs_cut (s := ⟨_, _, _, _, _⟩) F' N' (σ := Unit) (fun m _ => m) (fun l _ => l) (fun _ => True) ?_ ?_
    · k_steps
      all_goals (with_reducible rename News _ _ _ _ => NN)
      all_goals exact ⟨rfl, (), _, _, rfl, trivial, by assumption, fun p hp => NN p (by first | exact hp | exact .tail _ hp | exact .tail _ (.tail _ hp))⟩
    clear F' N'
    rintro _ h tk _ F' N'
    k_steps
    (with_reducible rename News _ _ _ _ => NN)
    exact hret _ _ _ (Fr.keep (by assumption)) ⟨_, _, _, ys, rfl, News.fresh NN (.head _), News.fresh NN (by k_mem), News.get NN (.head _), News.get NN (by k_mem), hys, hyl⟩
)
end Mine
end
-- part R11
section
open PySem PySem.W PySem.Calls PyProof.Rows
namespace Mine
/-- the law's own call: its frame is the first -/
theorem enterTop {w : World} {s : Shared} {K : Frag} {p : Program} {loose : List Str} {mean : ExcName → Option Value} {mg mb : Str → Option Value} {E : Value → Shared → Prop}
    {Q : Value → Shared → Prop} {name qual : Str} {params : Arguments} {body : List Stmt} {scope : Scope} {dV kV doc pm cdv ct oc : Value} {an od : Option Addr} {osl : Array (Option Value)} {f : Addr} {args : List Value} {binds : List (Str × Value)} {prog : Program}
    (X : K.In s.heap) (T : Top p loose mean mg mb s.heap)
    (ho : K.lookup f = some ⟨oc, od, .func (fnOf name qual params body scope dV kV doc pm an cdv ct), osl⟩) (hcd : codeIn K cdv qual = true) (hroom : callerA.depth < recursionLimit)
    (hbind : BindsTo s (fnOf name qual params body scope dV kV doc pm an cdv ct) ⟨args, []⟩ binds) (hkind : (binds.all fun y => scope.names.lookup y.1 == some .local || scope.names.lookup y.1 == some .cell) = true)
    (hnd : ((cellsFrom 0 scope.names []).map (·.1)).Nodup)
    (h : ∀ L' h₁ tk cells, Fr s.heap L' h₁ (bindL (envOfC qual scope L' f cdv).kindOf binds fun _ => none) → News s.heap L' h₁ cells →
      CellsAre (bindC (envOfC qual scope L' f cdv).kindOf binds fun _ => none) (cellsFrom (L' + 1) scope.names []) cells → Below callerA s.heap [] s.heap → K.In s.heap → Top p loose mean mg mb s.heap →
      wpAny (model prog w) (callerA.deeper (envOfC qual scope L' f cdv)) (execs body (envOfC qual scope L' f cdv))
        (fun fl s' => Q (match fl with | .ret v => v | _ => .none) s')
        (fun _ _ => False)
        { s with heap := h₁, toks := tk })
    (hco : scope.isCoroutine = false) (hgen : scope.isGenerator = false) (hk : scope.kind = .function) : wpAny (model prog w) callerA (call (.ref f) args) Q E s := by
  refine wpAny_call ?_
  refine codeAny_call_function (fd := fnOf name qual params body scope dV kV doc pm an cdv ct) (body := body) hroom (X _ _ ho) rfl hco hgen rfl (codeRec_of X hcd) (hbind _ _ _ _ ?_)
  refine wpAny_newFunctionEnv_cells hk (kindsX hkind _) fun env' he s' x => ?_
  subst he
  refine ⟨T.nolimit.keeps x.toInCall.keep, codeAny_func ?_⟩
  obtain ⟨h₁, tk, rfl, _⟩ := x.done
  have hk₁ := x.toInCall.keep
  obtain ⟨cells, NC, Y⟩ := Cl.news (h₀ := s.heap) (Nat.le_refl _) fun n c hm => ⟨x.cell n c (lookup_of_mem_nodup (cellsFrom_names scope.names 0 (s.heap.objs.size + 1) [] [] rfl ▸ hnd) hm), x.above n c hm⟩
  exact wpAny_mono (h s.heap.objs.size h₁ tk cells ⟨x.toInCall.ns, hk₁, Nat.le_refl _⟩ NC Y (below_caller _) X T) (fun fl s' hl => hl) fun _ _ y => y.elim
theorem cells5 {cm : Str → Option Value} {n₁ n₂ n₃ n₄ n₅ : Str} {c₁ c₂ c₃ c₄ c₅ : Addr} {cells : List (Addr × Obj)} (x : CellsAre cm [(n₁, c₁), (n₂, c₂), (n₃, c₃), (n₄, c₄), (n₅, c₅)] cells) :
    ∃ o₁ o₂ o₃ o₄ o₅, cells = [(c₁, o₁), (c₂, o₂), (c₃, o₃), (c₄, o₄), (c₅, o₅)] ∧ o₁.data = .cell (cm n₁) ∧ o₂.data = .cell (cm n₂) ∧ o₃.data = .cell (cm n₃) ∧ o₄.data = .cell (cm n₄) ∧ o₅.data = .cell (cm n₅) := by
  cases x with | cons h r => obtain ⟨o₂, o₃, o₄, o₅, rfl, h₂, h₃, h₄, h₅⟩ := r.four; exact ⟨_, o₂, o₃, o₄, o₅, rfl, h, h₂, h₃, h₄, h₅⟩
end Mine
end
-- part R12
section
open PySem PySem.W PySem.Calls PyProof.Rows
namespace Mine
section
variable {prog : Program} {w : World} {A : Around} {E : Value → Shared → Prop} {R : Result → Shared → Prop} {s : Shared}
/-- a list comprehension of two clauses, no tests -/
abbrev comp2 (elt t₀ i₀ t₁ i₁ : Expr) (scope : Scope) (pos : Pos) : Expr := .ListComp elt [⟨t₀, i₀, [], 0⟩, ⟨t₁, i₁, [], 0⟩] scope pos
theorem turn_outer (elt t₀ i₀ t₁ i₁ : Expr) (scope : Scope) (pos : Pos) (it acc : Value) (env : Env) :
    compTurn (comp2 elt t₀ i₀ t₁ i₁ scope pos) 0 it acc env = (standAt i₀.pos >>= fun _ => pyNext it >>= fun r => match r with
      | none => pure (.done .next)
      | some v => letOwnedTupleGo t₀ it v >>= fun _ => assign t₀ env v >>= fun _ => eval i₁ env >>= fun x => standAt i₁.pos >>= fun _ => foldedSetIterable i₁ env x >>= fun x =>
          holding [x] (pyIter x) >>= fun i => runOwn (.compStart (comp2 elt t₀ i₀ t₁ i₁ scope pos) 1 i acc env) env >>= fun _ => again (.compLoop (comp2 elt t₀ i₀ t₁ i₁ scope pos) 0 it acc env)) := by rfl
theorem turn_inner (elt t₀ i₀ t₁ i₁ : Expr) (scope : Scope) (pos : Pos) (it acc : Value) (env : Env) :
    compTurn (comp2 elt t₀ i₀ t₁ i₁ scope pos) 1 it acc env = (standAt i₁.pos >>= fun _ => pyNext it >>= fun r => match r with
      | none => pure (.done .next)
      | some v => letOwnedTupleGo t₁ it v >>= fun _ => assign t₁ env v >>= fun _ => (eval elt env >>= fun x => call (.builtin "list.append") [acc, x] >>= fun _ => pure ()) >>= fun _ =>
          again (.compLoop (comp2 elt t₀ i₀ t₁ i₁ scope pos) 1 it acc env)) := by rfl
abbrev offE (prog : Program) (w : World) (A : Around) (env : Env) (R : Result → Shared → Prop) : Value → Shared → Prop := notedBy (model prog w) A env fun e s' => R (.error e) s'
theorem loop_inner {elt t₀ i₀ t₁ i₁ : Expr} {scope : Scope} {pos : Pos} {it acc : Value} {env : Env} (I : Nat → Shared → Prop)
    (turn : ∀ n s, I n s → wpAny (model prog w) A (pyNext it) (fun r s₁ => match r with
      | none => R (.ok .next) s₁
      | some v => wpAny (model prog w) A (assign t₁ env v) (fun _ s₂ => wpAny (model prog w) A (eval elt env) (fun x s₃ =>
          wpAny (model prog w) A (call (.builtin "list.append") [acc, x]) (fun _ s₄ => ∃ m, m < n ∧ I m s₄) (offE prog w A env R) s₃)
          (offE prog w A env R) s₂) (offE prog w A env R) s₁) (offE prog w A env R) s)
    (n : Nat) (h : I n s) (ht : ∀ v, letOwnedTupleGo t₁ it v = pure () := by intro _; rfl) :
    codeAny (model prog w) A (.compLoop (comp2 elt t₀ i₀ t₁ i₁ scope pos) 1 it acc env) R s := by
  refine codeAny_loop rfl I (fun n s hI => ?_) n h
  show wpAny _ A ((compTurn (comp2 elt t₀ i₀ t₁ i₁ scope pos) 1 it acc env).onRaise (fun x => do noteFrame x env; theTreesLotGoes x)) _ _ s
  refine wpAny_noted ?_
  rw [turn_inner]
  refine wpAny_bind (wpAny_standAt (wpAny_bind (wpAny_mono (turn n s hI) (fun r s₁ h₁ => ?_) fun _ _ h' => h')))
  cases r with
  | none => exact wpAny_pure h₁
  | some v =>
    refine wpAny_bind (wpAny_of_eq (ht v) ?_)
    exact wpAny_bind (wpAny_mono h₁ (fun _ s₂ h₂ => wpAny_bind (wpAny_bind (wpAny_mono h₂ (fun x s₃ h₃ => wpAny_bind (wpAny_mono h₃
      (fun _ s₄ h₄ => wpAny_pure (wpAny_pure ⟨rfl, h₄⟩)) fun _ _ h' => h')) fun _ _ h' => h'))) fun _ _ h' => h')
theorem loop_outer {elt t₀ i₀ t₁ i₁ : Expr} {scope : Scope} {pos : Pos} {it acc : Value} {env : Env} (I : Nat → Shared → Prop)
    (turn : ∀ n s, I n s → wpAny (model prog w) A (pyNext it) (fun r s₁ => match r with
      | none => R (.ok .next) s₁
      | some v => wpAny (model prog w) A (assign t₀ env v) (fun _ s₂ => wpAny (model prog w) A (eval i₁ env) (fun x s₃ => wpAny (model prog w) A (pyIter x) (fun i s₄ =>
          codeAny (model prog w) A (.compStart (comp2 elt t₀ i₀ t₁ i₁ scope pos) 1 i acc env) (fun r s₅ => match r with | .ok _ => ∃ m, m < n ∧ I m s₅ | .error x => cameBackBy (model prog w) A env (offE prog w A env R) x s₅) s₄)
          (offE prog w A env R) s₃) (offE prog w A env R) s₂) (offE prog w A env R) s₁) (offE prog w A env R) s)
    (n : Nat) (h : I n s) (hs : ∀ x, foldedSetIterable i₁ env x = pure x) (ht : ∀ v, letOwnedTupleGo t₀ it v = pure () := by intro _; rfl) :
    codeAny (model prog w) A (.compLoop (comp2 elt t₀ i₀ t₁ i₁ scope pos) 0 it acc env) R s := by
  refine codeAny_loop rfl I (fun n s hI => ?_) n h
  show wpAny _ A ((compTurn (comp2 elt t₀ i₀ t₁ i₁ scope pos) 0 it acc env).onRaise (fun x => do noteFrame x env; theTreesLotGoes x)) _ _ s
  refine wpAny_noted ?_
  rw [turn_outer]
  refine wpAny_bind (wpAny_standAt (wpAny_bind (wpAny_mono (turn n s hI) (fun r s₁ h₁ => ?_) fun _ _ h' => h')))
  cases r with
  | none => exact wpAny_pure h₁
  | some v =>
    refine wpAny_bind (wpAny_of_eq (ht v) ?_)
    refine wpAny_bind (wpAny_mono h₁ (fun _ s₂ h₂ => ?_) fun _ _ h' => h')
    refine wpAny_bind (wpAny_mono h₂ (fun x s₃ h₃ => ?_) fun _ _ h' => h')
    refine wpAny_bind (wpAny_standAt (wpAny_bind (wpAny_of_eq (hs x) (wpAny_bind (wpAny_holding (wpAny_mono h₃ (fun i s₄ h₄ => ?_) fun _ _ h' => h'))))))
    refine wpAny_bind (wpAny_runOwn (codeAny_mono h₄ fun r s₅ h₅ => ?_))
    cases r with
    | ok f => exact wpAny_pure ⟨rfl, h₅⟩
    | error x => exact h₅
theorem start_inner {elt t₀ i₀ t₁ i₁ : Expr} {scope : Scope} {pos : Pos} {it acc : Value} {env : Env}
    (h0 : codeAny (model prog w) A (.compLoop (comp2 elt t₀ i₀ t₁ i₁ scope pos) 1 it acc env) R s)
    (h : wpAny (model prog w) A (pyIter it) (fun it' s' => codeAny (model prog w) A (.compLoop (comp2 elt t₀ i₀ t₁ i₁ scope pos) 1 it' acc env) R s') (offE prog w A env R) s) :
    codeAny (model prog w) A (.compStart (comp2 elt t₀ i₀ t₁ i₁ scope pos) 1 it acc env) R s := by
  refine codeAny_of_tree ?_
  show wpAny _ _ ((compStart (comp2 elt t₀ i₀ t₁ i₁ scope pos) 1 it acc env).onRaise (fun x => do noteFrame x env; standAt theWindowsPlace)) _ _ s
  refine wpAny_notedAt ?_
  unfold compStart
  show wpAny _ _ (ask >>= _) _ _ s
  refine wpAny_bind (wpAny_askSetting (wpAny_ite ?_))
  split
  · first
      | exact wpAny_bind (wpAny_pure (wpAny_pure (And.intro rfl h0)))
      | exact wpAny_pure (And.intro rfl h0)
  · refine wpAny_bind (wpAny_rule ?_)
    show wpAny _ _ (standAt i₁.pos >>= _) _ _ s
    exact wpAny_bind (wpAny_standAt (wpAny_bind (wpAny_mono h (fun it' s' h' => wpAny_pure (And.intro rfl h')) fun _ _ x => x)))
end
end Mine
end
-- part R13
section
open PySem PySem.W PySem.Calls PyProof.Rows
namespace Mine
section
variable {prog : Program} {w : World} {A : Around} {E : Value → Shared → Prop} {R : Result → Shared → Prop} {s : Shared} {h₀ : Heap} {L : Addr} {m : Str → Option Value} {env : Env}
/-- the range's iterator as an object of the ledger -/
theorem iter_obj {h h' : Heap} {J : Addr} {x n k : Int} {o : Obj} (st : IsRangeIter h J x n k) (e : h.get? J = some o) (e' : h'.get? J = some o) : IsRangeIter h' J x n k := by
  have st' : h.get? J = some _ := st
  show h'.get? J = some _
  rw [e', ← e]; exact st'
/-- where a loop over a range stands ahead of a turn -/
inductive LedAt (h₀ : Heap) (L : Addr) (m : Str → Option Value) (s : Shared) (J C D : Addr) (n : Nat) (a : Int) (K : (Str → Option Value) → Prop) (P : Nat → List Value → List (Addr × Obj) → Prop) : Nat → Shared → Prop
  | at (h' : Heap) (tk i : Nat) (ys : List Value) (mc : Str → Option Value) (news : List (Addr × Obj)) (hi : i ≤ n) (hst : IsRangeIter h' J (a + (i : Int) * 1) ((n : Int) - (i : Nat)) 1) (F : Fr h₀ L h' m) (hn : h'.Ns C mc) (hK : K mc)
    (N : News h₀ L h' ((D, LCg.lst ys) :: news)) (off : LCg.Off3 J C D news) (hP : P i ys news) : LedAt h₀ L m s J C D n a K P (n + 1 - i) { s with heap := h', toks := tk }
theorem inner_led {elt i₀ i₁ : Expr} {t₀ : Expr} {x₂ : Str} {px₂ : Pos} {scope : Scope} {cl : List (Str × Addr)} {pos : Pos} {J C D : Addr} {n : Nat} {a : Int} (P : Nat → List Value → List (Addr × Obj) → Prop) (K : (Str → Option Value) → Prop)
    (hP : ∀ j ys nw, P j ys nw → ys.length ≤ 1000) (hK : ∀ mc v, K mc → K fun y => if y = x₂ then v else mc y)
    (hh : A.handled = none) (hkind : scope.kind = .function) (hx₂ : scope.names.lookup x₂ = some .local)
    (hit : IsRangeIter s.heap J (a + ((0 : Nat) : Int) * 1) ((n : Int) - ((0 : Nat) : Int)) 1) {mC : Str → Option Value} {ys₀ : List Value} {news₀ : List (Addr × Obj)}
    (F : Fr h₀ L s.heap m) (hC : s.heap.Ns C mC) (hKC : K mC) (N : News h₀ L s.heap ((D, LCg.lst ys₀) :: news₀)) (off : LCg.Off3 J C D news₀) (ne : J ≠ C ∧ J ≠ D ∧ C ≠ D) (hJ₀ : h₀.get? J = none) (hJL : J ≠ L) (hC₀ : h₀.get? C = none) (hCL : C ≠ L)
    (h0 : P 0 ys₀ news₀)
    (turn : ∀ j ys news oJ oC mc t h tk (E' : Value → Shared → Prop), j < n → P j ys news → LCg.NsObj oC mc → mc x₂ = some (.int (a + (j : Int)) t) → K mc → Fr h₀ L h m → News h₀ L h ((J, oJ) :: (C, oC) :: (D, LCg.lst ys) :: news) → LCg.Off3 J C D news →
      wpAny (model prog w) A (eval elt (compEnvC scope cl C env)) (LCg.CompEnd h₀ L m { s with heap := h, toks := tk } J oJ C oC D (LCg.lst ys) (fun _ => True) (fun y news' => P (j + 1) (ys ++ [y]) news')) E' { s with heap := h, toks := tk })
    (fin : ∀ h tk mc ys news, Fr h₀ L h m → h.Ns C mc → K mc → News h₀ L h ((D, LCg.lst ys) :: news) → LCg.Off3 J C D news → P n ys news → R (.ok .next) { s with heap := h, toks := tk }) :
    codeAny (model prog w) A (.compLoop (comp2 elt t₀ i₀ (.Name x₂ px₂) i₁ scope pos) 1 (.ref J) (.ref D) (compEnvC scope cl C env)) R s := by
  obtain ⟨hJC, hJD, hCD⟩ := ne
  have W := LCg.range_walks (prog := prog) (w := w) (A := A) (I := J) hh a n
  have hD := (N _ (.head _))
  refine loop_inner (LedAt h₀ L m s J C D n a K P) ?_ (n + 1) (.at s.heap s.toks 0 ys₀ mC news₀ (Nat.zero_le _) hit F hC hKC N off h0)
  rintro k s' ⟨h', tk, i, ys, mc, news, hi, hst, F', hn', hK', N', off', hPi⟩
  by_cases hlt : i < n
  · refine W.item i _ _ _ hlt hst fun v h₂ tk₂ hPv hst₂ hk₂ => ?_
    obtain ⟨t, rfl⟩ := hPv
    refine wpAny_assign_Name (wpAny_storeName_local (lookup_relabel_local hx₂) (hn'.at' fun o e => hk₂ _ o (by simpa using Ne.symm hJC) e) (fun h₃ hn₃ hs₃ => ?_) (by simp [compEnvC, relabel, hkind]))
    have off3 := off'.mem
    have hst₃ : IsRangeIter h₃ J (a + ((i + 1 : Nat) : Int) * 1) ((n : Int) - ((i + 1 : Nat) : Int)) 1 := W.frame _ _ _ hst₂ fun b hb o e => hs₃.extBut b o (by rw [List.mem_singleton.mp hb]; exact hJC) e
    have F₃ : Fr h₀ L h₃ m := (LCg.fr_but F' hk₂ (Ne.symm hJL) hJ₀).change hs₃ hCL hC₀
    have N₂ : News h₀ L h₂ ((D, LCg.lst ys) :: news) := LCg.news_but N' hk₂ fun p hp => by
      rcases List.mem_cons.mp hp with rfl | hp
      · exact Ne.symm hJD
      · exact (off3 p hp).1
    obtain ⟨oC, heC, hoC⟩ := LCg.ns_obj hn₃
    obtain ⟨oJ, heJ⟩ : ∃ o, h₃.get? J = some o := ⟨_, hst₃⟩
    have N₃ : News h₀ L h₃ ((J, oJ) :: (C, oC) :: (D, LCg.lst ys) :: news) := fun p hp => by
      rcases List.mem_cons.mp hp with rfl | hp
      · exact ⟨heJ, hJL, hJ₀⟩
      · rcases List.mem_cons.mp hp with rfl | hp
        · exact ⟨heC, hCL, hC₀⟩
        · have z := N₂ p hp
          refine ⟨hs₃.extBut _ _ ?_ z.1, z.2⟩
          rcases List.mem_cons.mp hp with rfl | hp
          · exact Ne.symm hCD
          · exact (off3 p hp).2.1
    refine wpAny_mono (turn i ys news oJ oC _ t h₃ _ _ hlt hPi hoC (by simp) (hK _ _ hK') F₃ N₃ off') (fun y s₄ h₄ => ?_) fun _ _ e => e
    obtain ⟨h₄, tk₄, news₄, rfl, F₄, N₄, off₄, _, P₄⟩ := h₄
    have zJ := (N₄ (J, oJ) List.mem_cons_self).1
    have zC := (N₄ (C, oC) (List.mem_cons_of_mem _ List.mem_cons_self)).1
    have zD := (N₄ (D, LCg.lst ys) (List.mem_cons_of_mem _ (List.mem_cons_of_mem _ List.mem_cons_self))).1
    have N₄' : News h₀ L h₄ news₄ := fun p hp => N₄ p (List.mem_cons_of_mem _ (List.mem_cons_of_mem _ (List.mem_cons_of_mem _ hp)))
    refine append_at (hsz := by show ys.toArray.size ≤ sizeLine; rw [List.size_toArray]; exact Nat.le_trans (hP _ _ _ hPi) (Nat.le_trans (by decide) sizeLine_ge)) zD fun h₅ hs₅ hD₅ => ?_
    have off4 := off₄.mem
    refine ⟨n + 1 - (i + 1), by omega, .at h₅ tk₄ (i + 1) (ys ++ [y]) _ news₄ hlt ?_ (F₄.change hs₅ hD.2.1 hD.2.2) ((hoC.ns zC).sameBut hs₅ hCD) (hK _ _ hK') ?_ off₄ P₄⟩
    · exact W.frame _ _ _ (iter_obj hst₃ heJ zJ) fun b hb o e => hs₅.extBut b o (by rw [List.mem_singleton.mp hb]; exact hJD) e
    · intro p hp
      rcases List.mem_cons.mp hp with rfl | hp
      · exact ⟨hD₅.trans (congrArg some (LCg.lst_snoc ys y)), hD.2⟩
      · exact ⟨hs₅.extBut _ _ (off4 p hp).2.2 (N₄' p hp).1, (N₄' p hp).2⟩
  · obtain rfl : i = n := Nat.le_antisymm hi (Nat.not_lt.mp hlt)
    refine W.done _ _ _ hst fun h₂ tk₂ hk₂ => ?_
    have off3 := off'.mem
    exact fin h₂ tk₂ mc ys news (LCg.fr_but F' hk₂ (Ne.symm hJL) hJ₀) (hn'.at' fun o e => hk₂ _ o (by simpa using Ne.symm hJC) e) hK' (LCg.news_but N' hk₂ fun p hp => by
      rcases List.mem_cons.mp hp with rfl | hp
      · exact Ne.symm hJD
      · exact (off3 p hp).1) off' hPi
end
end Mine
end
-- part R14
section
open PySem PySem.W PySem.Calls PyProof.Rows
namespace Mine
section
variable {prog : Program} {w : World} {A : Around} {E : Value → Shared → Prop} {R : Result → Shared → Prop} {s : Shared} {h₀ : Heap} {L : Addr} {m : Str → Option Value} {env : Env}
abbrev Off4 (J J₂ C D : Addr) (nw : List (Addr × Obj)) : Prop := ∀ p ∈ nw, p.1 ≠ J ∧ p.1 ≠ J₂ ∧ p.1 ≠ C ∧ p.1 ≠ D
def IterEnd (h₀ : Heap) (L : Addr) (m : Str → Option Value) (s : Shared) (a : Int) (n : Nat) (led : List (Addr × Obj)) (xv : Value) (s' : Shared) : Prop :=
  ∃ h' tk' r b t u v, s' = { s with heap := h', toks := tk' } ∧ xv = .ref r ∧ IsRange h' r a b 1 t u v ∧ Builtin.Range.small a b 1 = true ∧ Builtin.Range.rangeSize a b 1 = ((n : Nat) : Int) ∧ Fr h₀ L h' m ∧ News h₀ L h' led
def EltEnd (h₀ : Heap) (L : Addr) (m : Str → Option Value) (s : Shared) (J J₂ C D : Addr) (oJ oJ₂ oC : Obj) (ys : List Value) (P : List Value → List (Addr × Obj) → Prop) (y : Value) (s' : Shared) : Prop :=
  ∃ h' tk' nw', s' = { s with heap := h', toks := tk' } ∧ Fr h₀ L h' m ∧ News h₀ L h' ((J₂, oJ₂) :: (C, oC) :: (D, LCg.lst ys) :: (J, oJ) :: nw') ∧ Off4 J J₂ C D nw' ∧ P (ys ++ [y]) nw'
/-- what a comprehension of two clauses over ranges asks of its parts -/
structure Two (prog : Program) (w : World) (A : Around) (h₀ : Heap) (L : Addr) (m : Str → Option Value) (env : Env) (elt i₁ : Expr) (x x₂ : Str) (scope : Scope) (cl : List (Str × Addr)) (s : Shared) (n : Nat) (a : Int) (n₂ : Nat → Nat) (a₂ : Nat → Int) (P : Nat → Nat → List Value → List (Addr × Obj) → Prop) : Prop where
  len : ∀ i j ys nw, P i j ys nw → ys.length ≤ 1000
  next : ∀ i ys nw, i < n → P i (n₂ i) ys nw → P (i + 1) 0 ys nw
  iter : ∀ i ys nw J oJ C oC D mc t h tk (E' : Value → Shared → Prop), i < n → P i 0 ys nw → LCg.NsObj oC mc → mc x = some (.int (a + (i : Int)) t) → Fr h₀ L h m → News h₀ L h ((J, oJ) :: (C, oC) :: (D, LCg.lst ys) :: nw) →
    wpAny (model prog w) A (eval i₁ (compEnvC scope cl C env)) (IterEnd h₀ L m { s with heap := h, toks := tk } (a₂ i) (n₂ i) ((J, oJ) :: (C, oC) :: (D, LCg.lst ys) :: nw)) E' { s with heap := h, toks := tk }
  elt : ∀ i j ys nw J oJ J₂ oJ₂ C oC D mc t t₂ h tk (E' : Value → Shared → Prop), i < n → j < n₂ i → P i j ys nw → LCg.NsObj oC mc → mc x = some (.int (a + (i : Int)) t) → mc x₂ = some (.int (a₂ i + (j : Int)) t₂) → Fr h₀ L h m →
    News h₀ L h ((J₂, oJ₂) :: (C, oC) :: (D, LCg.lst ys) :: (J, oJ) :: nw) → Off4 J J₂ C D nw →
    wpAny (model prog w) A (eval elt (compEnvC scope cl C env)) (EltEnd h₀ L m { s with heap := h, toks := tk } J J₂ C D oJ oJ₂ oC ys (P i (j + 1))) E' { s with heap := h, toks := tk }
theorem block_2 {elt iter i₁ : Expr} {x x₂ : Str} {px px₂ : Pos} {scope : Scope} {cl : List (Str × Addr)} {pos : Pos} {s₂ : Shared} {J : Addr} {n : Nat} {a : Int} {n₂ : Nat → Nat} {a₂ : Nat → Int} {P : Nat → Nat → List Value → List (Addr × Obj) → Prop} {news : List (Addr × Obj)}
    {RR : Value → Addr → Result → Shared → Prop}
    (U : Two prog w A h₀ L m env elt i₁ x x₂ scope cl s₂ n a n₂ a₂ P)
    (hh : A.handled = none) (hcell : ∀ y ∈ scope.names, y.2 ≠ .cell) (hkind : scope.kind = .function) (hx : scope.names.lookup x = some .local) (hx₂ : scope.names.lookup x₂ = some .local) (hxx : x ≠ x₂) (hit : IsRangeIter s₂.heap J (a + ((0 : Nat) : Int) * 1) ((n : Int) - ((0 : Nat) : Int)) 1)
    (F : Fr h₀ L s₂.heap m) (N : News h₀ L s₂.heap news) (hJL : J ≠ L) (hJ₀ : h₀.get? J = none) (off : ∀ p ∈ news, p.1 ≠ J)
    (h0 : P 0 0 [] news) (hfs : ∀ C y, foldedSetIterable i₁ (compEnvC scope cl C env) y = pure y)
    (hRR : ∀ D C h tk m' ys news', Fr h₀ L h m → News h₀ L h ((D, LCg.lst ys) :: news') → LCg.Off1 D news' → h.Ns C m' → h₀.get? C = none → h₀.get? D = none → C ≠ L → D ≠ L → C ≠ D → (∀ p ∈ news', p.1 ≠ C) → P n 0 ys news' → RR (.ref D) C (.ok .next) { s₂ with heap := h, toks := tk }) :
    wpAny (model prog w) A (newList []) (fun acc s₃ => wpAny (model prog w) A (newFunctionEnv scope env.globals cl [] env.qual none .none (some env)) (fun cenv s₄ =>
      codeAny (model prog w) A (.compStart (comp2 elt (.Name x px) iter (.Name x₂ px₂) i₁ scope pos) 0 (.ref J) acc { cenv with scope := relabel scope env }) (RR acc cenv.locals) s₄) E s₃) E s₂ := by
  refine wpAny_newObj_type (wpAny_newFunctionEnv hcell (by intro y hy; simp at hy) (fun h₁ hns₁ hsb₁ => ?_) hkind)
  dsimp only at hns₁ hsb₁ ⊢
  generalize hH2 : s₂.heap.push { cls := .type "list", dict := none, data := .seq ([] : List Value).toArray } = H2 at hns₁ hsb₁ ⊢
  have hC : H2.objs.size = s₂.heap.objs.size + 1 := by rw [← hH2, Heap.size_push]
  have hDC : s₂.heap.objs.size ≠ H2.objs.size := by rw [hC]; exact Nat.ne_of_lt (Nat.lt_succ_self _)
  have below : ∀ b, b < s₂.heap.objs.size → b ≠ H2.objs.size ∧ b ≠ s₂.heap.objs.size := fun b hb => ⟨by rw [hC]; exact Nat.ne_of_lt (Nat.lt_succ_of_lt hb), Nat.ne_of_lt hb⟩
  have hJlt : J < s₂.heap.objs.size := Heap.lt_size hit
  have old : ∀ b o, s₂.heap.get? b = some o → h₁.get? b = some o := fun b o e => hsb₁.extBut b o (below b (Heap.lt_size e)).1 (Heap.get?_push_of_some _ (hH2 ▸ Heap.get?_push_of_some _ e))
  have hacc : h₁.get? s₂.heap.objs.size = some (LCg.lst []) := hsb₁.extBut _ _ hDC (Heap.get?_push_of_some _ (hH2 ▸ Heap.get?_push_size _ rfl))
  have hit₁ : IsRangeIter h₁ J (a + ((0 : Nat) : Int) * 1) ((n : Int) - ((0 : Nat) : Int)) 1 := old _ _ hit
  have fresh : ∀ b, s₂.heap.objs.size ≤ b → s₂.heap.get? b = none := fun b hb => by
    cases e : s₂.heap.get? b with
    | none => rfl
    | some o' => exact absurd (Heap.lt_size e) (Nat.not_lt.mpr hb)
  have fresh₀ : ∀ b, s₂.heap.objs.size ≤ b → h₀.get? b = none := fun b hb => by
    cases e : h₀.get? b with
    | none => rfl
    | some o' => have := F.keep b o' e; rw [fresh b hb] at this; cases this
  have hD₀ : h₀.get? s₂.heap.objs.size = none := fresh₀ _ (Nat.le_refl _)
  have hC₀ : h₀.get? H2.objs.size = none := fresh₀ _ (by rw [hC]; exact Nat.le_succ _)
  have hLlt : L < s₂.heap.objs.size := F.ns.lt
  have hDL : s₂.heap.objs.size ≠ L := Ne.symm (below L hLlt).2
  have hCL : H2.objs.size ≠ L := Ne.symm (below L hLlt).1
  have hJC : J ≠ H2.objs.size := (below J hJlt).1
  have hJD : J ≠ s₂.heap.objs.size := (below J hJlt).2
  have off₀ : LCg.Off3 J H2.objs.size s₂.heap.objs.size news := LCg.Off3.of fun p hp => ⟨off p hp, (below _ (Heap.lt_size (N p hp).1)).1, (below _ (Heap.lt_size (N p hp).1)).2⟩
  have W := LCg.range_walks (prog := prog) (w := w) (A := A) (I := J) hh a n
  have loop : ∀ s₃ : Shared, s₃ = { s₂ with heap := h₁, toks := s₂.toks + ([] : List (Str × Value)).length } →
      codeAny (model prog w) A (.compLoop (comp2 elt (.Name x px) iter (.Name x₂ px₂) i₁ scope pos) 0 (.ref J) (.ref s₂.heap.objs.size) (compEnvC scope cl H2.objs.size env))
        (RR (.ref s₂.heap.objs.size) H2.objs.size) s₃ := by
    rintro s₃ rfl
    refine loop_outer (LedAt h₀ L m s₂ J H2.objs.size s₂.heap.objs.size n a (fun _ => True) (fun i => P i 0)) ?_ (n + 1)
      (.at h₁ _ 0 [] _ news (Nat.zero_le _) hit₁ (F.keeps old) hns₁ trivial (fun p hp => ?_) off₀ h0) (hfs _)
    · rintro k s' ⟨h', tk, i, ys, mc, nw, hi, hst, F', hn', _, N', off', hPi⟩
      by_cases hlt : i < n
      · refine W.item i _ _ _ hlt hst fun v h₂ tk₂ hPv hst₂ hk₂ => ?_
        obtain ⟨t, rfl⟩ := hPv
        refine wpAny_assign_Name (wpAny_storeName_local (lookup_relabel_local hx) (hn'.at' fun o e => hk₂ _ o (by simpa using Ne.symm hJC) e) (fun h₃ hn₃ hs₃ => ?_) (by simp [compEnvC, relabel, hkind]))
        have off3 := off'.mem
        have hst₃ : IsRangeIter h₃ J (a + ((i + 1 : Nat) : Int) * 1) ((n : Int) - ((i + 1 : Nat) : Int)) 1 := W.frame _ _ _ hst₂ fun b hb o e => hs₃.extBut b o (by rw [List.mem_singleton.mp hb]; exact hJC) e
        have F₃ : Fr h₀ L h₃ m := (LCg.fr_but F' hk₂ (Ne.symm hJL) hJ₀).change hs₃ hCL hC₀
        have N₂ : News h₀ L h₂ ((s₂.heap.objs.size, LCg.lst ys) :: nw) := LCg.news_but N' hk₂ fun p hp => by
          rcases List.mem_cons.mp hp with rfl | hp
          · exact Ne.symm hJD
          · exact (off3 p hp).1
        obtain ⟨oC, heC, hoC⟩ := LCg.ns_obj hn₃
        obtain ⟨oJ, heJ⟩ : ∃ o, h₃.get? J = some o := ⟨_, hst₃⟩
        have N₃ : News h₀ L h₃ ((J, oJ) :: (H2.objs.size, oC) :: (s₂.heap.objs.size, LCg.lst ys) :: nw) := fun p hp => by
          rcases List.mem_cons.mp hp with rfl | hp
          · exact ⟨heJ, hJL, hJ₀⟩
          · rcases List.mem_cons.mp hp with rfl | hp
            · exact ⟨heC, hCL, hC₀⟩
            · have z := N₂ p hp
              refine ⟨hs₃.extBut _ _ ?_ z.1, z.2⟩
              rcases List.mem_cons.mp hp with rfl | hp
              · exact hDC
              · exact (off3 p hp).2.1
        refine wpAny_mono (U.iter i ys nw J oJ H2.objs.size oC s₂.heap.objs.size _ t h₃ _ _ hlt hPi hoC (by simp) F₃ N₃) (fun xv s₄ h₄ => ?_) fun _ _ e => e
        obtain ⟨h₄, tk₄, r, b, t', u', v', rfl, rfl, hr, hsm, hrs, F₄, N₄⟩ := h₄
        refine wpAny_pyIter_range hr hsm ?_
        have up : ∀ b' o, h₄.get? b' = some o → (h₄.push ({ cls := .type "range_iterator", data := .fields #[rawInt (a₂ i), rawInt (Builtin.Range.rangeSize (a₂ i) b 1), rawInt 1] } : Obj)).get? b' = some o := fun b' o e => Heap.get?_push_of_some _ e
        have zJ := (N₄ (J, oJ) List.mem_cons_self).1
        have zC := (N₄ (H2.objs.size, oC) (List.mem_cons_of_mem _ List.mem_cons_self)).1
        have zD := (N₄ (s₂.heap.objs.size, LCg.lst ys) (List.mem_cons_of_mem _ (List.mem_cons_of_mem _ List.mem_cons_self))).1
        have fr4 : ∀ b' o, h₄.get? b' = some o → b' ≠ h₄.objs.size := fun b' o e => Nat.ne_of_lt (Heap.lt_size e)
        have hit₄ : IsRangeIter (h₄.push ({ cls := .type "range_iterator", data := .fields #[rawInt (a₂ i), rawInt (Builtin.Range.rangeSize (a₂ i) b 1), rawInt 1] } : Obj)) h₄.objs.size (a₂ i + ((0 : Nat) : Int) * 1) (((n₂ i : Nat) : Int) - ((0 : Nat) : Int)) 1 := by
          show IsRangeIter _ _ _ _ _
          rw [hrs]; simpa using Heap.get?_push_size (h := h₄) (o := ({ cls := .type "range_iterator", data := .fields #[rawInt (a₂ i), rawInt ((n₂ i : Nat) : Int), rawInt 1] } : Obj)) rfl
        have hJ2₀ : h₀.get? h₄.objs.size = none := by
          cases e : h₀.get? h₄.objs.size with
          | none => rfl
          | some o' => exact absurd (Heap.lt_size (F₄.keep _ _ e)) (Nat.lt_irrefl _)
        have N₄' : News h₀ L h₄ nw := fun p hp => N₄ p (List.mem_cons_of_mem _ (List.mem_cons_of_mem _ (List.mem_cons_of_mem _ hp)))
        refine (fun main => start_inner main (wpAny_pyIter_rangeiter hit₄ main)) ?_
        refine inner_led
          (s := { s₂ with heap := h₄.push ({ cls := .type "range_iterator", data := .fields #[rawInt (a₂ i), rawInt (Builtin.Range.rangeSize (a₂ i) b 1), rawInt 1] } : Obj), toks := tk₄ }) (h₀ := h₀) (L := L) (m := m) (env := env) (elt := elt) (i₀ := iter) (i₁ := i₁) (t₀ := .Name x px) (x₂ := x₂) (px₂ := px₂) (scope := scope) (cl := cl) (pos := pos) (J := h₄.objs.size) (C := H2.objs.size) (D := s₂.heap.objs.size) (n := n₂ i) (a := a₂ i)
          (fun j ys nw' => ∃ nw, nw' = (J, oJ) :: nw ∧ Off4 J h₄.objs.size H2.objs.size s₂.heap.objs.size nw ∧ P i j ys nw) (fun mc => mc x = some (.int (a + (i : Int)) t)) ?_ ?_ hh hkind hx₂ hit₄ (ys₀ := ys) (news₀ := (J, oJ) :: nw) (F₄.keeps up) ((hoC.ns zC).at' fun o e => up _ o e) (by simp) ?_ ?_ ?_ hJ2₀ ?_ hC₀ hCL ?_ ?_ ?_
        · rintro j ys' nw' ⟨nw, rfl, _, p⟩; exact U.len _ _ _ _ p
        · intro mc v hm
          show (if x = x₂ then v else mc x) = _
          rw [if_neg hxx]; exact hm
        · intro p hp
          rcases List.mem_cons.mp hp with rfl | hp
          · exact ⟨up _ _ zD, hDL, hD₀⟩
          · rcases List.mem_cons.mp hp with rfl | hp
            · exact ⟨up _ _ zJ, hJL, hJ₀⟩
            · exact ⟨up _ _ (N₄' p hp).1, (N₄' p hp).2⟩
        · refine LCg.Off3.of fun p hp => ?_
          rcases List.mem_cons.mp hp with rfl | hp
          · exact ⟨fr4 _ _ zJ, hJC, hJD⟩
          · exact ⟨fr4 _ _ (N₄' p hp).1, (off3 p hp).2⟩
        · exact ⟨Ne.symm (fr4 _ _ zC), Ne.symm (fr4 _ _ zD), Ne.symm hDC⟩
        · intro q
          have q' : h₄.objs.size = L := q
          exact absurd F₄.ns.lt (by rw [q']; exact Nat.lt_irrefl _)
        · exact ⟨nw, rfl, fun p hp => ⟨(off3 p hp).1, fr4 _ _ (N₄' p hp).1, (off3 p hp).2⟩, hPi⟩
        · rintro j ys' nw' oJ₂ oC' mc t₂ h tk E' hj ⟨nw', rfl, o4, hp⟩ hoC' hm₂ hm F' N' _
          refine wpAny_mono (U.elt i j ys' nw' J oJ h₄.objs.size oJ₂ H2.objs.size oC' s₂.heap.objs.size mc t t₂ h tk E' hlt hj hp hoC' hm hm₂ F' N' o4) (fun y s' hq => ?_) fun _ _ e => e
          obtain ⟨h', tk', nw'', rfl, F'', N'', o4', hp'⟩ := hq
          refine ⟨h', tk', (J, oJ) :: nw'', rfl, F'', N'', LCg.Off3.of fun p hp => ?_, trivial, nw'', rfl, o4', hp'⟩
          rcases List.mem_cons.mp hp with rfl | hp
          · exact ⟨fr4 _ _ zJ, hJC, hJD⟩
          · exact (o4' p hp).2
        · rintro h tk mc ys' nw' F' hn' hm N' _ ⟨nw', rfl, o4, hp⟩
          refine ⟨n + 1 - (i + 1), by omega, .at h tk (i + 1) ys' mc nw' hlt (iter_obj hst₃ heJ (N' (J, oJ) (.tail _ (.head _))).1) F' hn' trivial (fun p hp => N' p ?_) (LCg.Off3.of fun p hp => ⟨(o4 p hp).1, (o4 p hp).2.2⟩) (U.next _ _ _ hlt hp)⟩
          rcases List.mem_cons.mp hp with rfl | hp
          · exact .head _
          · exact .tail _ (.tail _ hp)
      · obtain rfl : i = n := Nat.le_antisymm hi (Nat.not_lt.mp hlt)
        refine W.done _ _ _ hst fun h₂ tk₂ hk₂ => ?_
        have off3 := off'.mem
        exact hRR _ _ h₂ tk₂ _ ys nw (LCg.fr_but F' hk₂ (Ne.symm hJL) hJ₀) (LCg.news_but N' hk₂ fun p hp => by
          rcases List.mem_cons.mp hp with rfl | hp
          · exact Ne.symm hJD
          · exact (off3 p hp).1) off'.one (hn'.at' fun o e => hk₂ _ o (by simpa using Ne.symm hJC) e) hC₀ hD₀ hCL hDL (Ne.symm hDC) (fun p hp => (off3 p hp).2.1) hPi
    · rcases List.mem_cons.mp hp with rfl | hp
      · exact ⟨hacc, hDL, hD₀⟩
      · exact ⟨old _ _ (N p hp).1, (N p hp).2⟩
  exact codeAny_compStart_list (loop _ rfl) (W.self 0 _ _ _ hit₁ (loop _ rfl))
end
end Mine
end
-- part R15
section
open PySem PySem.W PySem.Calls PyProof.Rows
namespace Mine
section
variable {prog : Program} {w : World} {A : Around} {E : Value → Shared → Prop} {s : Shared} {h₀ : Heap} {L : Addr} {m : Str → Option Value} {env : Env}
/-- the first iterable of a comprehension of two clauses: a range -/
def Src2 (prog : Program) (w : World) (A : Around) (h₀ : Heap) (L : Addr) (m : Str → Option Value) (env : Env) (elt i₁ : Expr) (x x₂ : Str) (scope : Scope) (cl : List (Str × Addr)) (Fin : Shared → List Value → List (Addr × Obj) → Prop) (xv : Value) (s₁ : Shared) : Prop :=
  ∃ r a b t u v n n₂ a₂ P news, xv = .ref r ∧ A.handled = none ∧ Fr h₀ L s₁.heap m ∧ News h₀ L s₁.heap news ∧ IsRange s₁.heap r a b 1 t u v ∧ Builtin.Range.small a b 1 = true ∧ Builtin.Range.rangeSize a b 1 = ((n : Nat) : Int) ∧
    P 0 0 [] news ∧ ∀ g, Two prog w A h₀ L m env elt i₁ x x₂ scope cl { s₁ with heap := g } n a n₂ a₂ P ∧ ∀ ys nw, P n 0 ys nw → Fin { s₁ with heap := g } ys nw
theorem Src2.intro {elt i₁ : Expr} {x x₂ : Str} {scope : Scope} {cl : List (Str × Addr)} {Fin : Shared → List Value → List (Addr × Obj) → Prop} {r : Addr} {a b : Int} {t u v : Tok} {n : Nat} {news : List (Addr × Obj)} {s₁ : Shared} (n₂ : Nat → Nat) (a₂ : Nat → Int) (P : Nat → Nat → List Value → List (Addr × Obj) → Prop)
    (hh : A.handled = none) (F : Fr h₀ L s₁.heap m) (N : News h₀ L s₁.heap news) (hr : IsRange s₁.heap r a b 1 t u v) (hsm : Builtin.Range.small a b 1 = true) (hn : Builtin.Range.rangeSize a b 1 = ((n : Nat) : Int)) (h0 : P 0 0 [] news)
    (h : ∀ g, Two prog w A h₀ L m env elt i₁ x x₂ scope cl { s₁ with heap := g } n a n₂ a₂ P ∧ ∀ ys nw, P n 0 ys nw → Fin { s₁ with heap := g } ys nw) :
    Src2 prog w A h₀ L m env elt i₁ x x₂ scope cl Fin (.ref r) s₁ := ⟨r, a, b, t, u, v, n, n₂, a₂, P, news, rfl, hh, F, N, hr, hsm, hn, h0, h⟩
theorem Assign_comp2 {elt iter i₁ : Expr} {x x₂ y : Str} {px px₂ py : Pos} {scope : Scope} {cl : List (Str × Addr)} {pos spos : Pos} {Q : Flow → Shared → Prop} (F₀ : Fr h₀ L s.heap m) (hLe : env.locals = L)
    (hsw : swapsWith (comp2 elt (.Name x px) iter (.Name x₂ px₂) i₁ scope pos) (some (.Name y py)) spos.line env = pure true)
    (hclos : closureFor scope env = pure cl) (hcell : ∀ z ∈ scope.names, z.2 ≠ .cell) (hkind : scope.kind = .function)
    (hnames : ∀ z ∈ scope.names, z.2 = .local → scope.names.lookup z.1 = some .local) (hx : scope.names.lookup x = some .local) (hx₂ : scope.names.lookup x₂ = some .local) (hxx : x ≠ x₂)
    (hy : env.kindOf y = some .local) (hp : (env.scope.kind == .class || (env.scope.kind == .module && env.locals != env.globals)) = false)
    (h : wpAny (model prog w) A (eval iter env) (Src2 prog w A h₀ L m env elt i₁ x x₂ scope cl (fun s₂ => LCg.FinA h₀ L m s₂ y Q)) E s)
    (hs : ∀ x, foldedSetIterable iter env x = pure x := by intro _; rfl) (hfs : ∀ C y, foldedSetIterable i₁ (compEnvC scope cl C env) y = pure y := by intro _ _; rfl) :
    wpAny (model prog w) A (exec (.Assign [.Name y py] (comp2 elt (.Name x px) iter (.Name x₂ px₂) i₁ scope pos) spos) env) Q E s := by
  subst hLe
  rw [exec_Assign_Name_used _ _ _ _ hsw]
  refine wpAny_bind (wpAny_standAt (wpAny_bind ?_))
  show wpAny _ A (do let _ ← comprehension (comp2 elt (.Name x px) iter (.Name x₂ px₂) i₁ scope pos) scope env _ (newList []) false (eval iter env) (some (assign (.Name y py) env))) _ _ s
  refine wpAny_bind (wpAny_mono (wpAny_comprehension_free (use := some (assign (.Name y py) env)) (Q := fun _ s' => Q .next s') rfl hs hclos hkind hnames
    (wpAny_mono h (fun xv s₁ h₁ => ?_) fun _ _ e => e)) (fun _ s' hq => wpAny_pure (wpAny_pure hq)) fun _ _ e => e)
  obtain ⟨r, a, b, t, u, v, n, n₂, a₂, P, news, rfl, hh, F, N, hr, hsm, hn, h0, hT⟩ := h₁
  refine wpAny_pyIter_range hr hsm ?_
  obtain ⟨T, hfin⟩ := hT (s₁.heap.push { cls := .type "range_iterator", data := .fields #[rawInt a, rawInt (Builtin.Range.rangeSize a b 1), rawInt 1] })
  refine block_2 T hh hcell hkind hx hx₂ hxx (by show IsRangeIter _ _ _ _ _; rw [hn]; simpa using Heap.get?_push_size _ rfl)
    (F.keeps fun _ _ e => Heap.get?_push_of_some _ e) (N.grown fun _ _ e => Heap.get?_push_of_some _ e) (Ne.symm (Nat.ne_of_lt F.ns.lt)) (next_is_new F) (fun p hp => Nat.ne_of_lt (Heap.lt_size (N p hp).1)) h0 hfs ?_
  intro D C h' tk m' ys news' F' N' o1 hn hC₀ hD₀ hCL hDL hCD offC hPn
  show wpAny _ A (assign (.Name y py) env (.ref D)) _ _ _
  refine wpAny_assign_Name (wpAny_storeName_local hy F'.ns (fun h₂ hn₂ hs₂ => ?_) hp)
  have hL₀ : h₀.get? env.locals = none := Heap.get?_none_of_le F'.above
  have F₂ : Fr h₀ env.locals h₂ (fun z => if z = y then some (.ref D) else m z) := ⟨hn₂, fun b o e => hs₂.extBut b o (fun q => by rw [q, hL₀] at e; cases e) (F'.keep b o e), F'.above⟩
  refine ⟨m', hn.sameBut hs₂ hCL, fun h'' hs'' => hfin ys news' hPn D h'' _ (F₂.change hs'' hCL hC₀) (fun p hp => ?_) o1⟩
  have z : h₂.get? p.1 = some p.2 := hs₂.extBut _ _ (N' p hp).2.1 (N' p hp).1
  refine ⟨hs''.extBut _ _ ?_ z, (N' p hp).2⟩
  rcases List.mem_cons.mp hp with rfl | hp
  · exact Ne.symm hCD
  · exact offC p hp
end
end Mine
end
-- part R16
section
open PySem PySem.W PySem.Calls PyProof.Rows
namespace Mine
/-- a call that hands back a pair of an int and a list of ints, both new -/
theorem use_w {n : Nat} {w : World} {f : Addr} {vs : List Value} {C : Heap → Prop} {up : Nat} {ks : List Int} {mean : ExcName → Option Value} {mg mb : Str → Option Value} {dp un : Nat} {gd : Option (List Code)} {cn : Str} {cs : Scope} {a : Addr} {ccd : Value} {cl : List (Str × Addr)} {outer : List Env} {A₀ : Around} {base h₀ : Heap} {L : Addr} {m : Str → Option Value} {s : Shared} {Q E : Value → Shared → Prop} {news : List (Addr × Obj)}
    (H : SpH n w f vs C (WinPost up ks)) (B : Below A₀ base outer h₀) (F : Fr h₀ L s.heap m) (N : News h₀ L s.heap news) (X : (KK w).In h₀) (T : TT mean mg mb h₀) (hk : cs.kind = .function) (hd : dp + n < recursionLimit) (hu : un + (10 * n + 40) < cLine) (hC : C s.heap)
    (h : ∀ (D D2 : Addr) (t : Tok) (ys : List Value) (h' : Heap) (tk' : Nat), IntsAre ys ks → ys.length ≤ 7 → Fr h₀ L h' m → News h₀ L h' ((D, { cls := .type "tuple", data := .seq #[.int (up : Int) t, .ref D2] }) :: (D2, LCg.lst ys) :: news) → (∀ p ∈ news, p.1 ≠ D ∧ p.1 ≠ D2) → Q (.ref D) { s with heap := h', toks := tk' }) :
    wpAny (model prg w) (ktrTop dp un gd cn cs L a ccd cl outer) (call (.ref f) vs) Q E s :=
  H _ _ _ _ _ _ _ _ _ _ _ _ _ _ _ _ _ _ _ _ B F X T hk hd hu hC fun v h' tk' S ⟨D, D2, t, ys, e, d1, d2, e1, e2, hI, hl⟩ => by
    subst e
    have new : ∀ b, s.heap.get? b = none → b ≠ L ∧ h₀.get? b = none := by
      intro b hb
      constructor
      · intro q
        obtain ⟨oL, es, ep, hL, _⟩ := F.ns
        rw [q, hL] at hb; cases hb
      · cases q : h₀.get? b with
        | none => rfl
        | some o' => have := F.keep _ _ q; rw [hb] at this; cases this
    refine h D D2 t ys h' tk' hI hl (fr_stay F S) ?_ ?_
    · intro p hp
      rcases List.mem_cons.mp hp with rfl | hp
      · exact ⟨e1, new _ d1⟩
      · rcases List.mem_cons.mp hp with rfl | hp
        · exact ⟨e2, new _ d2⟩
        · exact news_stay N S p hp
    · intro p hp
      have z := (N p hp).1
      constructor
      · intro q; rw [q, d1] at z; cases z
      · intro q; rw [q, d2] at z; cases z
/-- one step of a window: the two dots ahead, the names that stand -/
def winS (rs : List Int) (a : Nat × List Int) (k : Int) : Nat × List Int :=
  if rs.getD k.toNat 0 = 1 then (a.1, a.2 ++ [k])
  else if rs.getD k.toNat 0 = -1 then (if a.2 = [] then (a.1 + 1, []) else (a.1, a.2.dropLast))
  else a
def winP (rs : List Int) (i j : Int) : Nat × List Int := (rangeKs i (j - i).toNat).foldl (winS rs) (0, [])
/-- the windows done ahead of the j-th of the i-th start -/
def doneW (i j : Nat) : List (Int × Int) := (List.range i).flatMap (fun a => (List.range (7 - a)).map fun (b : Nat) => (((a : Nat) : Int), ((a : Nat) : Int) + 1 + (b : Int))) ++ (List.range j).map fun (b : Nat) => (((i : Nat) : Int), ((i : Nat) : Int) + 1 + (b : Int))
theorem doneW_next (i : Nat) : doneW i (7 - i) = doneW (i + 1) 0 := by
  unfold doneW; rw [List.range_succ, List.flatMap_append]; simp
theorem doneW_snoc (i j : Nat) : doneW i (j + 1) = doneW i j ++ [((i : Int), (i : Int) + 1 + (j : Int))] := by
  unfold doneW; rw [List.range_succ]; simp
/-- the list of pairs, spread over the ledger -/
def ToldAre (rs : List Int) (ws : List (Int × Int)) (ys : List Value) (led : List (Addr × Obj)) : Prop :=
  ys.length = ws.length ∧ ∀ (n : Nat) (w : Int × Int), ws[n]? = some w → ∃ (T P : Addr) (t : Tok) (vs : List Value), ys[n]? = some (Value.ref T) ∧ (T, ({ cls := .type "tuple", data := .seq #[.int ((winP rs w.1 w.2).1 : Int) t, .ref P] } : Obj)) ∈ led ∧ (P, LCg.lst vs) ∈ led ∧ IntsAre vs (winP rs w.1 w.2).2 ∧ vs.length ≤ 7
theorem ToldAre.nil (rs : List Int) (led : List (Addr × Obj)) : ToldAre rs [] [] led := ⟨rfl, fun n w h => by simp at h⟩
theorem ToldAre.snoc {rs : List Int} {ws : List (Int × Int)} {ys : List Value} {led : List (Addr × Obj)} {w : Int × Int} {T P : Addr} {t : Tok} {vs : List Value} (h : ToldAre rs ws ys led) (hI : IntsAre vs (winP rs w.1 w.2).2) (hl : vs.length ≤ 7) :
    ToldAre rs (ws ++ [w]) (ys ++ [.ref T]) ((T, ({ cls := .type "tuple", data := .seq #[.int ((winP rs w.1 w.2).1 : Int) t, .ref P] } : Obj)) :: (P, LCg.lst vs) :: led) := by
  refine ⟨by rw [List.length_append, List.length_append, h.1]; rfl, fun n w' hw => ?_⟩
  by_cases hn : n < ws.length
  · rw [List.getElem?_append_left hn] at hw
    obtain ⟨T', P', t', vs', a1, a2, a3, a4, a5⟩ := h.2 n w' hw
    exact ⟨T', P', t', vs', by rw [List.getElem?_append_left (by rw [h.1]; exact hn)]; exact a1, .tail _ (.tail _ a2), .tail _ (.tail _ a3), a4, a5⟩
  · have hn' : n = ws.length := by
      have := (List.getElem?_eq_some_iff.mp hw).1
      simp at this; omega
    subst hn'
    simp at hw
    subst hw
    exact ⟨T, P, t, vs, by rw [← h.1]; simp, .head _, .tail _ (.head _), hI, hl⟩
end Mine
end
-- part R17
section
open PySem PySem.W PySem.Calls PyProof.Rows
namespace Mine
section
variable {prog : Program} {w : World} {A : Around} {E : Value → Shared → Prop} {s : Shared} {env : Env} {h₀ : Heap} {L : Addr} {m : Str → Option Value} {news : List (Addr × Obj)} {body : List Stmt} {Q : Flow → Shared → Prop}
/-- where a turn of a loop over a range ends -/
def TurnTo {σ : Type} (h₀ : Heap) (L : Addr) (mp : σ → Str → Option Value) (led : σ → List (Addr × Obj)) (J : σ → Prop) (own : List (Addr × Obj)) (Q : Flow → Shared → Prop) (s : Shared) (f : Flow) (s₂ : Shared) : Prop :=
  match f with
  | .ret v => Q (.ret v) s₂
  | .brk => Q .next s₂
  | _ => ∃ (a : σ) (h' : Heap) (tk : Nat), s₂ = { s with heap := h', toks := tk } ∧ J a ∧ Fr h₀ L h' (mp a) ∧ News h₀ L h' (led a ++ own)
/-- a for over a range whose target is any name, by an invariant over a state of one's own -/
theorem range_turns {σ : Type} {r : Addr} {a₀ b₀ : Int} {t₀ u₀ v₀ : Tok} {n : Nat} {tn : Str} {tp : Pos} (mp : σ → Str → Option Value) (led : σ → List (Addr × Obj)) (adr : List Addr) (J : Nat → σ → Prop) (a : σ)
    (hh : A.handled = none) (hr : IsRange s.heap r a₀ b₀ 1 t₀ u₀ v₀) (hsm : Builtin.Range.small a₀ b₀ 1 = true) (hn : Builtin.Range.rangeSize a₀ b₀ 1 = ((n : Nat) : Int))
    (F : Fr h₀ env.locals s.heap (mp a)) (N : News h₀ env.locals s.heap (led a)) (hadr : ∀ a, (led a).map (·.1) = adr) (hj : J 0 a)
    (turn : ∀ i a t h tk own, i < n → J i a → (∀ p ∈ own, p.1 ∉ adr) → Fr h₀ env.locals h (mp a) → News h₀ env.locals h (led a ++ own) →
      wpAny (model prog w) A (assign (.Name tn tp) env (.int (a₀ + (i : Int)) t)) (fun _ s₃ => wpAny (model prog w) A (execs body env) (TurnTo h₀ env.locals mp led (J (i + 1)) own Q s) E s₃) E { s with heap := h, toks := tk })
    (done : ∀ a h tk, J n a → Fr h₀ env.locals h (mp a) → News h₀ env.locals h (led a) → Q .next { s with heap := h, toks := tk }) :
    wpAny (model prog w) A (pyIter (.ref r)) (fun it s₂ => TurnsAt prog w A h₀ env (.Name tn tp) body Q E it s₂) E s := by
  refine wpAny_pyIter_range hr hsm ?_
  have W := LCg.range_walks (prog := prog) (w := w) (A := A) (I := s.heap.objs.size) hh a₀ n
  have hI : ∀ a, ∀ p ∈ led a, p.1 ≠ s.heap.objs.size := by
    intro b p hp q
    have h1 : p.1 ∈ adr := by rw [← hadr b]; exact List.mem_map_of_mem hp
    rw [← hadr a] at h1
    obtain ⟨z, hz, e⟩ := List.mem_map.mp h1
    have h2 := Heap.lt_size (N z hz).1
    rw [e, q] at h2
    exact absurd h2 (Nat.lt_irrefl _)
  refine ⟨_, _, _, n, _, _, _, mp a, led a, fun i m₁ news₁ => ∃ a, news₁ = led a ∧ m₁ = mp a ∧ J i a, rfl, KTurns.ofWalks (target := .Name tn tp) W (fun i v s Q E st q => wpAny_pure q), ?_, ?_, ?_, ?_, F.push _, (fun p hp => ⟨Heap.get?_push_of_some _ (N p hp).1, (N p hp).2⟩), ⟨a, rfl, rfl, hj⟩, ?_, ?_⟩
  · intro hm
    have e := List.mem_singleton.mp hm
    exact absurd F.ns.lt (by rw [e]; exact Nat.lt_irrefl _)
  · intro b hb
    rw [List.mem_singleton.mp hb]
    exact next_is_new F
  · intro p hp hm
    exact hI a p hp (List.mem_singleton.mp hm)
  · show IsRangeIter _ _ _ _ _
    rw [hn]; simpa using Heap.get?_push_size _ rfl
  · rintro i v m₁ news₁ h₁ tk₁ own hin ⟨t, rfl⟩ ⟨b, rfl, rfl, hJ⟩ hoff hown hhave _ _ F₁ N₁
    have hsep : ∀ p ∈ own, p.1 ∉ adr := by
      intro p hp hm
      rw [← hadr b] at hm
      obtain ⟨q, hq, e⟩ := List.mem_map.mp hm
      exact hI b q hq (by rw [e]; exact List.mem_singleton.mp (hown p hp))
    have N₂ : News h₀ env.locals h₁ (led b ++ own) := fun p hp => N₁ p ((List.mem_append.mp hp).elim (fun h => List.mem_append.mpr (.inr h)) fun h => List.mem_append.mpr (.inl h))
    refine wpAny_mono (turn i b t h₁ tk₁ own hin hJ hsep F₁ N₂) (fun _ s₃ p => wpAny_mono p (fun f s₄ q => ?_) fun _ _ e => e) fun _ _ e => e
    have fin : (∃ (a : σ) (h' : Heap) (tk : Nat), s₄ = { s with heap := h', toks := tk } ∧ J (i + 1) a ∧ Fr h₀ env.locals h' (mp a) ∧ News h₀ env.locals h' (led a ++ own)) →
        LoopStepU h₀ env.locals [s.heap.objs.size] own (fun m₁ news₁ => ∃ a, news₁ = led a ∧ m₁ = mp a ∧ J (i + 1) a) { s with heap := h₁, toks := tk₁ } .next s₄ := by
      rintro ⟨c, h', tk, rfl, hJ', F', N'⟩
      exact ⟨rfl, h', tk, _, led c, rfl, F', fun p hp => N' p ((List.mem_append.mp hp).elim (fun h => List.mem_append.mpr (.inr h)) fun h => List.mem_append.mpr (.inl h)), fun p hp hm => hI c p hp (List.mem_singleton.mp hm), c, rfl, rfl, hJ'⟩
    cases f with
    | ret v => exact .ret q
    | brk => exact .brk q
    | next => exact .next (fin q)
    | cont => exact .cont (fin q)
  · rintro h' tk m' news' F' N' _ ⟨b, rfl, rfl, hJ⟩
    exact done b h' tk hJ F' N'
end
/-- what stands in the list of pairs, as data -/
def toldD (rs : List Int) (ws : List (Int × Int)) : List Dat := ws.map fun w => Dat.tuple [Dat.int ((winP rs w.1 w.2).1 : Int), Dat.list ((winP rs w.1 w.2).2.map Dat.int)]
theorem dat_ints (news : List (Addr × Obj)) : ∀ {vs : List Value} {ns : List Int}, IntsAre vs ns → DatAll news vs (ns.map Dat.int)
  | _, _, .nil => .nil
  | _, _, .cons n t h => .cons (.int n t) (dat_ints news h)
theorem ToldAre.dat {rs : List Int} {led : List (Addr × Obj)} : ∀ {ws : List (Int × Int)} {ys : List Value}, ToldAre rs ws ys led → DatAll led ys (toldD rs ws)
  | [], [], _ => .nil
  | [], _ :: _, h => by have := h.1; simp at this
  | _ :: _, [], h => by have := h.1; simp at this
  | w :: ws, y :: ys, h => by
    obtain ⟨T, P, t, vs, a1, a2, a3, a4, a5⟩ := h.2 0 w rfl
    have e : y = .ref T := by simpa using a1
    subst e
    refine .cons (.tuple (vs := [.int _ t, .ref P]) a2 (.cons (.int _ _) (.cons (.list a3 (dat_ints led a4)) .nil))) (ToldAre.dat ⟨by have := h.1; simpa using this, fun n w' hw => ?_⟩)
    obtain ⟨T, P, t, vs, b1, b2⟩ := h.2 (n + 1) w' (by simpa using hw)
    exact ⟨T, P, t, vs, by simpa using b1, b2⟩
theorem none_in {prog : Program} {w : World} {A : Around} {E : Value → Shared → Prop} {s : Shared} {h₀ : Heap} {L a : Addr} {news led : List (Addr × Obj)} {rs : List Int} {ws : List (Int × Int)} {ys : List Value} {Q : Value → Shared → Prop}
    (N : News h₀ L s.heap news) (hm : (a, LCg.lst ys) ∈ news) (ht : ToldAre rs ws ys led) (sub : ∀ p ∈ led, p ∈ news) (hu : A.units + 64 < cLine) (h : Q (.bool false) s) : wpAny (model prog w) A (compareOp .In .none (.ref a)) Q E s := by
  classical
  refine kqd_isIn (ka := ys.length) (n₂ := []) (d := Dat.none) N hm rfl rfl ht.dat sub DatIn.none (by simp) ?_ rfl hu ?_
  · intro d hd
    obtain ⟨w, _, rfl⟩ := List.mem_map.mp hd
    show (kqdOk 7 (Dat.int ((winP rs w.1 w.2).1 : Int)) && (kqdOk 7 (Dat.list ((winP rs w.1 w.2).2.map Dat.int)) && true)) = true
    rw [Bool.and_true]
    refine Bool.and_eq_true_iff.mpr ⟨rfl, ?_⟩
    show (List.map Dat.int (winP rs w.1 w.2).2).all (kqdOk 6) = true
    rw [List.all_map, List.all_eq_true]
    intro x _; rfl
  · have hno : ¬ (Dat.none ∈ toldD rs ws) := by
      intro hd
      obtain ⟨w, _, e⟩ := List.mem_map.mp hd
      cases e
    rw [decide_eq_false hno]; exact h
end Mine
end
-- part R18
section
open PySem PySem.W PySem.Calls PyProof.Rows
namespace Mine
section
variable {prog : Program} {w : World} {A : Around} {E : Value → Shared → Prop} {R : Result → Shared → Prop} {s : Shared} {h₀ : Heap} {L : Addr} {m : Str → Option Value} {env : Env}
/-- the loop of a list comprehension whose target is a tuple, with tests -/
theorem loop_tests {elt target iter : Expr} {ifs : List Expr} {scope : Scope} {pos : Pos} {it acc : Value} {env : Env} (I : Nat → Shared → Prop)
    (turn : ∀ n s, I n s → wpAny (model prog w) A (pyNext it) (fun r s₁ => match r with
      | none => R (.ok .next) s₁
      | some v => wpAny (model prog w) A (letOwnedTupleGo target it v) (fun _ s₁' => wpAny (model prog w) A (assign target env v) (fun _ s₂ =>
          wpAny (model prog w) A (forIn ifs true fun c r => if r = true then do let ok ← isTrue c env (eval c env); pure (ForInStep.yield ok) else pure (ForInStep.yield r)) (fun ok s₃ =>
            if ok = true then wpAny (model prog w) A (eval elt env) (fun x s₄ =>
              wpAny (model prog w) A (call (.builtin "list.append") [acc, x]) (fun _ s₅ => ∃ m, m < n ∧ I m s₅) (offE prog w A env R) s₄) (offE prog w A env R) s₃
            else ∃ m, m < n ∧ I m s₃) (offE prog w A env R) s₂) (offE prog w A env R) s₁') (offE prog w A env R) s₁) (offE prog w A env R) s)
    (n : Nat) (h : I n s) : codeAny (model prog w) A (.compLoop (.ListComp elt [⟨target, iter, ifs, 0⟩] scope pos) 0 it acc env) R s := by
  refine codeAny_loop rfl I (fun n s hI => ?_) n h
  show wpAny _ A ((compTurn (.ListComp elt [⟨target, iter, ifs, 0⟩] scope pos) 0 it acc env).onRaise (fun x => do noteFrame x env; theTreesLotGoes x)) _ _ s
  refine wpAny_noted ?_
  rw [compTurn_list]
  refine wpAny_bind (wpAny_standAt (wpAny_bind (wpAny_mono (turn n s hI) (fun r s₁ h₁ => ?_) fun _ _ h' => h')))
  cases r with
  | none => exact wpAny_pure h₁
  | some v =>
    refine wpAny_bind (wpAny_mono h₁ (fun _ s₁' h₁' => ?_) fun _ _ h' => h')
    refine wpAny_bind (wpAny_mono h₁' (fun _ s₂ h₂ => wpAny_bind (wpAny_mono h₂ (fun ok s₃ h₃ => ?_) fun _ _ h' => h')) fun _ _ h' => h')
    cases ok with
    | false => exact wpAny_pure ⟨rfl, h₃⟩
    | true =>
      exact wpAny_bind (wpAny_bind (wpAny_mono h₃ (fun x s₄ h₄ => wpAny_bind (wpAny_mono h₄ (fun _ s₅ h₅ => wpAny_pure (wpAny_pure ⟨rfl, h₅⟩)) fun _ _ h' => h')) fun _ _ h' => h'))
/-- the test and the element of a comprehension over pairs -/
def PairTurn (prog : Program) (w : World) (A : Around) (h₀ : Heap) (L : Addr) (m : Str → Option Value) (env : Env) (ct elt : Expr) (x x₂ : Str) (scope : Scope) (cl : List (Str × Addr)) (s : Shared) (news : List (Addr × Obj)) (P : Nat → List Value → Prop) (i : Nat) (v : Value) : Prop :=
  ∃ (T : Addr) (v₁ v₂ : Value), v = .ref T ∧ (T, ({ cls := .type "tuple", data := .seq #[v₁, v₂] } : Obj)) ∈ news ∧
    ∀ ys J oJ C oC D m₂ h tk (E' : Value → Shared → Prop), P i ys → LCg.NsObj oC m₂ → m₂ x = some v₁ → m₂ x₂ = some v₂ → Fr h₀ L h m → News h₀ L h ((J, oJ) :: (C, oC) :: (D, LCg.lst ys) :: news) → LCg.Off3 J C D news → ((@Ne Nat J C) ∧ (@Ne Nat J D) ∧ (@Ne Nat C D)) →
      wpAny (model prog w) A (isTrue ct (compEnvC scope cl C env) (eval ct (compEnvC scope cl C env))) (fun b s' => if b = true then wpAny (model prog w) A (eval elt (compEnvC scope cl C env)) (LCg.CompEnd h₀ L m { s with heap := h, toks := tk } J oJ C oC D (LCg.lst ys) (fun _ => True) (fun y news' => news' = news ∧ P (i + 1) (ys ++ [y]))) E' s'
        else LCg.CompEnd h₀ L m { s with heap := h, toks := tk } J oJ C oC D (LCg.lst ys) (fun _ => True) (fun _ news' => news' = news ∧ P (i + 1) ys) Value.none s') E' { s with heap := h, toks := tk }
/-- where the loop stands ahead of a turn -/
inductive PtAt (h₀ : Heap) (L : Addr) (m : Str → Option Value) (s : Shared) (J ax C D : Addr) (its : List Value) (news : List (Addr × Obj)) (P : Nat → List Value → Prop) : Nat → Shared → Prop
  | at (h' : Heap) (tk i : Nat) (ys : List Value) (mc : Str → Option Value) (hi : i ≤ its.length) (hst : h'.IsListIter J ax i ∧ h'.IsList ax its.toArray) (F : Fr h₀ L h' m) (hn : h'.Ns C mc) (N : News h₀ L h' ((D, LCg.lst ys) :: news)) (hP : P i ys) :
    PtAt h₀ L m s J ax C D its news P (its.length + 1 - i) { s with heap := h', toks := tk }
theorem ListComp_pt {elt ct iter : Expr} {x x₂ : Str} {px px₂ tp : Pos} {kk : Nat} {scope : Scope} {cl : List (Str × Addr)} {pos : Pos} {Q : Value → Shared → Prop} {ax : Addr} {its : List Value} {kn : Nat} {news : List (Addr × Obj)} (P : Nat → List Value → Prop)
    (hh : A.handled = none) (hclos : closureFor scope env = pure cl) (hcell : ∀ y ∈ scope.names, y.2 ≠ .cell) (hkind : scope.kind = .function)
    (hnames : ∀ y ∈ scope.names, y.2 = .local → scope.names.lookup y.1 = some .local) (hx : scope.names.lookup x = some .local) (hx₂ : scope.names.lookup x₂ = some .local) (hxx : x ≠ x₂)
    (hsrc : wpAny (model prog w) A (eval iter env) (fun xv s₁ => ∃ h' tk', s₁ = { s with heap := h', toks := tk' } ∧ xv = .ref ax ∧ Fr h₀ L h' m ∧ News h₀ L h' news) E s)
    (hm : (ax, ({ cls := .type "list", data := .seq its.toArray kn } : Obj)) ∈ news) (hsz : its.length ≤ 1000) (h0 : P 0 []) (hP : ∀ i ys, P i ys → ys.length ≤ i)
    (turn : ∀ i v, its[i]? = some v → PairTurn prog w A h₀ L m env ct elt x x₂ scope cl s news P i v)
    (fin : ∀ D ys h tk, P its.length ys → Fr h₀ L h m → News h₀ L h ((D, LCg.lst ys) :: news) → (∀ p ∈ news, p.1 ≠ D) → Q (.ref D) { s with heap := h, toks := tk })
    (hs : ∀ x, foldedSetIterable iter env x = pure x := by intro _; rfl) :
    wpAny (model prog w) A (eval (.ListComp elt [⟨.Tuple [.Name x px, .Name x₂ px₂] kk tp, iter, [ct], 0⟩] scope pos) env) Q E s := by
  rw [eval_ListComp]
  refine wpAny_comprehension_free (use := none) rfl hs hclos hkind hnames (wpAny_mono hsrc (fun xv s₁ h₁ => ?_) fun _ _ e => e)
  obtain ⟨hp₁, tk₁, rfl, rfl, F, N⟩ := h₁
  have hl : hp₁.IsList ax its.toArray := ⟨_, (N _ hm).1, rfl, _, rfl⟩
  have hlt : ax < hp₁.objs.size := by obtain ⟨_, e, _⟩ := hl; exact Heap.lt_size e
  refine wpAny_pyIter_list hl ?_
  have up : ∀ b o, hp₁.get? b = some o → (hp₁.push { cls := .type "list_iterator", data := .fields #[.ref ax, .int 0 0] }).get? b = some o := fun b o e => Heap.get?_push_of_some _ e
  have F₀ : Fr h₀ L (hp₁.push { cls := .type "list_iterator", data := .fields #[.ref ax, .int 0 0] }) m := F.keeps up
  have N₀ : News h₀ L (hp₁.push { cls := .type "list_iterator", data := .fields #[.ref ax, .int 0 0] }) news := N.grown up
  have hit : (hp₁.push { cls := .type "list_iterator", data := .fields #[.ref ax, .int 0 0] }).IsListIter hp₁.objs.size ax 0 := ⟨_, Heap.get?_push_size _ rfl, rfl, rfl⟩
  have hJL : hp₁.objs.size ≠ L := Ne.symm (Nat.ne_of_lt F.ns.lt)
  have hJ₀ : h₀.get? hp₁.objs.size = none := next_is_new F
  have hJn : ∀ p ∈ news, p.1 ≠ hp₁.objs.size := fun p hp => Nat.ne_of_lt (Heap.lt_size (N p hp).1)
  have hlJ := hl.push { cls := .type "list_iterator", data := .fields #[.ref ax, .int 0 0] }
  have W := Walks.list (prog := prog) (w := w) hh hp₁.objs.size ax (Nat.ne_of_lt hlt) its.toArray
  have hIlt : hp₁.objs.size < (hp₁.push { cls := .type "list_iterator", data := .fields #[.ref ax, .int 0 0] }).objs.size := by rw [Heap.size_push]; exact Nat.lt_succ_self _
  generalize hHp : hp₁.push { cls := .type "list_iterator", data := .fields #[.ref ax, .int 0 0] } = H1 at *
  generalize hp₁.objs.size = J at *
  clear hHp up
  refine wpAny_newObj_type (wpAny_newFunctionEnv hcell (by intro y hy; simp at hy) (fun h₁ hns₁ hsb₁ => ?_) hkind)
  dsimp only at hns₁ hsb₁ ⊢
  generalize hH2 : H1.push { cls := .type "list", dict := none, data := .seq ([] : List Value).toArray } = H2 at hns₁ hsb₁ ⊢
  have hC : H2.objs.size = H1.objs.size + 1 := by rw [← hH2, Heap.size_push]
  have hDC : H1.objs.size ≠ H2.objs.size := by rw [hC]; exact Nat.ne_of_lt (Nat.lt_succ_self _)
  have below : ∀ b, b < H1.objs.size → b ≠ H2.objs.size ∧ b ≠ H1.objs.size := fun b hb => ⟨by rw [hC]; exact Nat.ne_of_lt (Nat.lt_succ_of_lt hb), Nat.ne_of_lt hb⟩
  have old : ∀ b o, H1.get? b = some o → h₁.get? b = some o := fun b o e => hsb₁.extBut b o (below b (Heap.lt_size e)).1 (Heap.get?_push_of_some _ (hH2 ▸ Heap.get?_push_of_some _ e))
  have hacc : h₁.get? H1.objs.size = some (LCg.lst []) := hsb₁.extBut _ _ hDC (Heap.get?_push_of_some _ (hH2 ▸ Heap.get?_push_size _ rfl))
  have fresh : ∀ b, H1.objs.size ≤ b → H1.get? b = none := fun b hb => by
    cases e : H1.get? b with
    | none => rfl
    | some o' => exact absurd (Heap.lt_size e) (Nat.not_lt.mpr hb)
  have fresh₀ : ∀ b, H1.objs.size ≤ b → h₀.get? b = none := fun b hb => by
    cases e : h₀.get? b with
    | none => rfl
    | some o' => have := F₀.keep b o' e; rw [fresh b hb] at this; cases this
  have hD₀ : h₀.get? H1.objs.size = none := fresh₀ _ (Nat.le_refl _)
  have hC₀ : h₀.get? H2.objs.size = none := fresh₀ _ (by rw [hC]; exact Nat.le_succ _)
  have hLlt : L < H1.objs.size := F₀.ns.lt
  have hDL : H1.objs.size ≠ L := Ne.symm (below L hLlt).2
  have hCL : H2.objs.size ≠ L := Ne.symm (below L hLlt).1
  have hJC : J ≠ H2.objs.size := (below J hIlt).1
  have hJD : J ≠ H1.objs.size := (below J hIlt).2
  have off : LCg.Off3 J H2.objs.size H1.objs.size news := LCg.Off3.of fun p hp => ⟨hJn p hp, (below _ (Heap.lt_size (N₀ p hp).1)).1, (below _ (Heap.lt_size (N₀ p hp).1)).2⟩
  have off3 := off.mem
  have haxC : ax ≠ H2.objs.size := (off3 _ hm).2.1
  have hit₁ : h₁.IsListIter J ax 0 ∧ h₁.IsList ax its.toArray := ⟨by obtain ⟨o, q, r⟩ := hit; exact ⟨o, old _ _ q, r⟩, by obtain ⟨o, q, r⟩ := hlJ; exact ⟨o, old _ _ q, r⟩⟩
  have loop : ∀ s₃ : Shared, s₃ = { s with heap := h₁, toks := tk₁ + ([] : List (Str × Value)).length } →
      codeAny (model prog w) A (.compLoop (.ListComp elt [⟨.Tuple [.Name x px, .Name x₂ px₂] kk tp, iter, [ct], 0⟩] scope pos) 0 (.ref J) (.ref H1.objs.size) (compEnvC scope cl H2.objs.size env))
        (compPost (model prog w) A E none Q (.ref H1.objs.size) H2.objs.size) s₃ := by
    rintro s₃ rfl
    refine loop_tests (PtAt h₀ L m s J ax H2.objs.size H1.objs.size its news P) ?_ (its.length + 1)
      (.at h₁ _ 0 [] _ (Nat.zero_le _) hit₁ (F₀.keeps old) hns₁ (fun p hp => ?_) h0)
    · rintro k s' ⟨h', tk, i, ys, mc, hi, hst, F', hn', N', hPi⟩
      by_cases hlt : i < its.length
      · refine W.item i _ _ _ (by simpa using hlt) hst fun v h₂ tk₂ hPv hst₂ hk₂ => ?_
        obtain ⟨T, v₁, v₂, rfl, hT, R''⟩ := turn i v (by simpa using hPv)
        have N₂ : News h₀ L h₂ ((H1.objs.size, LCg.lst ys) :: news) := LCg.news_but N' hk₂ fun p hp => by
          rcases List.mem_cons.mp hp with rfl | hp
          · exact Ne.symm hJD
          · exact (off3 p hp).1
        have F₂ : Fr h₀ L h₂ m := LCg.fr_but F' hk₂ (Ne.symm hJL) hJ₀
        refine wpAny_letOwnedTupleGo_listiter hst₂.1 ?_
        have hTup : h₂.IsTuple T #[v₁, v₂] := ⟨_, (N₂ _ (List.mem_cons_of_mem _ hT)).1, rfl, _, rfl⟩
        refine kcp_assign (env := compEnvC scope cl H2.objs.size env) hh hTup (lookup_relabel_local hx) (lookup_relabel_local hx₂) (by simp [compEnvC, relabel, hkind]) (hn'.at' fun o e => hk₂ _ o (by simpa using Ne.symm hJC) e) fun h₃ tk₃ hn₃ hs₃ => ?_
        refine wpAny_tests_one ?_
        have hs₃' : ∀ c o, c ≠ H2.objs.size → h₂.get? c = some o → h₃.get? c = some o := hs₃
        have F₃ : Fr h₀ L h₃ m := ⟨F₂.ns.at' fun o e => hs₃' L o (Ne.symm hCL) e, fun c o e => hs₃' c o (fun q => by rw [q, hC₀] at e; cases e) (F₂.keep c o e), F₂.above⟩
        obtain ⟨oC, heC, hoC⟩ := LCg.ns_obj hn₃
        obtain ⟨oJ, heJ₂, hJ1, hJ2⟩ := hst₂.1
        have heJ : h₃.get? J = some oJ := hs₃' _ _ hJC heJ₂
        have N₃ : News h₀ L h₃ ((J, oJ) :: (H2.objs.size, oC) :: (H1.objs.size, LCg.lst ys) :: news) := fun p hp => by
          rcases List.mem_cons.mp hp with rfl | hp
          · exact ⟨heJ, hJL, hJ₀⟩
          · rcases List.mem_cons.mp hp with rfl | hp
            · exact ⟨heC, hCL, hC₀⟩
            · have z := N₂ p hp
              refine ⟨hs₃' _ _ ?_ z.1, z.2⟩
              rcases List.mem_cons.mp hp with rfl | hp
              · exact hDC
              · exact (off3 p hp).2.1
        have goOn : ∀ h₄, News h₀ L h₄ ((J, oJ) :: (H2.objs.size, oC) :: (H1.objs.size, LCg.lst ys) :: news) → (h₄.IsListIter J ax (i + 1) ∧ h₄.IsList ax its.toArray) := fun h₄ N₄ => ⟨⟨oJ, (N₄ _ (.head _)).1, hJ1, hJ2⟩, ⟨_, (N₄ _ (.tail _ (.tail _ (.tail _ hm)))).1, rfl, _, rfl⟩⟩
        refine wpAny_mono (R'' ys J oJ H2.objs.size oC H1.objs.size _ h₃ _ _ hPi hoC (by simp [hxx]) (by simp) F₃ N₃ off ⟨hJC, hJD, Ne.symm hDC⟩) (fun ok s₄ h₄ => ?_) fun _ _ e => e
        cases ok with
        | true =>
          simp only [if_true] at h₄ ⊢
          refine wpAny_mono h₄ (fun y s₅ h₅ => ?_) fun _ _ e => e
          obtain ⟨h₆, tk₄, news₄, rfl, F₄, N₄, _, _, rfl, P₄⟩ := h₅
          have zC := (N₄ (H2.objs.size, oC) (List.mem_cons_of_mem _ List.mem_cons_self)).1
          have zD := (N₄ (H1.objs.size, LCg.lst ys) (List.mem_cons_of_mem _ (List.mem_cons_of_mem _ List.mem_cons_self))).1
          have hst₄ := goOn h₆ N₄
          refine append_at (hsz := by show ys.toArray.size ≤ sizeLine; rw [List.size_toArray]; exact Nat.le_trans (Nat.le_trans (hP _ _ hPi) (Nat.le_trans hi hsz)) (Nat.le_trans (by decide) sizeLine_ge)) zD fun h₅ hs₅ hD₅ => ?_
          refine ⟨its.length + 1 - (i + 1), by omega, .at h₅ tk₄ (i + 1) (ys ++ [y]) _ hlt (W.frame _ _ _ hst₄ fun b hb o e => hs₅.extBut b o ?_ e) (F₄.change hs₅ hDL hD₀) ((hoC.ns zC).sameBut hs₅ (Ne.symm hDC)) ?_ P₄⟩
          · rcases List.mem_cons.mp hb with rfl | hb
            · exact hJD
            · rw [List.mem_singleton.mp hb]; exact (off3 _ hm).2.2
          · intro p hp
            rcases List.mem_cons.mp hp with rfl | hp
            · exact ⟨hD₅.trans (congrArg some (LCg.lst_snoc ys y)), hDL, hD₀⟩
            · have z := N₄ p (.tail _ (.tail _ (.tail _ hp)))
              exact ⟨hs₅.extBut _ _ (off3 p hp).2.2 z.1, z.2⟩
        | false =>
          simp only [Bool.false_eq_true, if_false] at h₄ ⊢
          obtain ⟨h₅, tk₄, news₄, rfl, F₄, N₄, _, _, rfl, P₄⟩ := h₄
          have zC := (N₄ (H2.objs.size, oC) (List.mem_cons_of_mem _ List.mem_cons_self)).1
          exact ⟨its.length + 1 - (i + 1), by omega, .at h₅ tk₄ (i + 1) ys _ hlt (goOn h₅ N₄) F₄ (hoC.ns zC) (fun p hp => N₄ p (.tail _ (.tail _ hp))) P₄⟩
      · obtain rfl : i = its.length := Nat.le_antisymm hi (Nat.not_lt.mp hlt)
        refine W.done _ _ _ (by simpa using hst) fun h₂ tk₂ hk₂ => ?_
        have N₂ : News h₀ L h₂ ((H1.objs.size, LCg.lst ys) :: news) := LCg.news_but N' hk₂ fun p hp => by
          rcases List.mem_cons.mp hp with rfl | hp
          · exact Ne.symm hJD
          · exact (off3 p hp).1
        refine ⟨mc, hn'.at' fun o e => hk₂ _ o (by simpa using Ne.symm hJC) e, fun h₃ hs₃ => fin _ ys h₃ _ hPi ((LCg.fr_but F' hk₂ (Ne.symm hJL) hJ₀).change hs₃ hCL hC₀) (fun p hp => ?_) fun p hp => (off3 p hp).2.2⟩
        refine ⟨hs₃.extBut _ _ ?_ (N₂ p hp).1, (N₂ p hp).2⟩
        rcases List.mem_cons.mp hp with rfl | hp
        · exact hDC
        · exact (off3 p hp).2.1
    · rcases List.mem_cons.mp hp with rfl | hp
      · exact ⟨hacc, hDL, hD₀⟩
      · exact ⟨old _ _ (N₀ p hp).1, (N₀ p hp).2⟩
  exact codeAny_compStart_list (loop _ rfl) (W.self 0 _ _ _ hit₁ (loop _ rfl))
end
end Mine
end
-- part R19
section
open PySem PySem.W PySem.Calls PyProof.Rows
namespace Mine
section
variable {prog : Program} {w : World} {A : Around} {E : Value → Shared → Prop} {s : Shared} {h₀ : Heap} {L : Addr} {m : Str → Option Value} {env : Env} {news : List (Addr × Obj)}
theorem sum_V {a : Addr} {zs : List Value} {ns : List Int} {kn : Nat} {Q : Value → Shared → Prop} (F : Fr h₀ L s.heap m) (N : News h₀ L s.heap news) (hm : (a, ({ cls := .type "list", data := .seq zs.toArray kn } : Obj)) ∈ news) (hI : IntsAre zs ns) (hh : A.in1.handled = none)
    (h : ∀ t h' tk, Fr h₀ L h' m → News h₀ L h' news → Q (.int ns.sum t) { s with heap := h', toks := tk }) : wpAny (model prog w) A (call (.builtin "sum") [.ref a]) Q E s := by
  have hl : s.heap.IsList a zs.toArray := ⟨_, (N _ hm).1, rfl, _, rfl⟩
  have hlt : a < s.heap.objs.size := by obtain ⟨_, e, _⟩ := hl; exact Heap.lt_size e
  refine call_sum_walkG (wpAny_pyIter_list hl ?_)
  have up : ∀ b o, s.heap.get? b = some o → (s.heap.push { cls := .type "list_iterator", data := .fields #[.ref a, .int 0 0] }).get? b = some o := fun b o e => Heap.get?_push_of_some _ e
  have hlen := hI.length
  refine ⟨_, _, _, _, _, _, fun i => ns.getD i 0, rfl, Walks.list hh s.heap.objs.size a (Nat.ne_of_lt hlt) zs.toArray, ⟨⟨_, Heap.get?_push_size _ rfl, rfl, rfl⟩, hl.push _⟩, ?_, ?_, ?_⟩
  · intro b hb
    show b < (s.heap.push _).objs.size
    rw [Heap.size_push]
    rcases List.mem_cons.mp hb with rfl | hb
    · exact Nat.lt_succ_self _
    · rw [List.mem_singleton.mp hb]; exact Nat.lt_succ_of_lt hlt
  · intro i v hv
    obtain ⟨k, t, rfl, hk⟩ := IntsAre.at hI i v (by simpa using hv)
    exact ⟨t, by show Value.int k t = Value.int (ns.getD i 0) t; rw [List.getD_eq_getElem?_getD, hk]; rfl⟩
  · intro h' tk t' hk
    have e : preSum (fun i => ns.getD i 0) zs.toArray.size = ns.sum := by
      rw [preSum_getD, List.take_of_length_le (by rw [List.size_toArray, hlen]; exact Nat.le_refl _)]
    rw [e]
    exact h t' h' tk (LCg.fr_but (F.keeps up) hk (Nat.ne_of_lt F.ns.lt) (next_is_new F)) (LCg.news_but (N.grown up) hk fun p hp => Nat.ne_of_lt (Heap.lt_size (N p hp).1))
theorem comp_restP {elt : Expr} {x x₂ : Str} {scope : Scope} {cl : List (Str × Addr)} {S : List (Addr × Obj) → Prop} {P : Nat → Value → Prop} {Fin : List Value → List (Addr × Obj) → Prop} {n : Nat} (I : Nat → List Value → Prop) (h0 : I 0 [])
    (turn : ∀ i v, i < n → P i v → ∃ (T : Addr) (v₁ v₂ : Value), v = .ref T ∧ (T, ({ cls := .type "tuple", data := .seq #[v₁, v₂] } : Obj)) ∈ news ∧
      ∀ ys J oJ C oC D m₂ h tk (E' : Value → Shared → Prop), I i ys → LCg.NsObj oC m₂ → m₂ x = some v₁ → m₂ x₂ = some v₂ → Fr h₀ L h m → News h₀ L h ((J, oJ) :: (C, oC) :: (D, LCg.lst ys) :: news) → LCg.Off3 J C D news → ((@Ne Nat J C) ∧ (@Ne Nat J D) ∧ (@Ne Nat C D)) →
        wpAny (model prog w) A (eval elt (compEnvC scope cl C env)) (LCg.CompEnd h₀ L m { s with heap := h, toks := tk } J oJ C oC D (LCg.lst ys) S (fun y news' => news' = news ∧ I (i + 1) (ys ++ [y]))) E' { s with heap := h, toks := tk })
    (fin : ∀ ys, I n ys → Fin ys news) : LCp.CompRestP prog w A h₀ L m env elt x x₂ scope cl s S P Fin n 0 [] news := by
  have key : ∀ (j i : Nat) (ys : List Value), i + j = n → I i ys → LCp.CompRestP prog w A h₀ L m env elt x x₂ scope cl s S P Fin j i ys news := by
    intro j
    induction j with
    | zero =>
      intro i ys hi hI
      have e : i = n := by omega
      subst e
      exact LCp.CompRestP.zero (fin ys hI)
    | succ j ih =>
      intro i ys hi hI
      refine LCp.CompRestP.succ ?_
      intro v hv
      obtain ⟨T, v₁, v₂, e, hm, R⟩ := turn i v (by omega) hv
      refine ⟨T, _, v₁, v₂, _, e, hm, rfl, rfl, ?_⟩
      intro J oJ C oC D m₂ h tk E' hC hx hx₂ F N off ne
      refine wpAny_mono (R ys J oJ C oC D m₂ h tk E' hI hC hx hx₂ F N off ne) (fun y s₂ hq => ?_) fun _ _ e => e
      obtain ⟨h', tk', nw, e, F', N', off', hS, rfl, hr⟩ := hq
      exact ⟨h', tk', _, e, F', N', off', hS, ih (i + 1) _ (by omega) hr⟩
  exact key n 0 [] (by omega) h0
end
end Mine
end
-- part G1
section
open PySem PySem.W PySem.Calls PyProof.Rows
namespace Mine

section
variable {prog : Program} {w : World} {A : Around} {E : Value → Shared → Prop} {s : Shared} {h₀ : Heap} {L : Addr} {m : Str → Option Value} {news : List (Addr × Obj)} {vs : List Value} {ns : List Int}
/-- a slice with a lower bound of a list of ints in the ledger -/
theorem slice_from_I {value slice : Expr} {l : Addr} {n : Nat} {x : Int} {tx : Tok} {Q : Value → Shared → Prop}
    (F : Fr h₀ L s.heap m) (N : News h₀ L s.heap news) (hm : (l, listOf vs.toArray n) ∈ news) (hi : IntsAre vs ns) (h0 : 0 ≤ x) (h2 : x ≤ ns.length) (hz : ns.length ≤ 2000)
    (h : ∀ D h' ws, IntsAre ws (ns.drop x.toNat) → Fr h₀ L h' m → News h₀ L h' ((D, listOf ws.toArray 0) :: news) → (∀ p ∈ news, p.1 < D) → Q (.ref D) { s with heap := h' })
    (hs : subscripted slice false (.ref l) (.ref s.heap.objs.size) = operate [.ref s.heap.objs.size, .ref l] (getItem (.ref l) (.ref s.heap.objs.size)) := by with_unfolding_all rfl)
    (ht : ∀ r, letTemporaryGo value (.ref l) r = pure () := by intro _; with_unfolding_all rfl) :
    wpAny (model prog w) A (subscriptTail value slice (.ref l) (.ref s.heap.objs.size)) Q E { s with heap := s.heap.push { cls := .type "slice", data := .fields #[.int x tx, .none, .none] } } := by
  have hl : s.heap.IsList l vs.toArray := ⟨_, (N _ hm).1, rfl, n, rfl⟩
  have hlen := hi.length
  refine slice_list F N hl (.int x tx) .none (fun h' F' N' => h _ h' (vs.drop x.toNat) (hi.drop _) F' ?_ fun p hp => Nat.lt_succ_of_lt (Heap.lt_size (N p hp).1)) hs ht (by rw [List.size_toArray, hlen]; exact Nat.le_trans hz sizeLine_ge)
  have ex : x = (x.toNat : Int) := by omega
  have q : slicePick vs.toArray (some x) none none = (vs.drop x.toNat).toArray := by
    rw [ex, slicePick_from vs.toArray x.toNat (by simp; omega)]
    apply Array.toList_inj.mp
    simp [← ex]
  rw [q] at N'
  exact N'
end
/-- the seven steps -/
def stepsP (nums : List Int) : List Str := (List.range 7).map fun k => stepP (nums.getD k 0) (k : Int)
theorem steps_step {nums : List Int} {n : Nat} {zt : List (Str × Tok)} {t : Tok} (h : zt.map (·.1) = (stepsP nums).take n) (hn : n < 7) :
    (zt ++ [(stepP (nums.getD (0 + (n : Int)).toNat 0) (0 + (n : Int)), t)]).map (·.1) = (stepsP nums).take (n + 1) := by
  have e1 : (0 + (n : Int)) = (n : Int) := by omega
  have e2 : ((n : Int)).toNat = n := by omega
  rw [e1, e2, List.map_append, h, List.take_add_one]
  congr 1
  unfold stepsP
  simp [hn]
theorem steps_fin {nums : List Int} {l : List Str} (h : l = (stepsP nums).take 7) : l = stepsP nums := by
  rw [h, List.take_of_length_le (by simp [stepsP])]
/-- rise, fall or stay -/
def riseP (x : Int) : Int := ([1, 1, -1, -1, 0] : List Int).getD (x.fmod 5).toNat 0
theorem rises_el {zs : List Value} {nums : List Int} {n : Nat} {x i y : Int} {t : Tok} (h : IntsAre zs ((nums.take n).map riseP)) (hx : nums[n]? = some x) (e : x.fmod 5 = i) (hy : y = ([1, 1, -1, -1, 0] : List Int).getD i.toNat 0) : IntsAre (zs ++ [.int y t]) ((nums.take (n + 1)).map riseP) := by
  rw [List.take_add_one, hx, List.map_append]
  refine h.append ?_
  have e2 : riseP x = y := by unfold riseP; rw [e, hy]
  show IntsAre _ [riseP x]
  rw [e2]; exact .cons _ _ .nil
theorem rises_fin {us zs : List Value} {nums : List Int} (hus : IntsAre us nums) (h : IntsAre zs ((nums.take us.toArray.size).map riseP)) : IntsAre zs (nums.map riseP) := by
  rw [List.take_of_length_le (by rw [List.size_toArray, hus.length]; exact Nat.le_refl _)] at h; exact h
def rootsL : List Str := [Str.ofString "/", Str.ofString "//", Str.ofString "///"]
def rootX (nums : List Int) : Str := rootsL.getD (((nums.getD 0 0).fdiv 5).fmod 3).toNat (Str.ofString "")
theorem root_mk {o : Obj} {s : Str} {t : Tok} {nums : List Int} {i : Int} (d : o.data = .cell (some (.str s t))) (e : ((nums.getD (Int.toNat 0) 0).fdiv 5).fmod 3 = i) (hs : s = rootsL.getD i.toNat (Str.ofString "")) : o.data = .cell (some (.str (rootX nums) t)) := by
  have e' : ((nums.getD 0 0).fdiv 5).fmod 3 = i := e
  rw [d]; unfold rootX; rw [e', hs]
theorem stepP_ok (x k : Int) : (stepP x k).length ≤ 3 ∧ PyData.strOk (stepP x k) = true := by
  have h1 : ∀ n : Nat, (namesL.getD n (Str.ofString "")).length ≤ 3 ∧ PyData.strOk (namesL.getD n (Str.ofString "")) = true := by
    intro n
    by_cases h : n < 7
    · have : ∀ n, n < 7 → (namesL.getD n (Str.ofString "")).length ≤ 3 ∧ PyData.strOk (namesL.getD n (Str.ofString "")) = true := by decide +kernel
      exact this n h
    · have e : namesL.getD n (Str.ofString "") = Str.ofString "" := by rw [List.getD_eq_getElem?_getD, List.getElem?_eq_none (show 7 ≤ n by omega)]; rfl
      rw [e]; decide +kernel
  have h2 : ∀ n : Nat, (dotsL.getD n (Str.ofString "")).length ≤ 3 ∧ PyData.strOk (dotsL.getD n (Str.ofString "")) = true := by
    intro n
    by_cases h : n < 3
    · have : ∀ n, n < 3 → (dotsL.getD n (Str.ofString "")).length ≤ 3 ∧ PyData.strOk (dotsL.getD n (Str.ofString "")) = true := by decide +kernel
      exact this n h
    · have e : dotsL.getD n (Str.ofString "") = Str.ofString "" := by rw [List.getD_eq_getElem?_getD, List.getElem?_eq_none (show 3 ≤ n by omega)]; rfl
      rw [e]; decide +kernel
  unfold stepP
  split
  · exact h1 _
  · split
    · decide +kernel
    · exact h2 _
theorem steps_ok {st : List (Str × Tok)} {nums : List Int} (h : st.map (·.1) = stepsP nums) : ∀ p ∈ st, p.1.length ≤ 3 ∧ PyData.strOk p.1 = true := by
  intro p hp
  have : p.1 ∈ stepsP nums := by rw [← h]; exact List.mem_map_of_mem hp
  obtain ⟨k, _, e⟩ := List.mem_map.mp this
  rw [← e]; exact stepP_ok _ _
theorem rootX_le (nums : List Int) : (rootX nums).length ≤ 3 := by
  unfold rootX
  have h : ∀ n : Nat, (rootsL.getD n (Str.ofString "")).length ≤ 3 := by
    intro n
    by_cases h : n < 3
    · have : ∀ n, n < 3 → (rootsL.getD n (Str.ofString "")).length ≤ 3 := by decide +kernel
      exact this n h
    · have e : rootsL.getD n (Str.ofString "") = Str.ofString "" := by rw [List.getD_eq_getElem?_getD, List.getElem?_eq_none (show 3 ≤ n by omega)]; rfl
      rw [e]; decide +kernel
  exact h _
theorem off4_more {J J₂ C D T P : Addr} {oJ oJ₂ oC oD oT oP : Obj} {pre led rest : List (Addr × Obj)} (h : Off4 J J₂ C D (pre ++ led)) (ow : ∀ p ∈ (J₂, oJ₂) :: (C, oC) :: (D, oD) :: (J, oJ) :: rest, p.1 ≠ T ∧ p.1 ≠ P) : Off4 J J₂ C D (pre ++ (T, oT) :: (P, oP) :: led) := by
  have a := ow _ (.head _)
  have b := ow _ (.tail _ (.head _))
  have c := ow _ (.tail _ (.tail _ (.head _)))
  have d := ow _ (.tail _ (.tail _ (.tail _ (.head _))))
  intro p hp
  rcases List.mem_append.mp hp with hp | hp
  · exact h p (List.mem_append_left _ hp)
  · rcases List.mem_cons.mp hp with rfl | hp
    · exact ⟨Ne.symm d.1, Ne.symm a.1, Ne.symm b.1, Ne.symm c.1⟩
    · rcases List.mem_cons.mp hp with rfl | hp
      · exact ⟨Ne.symm d.2, Ne.symm a.2, Ne.symm b.2, Ne.symm c.2⟩
      · exact h p (List.mem_append_right _ hp)
/-- the mates -/
def matesP (rs : List Int) : List Int := (List.range 7).map fun k => if rs.getD k 0 = 1 then mateG 0 (k : Int) (rs.drop k) else -1
theorem mates_take {rs : List Int} {n : Nat} (hn : n < 7) : (matesP rs).take (n + 1) = (matesP rs).take n ++ [if rs.getD n 0 = 1 then mateG 0 (n : Int) (rs.drop n) else -1] := by
  rw [List.take_add_one]
  congr 1
  unfold matesP
  simp [hn]
theorem mates_y {rs : List Int} {zs : List Value} {n : Nat} {t : Tok} (h : IntsAre zs ((matesP rs).take n)) (hn : n < 7) (e : rs.getD (0 + (n : Int)).toNat 0 = 1) : IntsAre (zs ++ [.int (mateG 0 (0 + (n : Int)) (rs.drop (0 + (n : Int)).toNat)) t]) ((matesP rs).take (n + 1)) := by
  have e1 : (0 + (n : Int)) = (n : Int) := by omega
  have e2 : ((n : Int)).toNat = n := by omega
  rw [e1, e2] at e ⊢
  rw [mates_take hn, if_pos e]
  exact h.append (.cons _ _ .nil)
theorem mates_n {rs : List Int} {zs : List Value} {n : Nat} {t : Tok} (h : IntsAre zs ((matesP rs).take n)) (hn : n < 7) (e : ¬ rs.getD (0 + (n : Int)).toNat 0 = 1) : IntsAre (zs ++ [.int (-1) t]) ((matesP rs).take (n + 1)) := by
  have e1 : (0 + (n : Int)) = (n : Int) := by omega
  have e2 : ((n : Int)).toNat = n := by omega
  rw [e1, e2] at e
  rw [mates_take hn, if_neg e]
  exact h.append (.cons _ _ .nil)
theorem mates_fin {rs : List Int} {zs : List Value} (h : IntsAre zs ((matesP rs).take 7)) : IntsAre zs (matesP rs) := by
  rw [List.take_of_length_le (by simp [matesP])] at h; exact h
theorem ToldAre.mono {rs : List Int} {ws : List (Int × Int)} {ys : List Value} {led led' : List (Addr × Obj)} (h : ToldAre rs ws ys led) (hs : ∀ p ∈ led, p ∈ led') : ToldAre rs ws ys led' :=
  ⟨h.1, fun n w hw => let ⟨T, P, t, vs, a1, a2, a3, a4⟩ := h.2 n w hw; ⟨T, P, t, vs, a1, hs _ a2, hs _ a3, a4⟩⟩
/-- in how many windows a name stands -/
def cntW (rs : List Int) (k : Int) (ws : List (Int × Int)) : Nat := (ws.filter fun w => (winP rs w.1 w.2).2.any (· == k)).length
theorem cntW_le (rs : List Int) (k : Int) (ws : List (Int × Int)) (n : Nat) : cntW rs k (ws.take n) ≤ n := by
  unfold cntW
  have h1 := List.length_filter_le (fun w => (winP rs w.1 w.2).2.any (· == k)) (ws.take n)
  have h2 := List.length_take_le n ws
  omega
theorem cnt_y {rs : List Int} {k : Int} {ws : List (Int × Int)} {n : Nat} {w : Int × Int} {zs : List Value} {t : Tok} (h : IntsAre zs (List.replicate (cntW rs k (ws.take n)) 1)) (hw : ws[n]? = some w) (e : ((winP rs w.1 w.2).2.any fun x => x == k) = true) :
    IntsAre (zs ++ [.int 1 t]) (List.replicate (cntW rs k (ws.take (n + 1))) 1) := by
  have e2 : cntW rs k (ws.take (n + 1)) = cntW rs k (ws.take n) + 1 := by
    unfold cntW
    rw [List.take_add_one, hw, List.filter_append, List.length_append]
    simp [e]
  rw [e2, List.replicate_succ']
  exact h.append (.cons _ _ .nil)
theorem cnt_n {rs : List Int} {k : Int} {ws : List (Int × Int)} {n : Nat} {w : Int × Int} {zs : List Value} (h : IntsAre zs (List.replicate (cntW rs k (ws.take n)) 1)) (hw : ws[n]? = some w) (e : ((winP rs w.1 w.2).2.any fun x => x == k) = false) :
    IntsAre zs (List.replicate (cntW rs k (ws.take (n + 1))) 1) := by
  have e2 : cntW rs k (ws.take (n + 1)) = cntW rs k (ws.take n) := by
    unfold cntW
    rw [List.take_add_one, hw, List.filter_append, List.length_append]
    have : List.filter (fun w => (winP rs w.1 w.2).2.any (· == k)) (some w).toList = [] := by
      show List.filter _ [w] = []
      rw [List.filter_cons, if_neg (by rw [e]; decide)]; rfl
    rw [this]; rfl
  rw [e2]; exact h
theorem mateG_bd : ∀ (l : List Int) (t j : Int), j ≤ mateG t j l ∧ mateG t j l ≤ j + l.length
  | [], t, j => by simp [mateG]
  | r :: rs, t, j => by
    have ih := mateG_bd rs (t + r) (j + 1)
    rw [mateG]
    split
    · simp; omega
    · simp only [List.length_cons]; omega
theorem matesP_bd {rs : List Int} {i : Nat} (hl : rs.length = 7) (hi : i < 7) : -1 ≤ (matesP rs).getD (0 + (i : Int)).toNat 0 ∧ (matesP rs).getD (0 + (i : Int)).toNat 0 ≤ 7 := by
  have e1 : (0 + (i : Int)).toNat = i := by omega
  have e : (matesP rs).getD i 0 = if rs.getD i 0 = 1 then mateG 0 (i : Int) (rs.drop i) else -1 := by
    unfold matesP; simp [hi]
  rw [e1, e]
  have := mateG_bd (rs.drop i) 0 (i : Int)
  rw [List.length_drop, hl] at this
  split <;> omega
theorem len_V {prog : Program} {w : World} {A : Around} {E : Value → Shared → Prop} {s : Shared} {l : Addr} {zs : List Value} {Q : Value → Shared → Prop} (hl : s.heap.IsList l zs.toArray) (hz : zs.length ≤ 2000)
    (h : ∀ t' tk, Q (.int (zs.length : Int) t') { s with toks := tk }) : wpAny (model prog w) A (call (.builtin "len") [.ref l]) Q E s := by
  refine PyProof.Rows.len_list hl (by rw [List.size_toArray]; omega) ?_
  rw [List.size_toArray]
  exact h _ _
/-- the two dots that the steps up to the i-th owe -/
def dueT (rs : List Int) (k : Nat) : Int := if rs.getD k 0 = -1 then ((k : Int) - (if (matesP rs).any (· == (k : Int)) = true then (((matesP rs).idxOf (k : Int) : Nat) : Int) else -1)) * (7 - (k : Int)) else 0
def dueP (rs : List Int) (i : Nat) : Int := ((List.range i).map (dueT rs)).sum
theorem kf_ints_of : ∀ {vs : List Value} {ns : List Int}, IntsAre vs ns → kf_ints vs = true
  | _, _, .nil => rfl
  | _, _, .cons n t h => by
    have := kf_ints_of h
    simp [kf_ints] at *
    exact this
theorem kf_at_of {k : Int} : ∀ {vs : List Value} {ns : List Int}, IntsAre vs ns → ns.any (· == k) = true → kf_at k vs = some (ns.idxOf k)
  | _, _, .nil, h => by simp at h
  | _, _, .cons (ns := ns) n t hI, h => by
    by_cases e : n = k
    · subst e; simp [kf_at, isInt]
    · have h' : (List.any ns (· == k)) = true := by
        rw [List.any_cons] at h
        have : (n == k) = false := by simp [e]
        rw [this, Bool.false_or] at h
        exact h
      have ih := kf_at_of hI h'
      simp [kf_at, isInt, ih, List.idxOf_cons]
      cases (n == k) <;> rfl
theorem due_next (rs : List Int) (i : Nat) : dueP rs (i + 1) = dueP rs i + dueT rs i := by
  unfold dueP; rw [List.range_succ, List.map_append, List.sum_append]; simp
theorem due_0 {rs : List Int} {i : Nat} {du : Int} (h : du = dueP rs i) (e : ¬ rs.getD (0 + (i : Int)).toNat 0 = -1) : du = dueP rs (i + 1) := by
  have e1 : (0 + (i : Int)).toNat = i := by omega
  rw [e1] at e
  rw [due_next, dueT, if_neg e, h]; omega
theorem due_y {rs : List Int} {i : Nat} {du x : Int} (h : du = dueP rs i) (e : rs.getD (0 + (i : Int)).toNat 0 = -1) (a : (matesP rs).any (fun x => x == 0 + (i : Int)) = true) (hx : x = du + (0 + (i : Int) - (((matesP rs).idxOf (0 + (i : Int)) : Nat) : Int)) * (7 - (0 + (i : Int)))) : x = dueP rs (i + 1) := by
  have e1 : (0 + (i : Int)).toNat = i := by omega
  have e2 : (0 + (i : Int)) = (i : Int) := by omega
  rw [e1] at e
  rw [e2] at a hx
  rw [due_next, dueT, if_pos e, if_pos a, hx, h]
theorem due_n {rs : List Int} {i : Nat} {du x : Int} (h : du = dueP rs i) (e : rs.getD (0 + (i : Int)).toNat 0 = -1) (a : (matesP rs).any (fun x => x == 0 + (i : Int)) = false) (hx : x = du + (0 + (i : Int) - -1) * (7 - (0 + (i : Int)))) : x = dueP rs (i + 1) := by
  have e1 : (0 + (i : Int)).toNat = i := by omega
  have e2 : (0 + (i : Int)) = (i : Int) := by omega
  rw [e1] at e
  rw [e2] at a hx
  rw [due_next, dueT, if_pos e, if_neg (by rw [a]; decide), hx, h]
theorem idx_bd {rs : List Int} {k : Int} (h : (matesP rs).length = 7) : (((matesP rs).idxOf k : Nat) : Int) ≤ 7 := by
  have := List.idxOf_le_length (a := k) (l := matesP rs)
  omega
theorem fr_twice {h₀ h : Heap} {L : Addr} {x : Str} {u v : Option Value} {m : Str → Option Value} (F : Fr h₀ L h (fun y => if y = x then v else if y = x then u else m y)) : Fr h₀ L h (fun y => if y = x then v else m y) := by
  have e : (fun y => if y = x then v else if y = x then u else m y) = (fun y => if y = x then v else m y) := by
    funext y
    by_cases h : y = x
    · simp only [if_pos h]
    · simp only [if_neg h]
  rw [← e]; exact F
/-- the two dots of each window -/
def upsL (rs : List Int) : List Int := (doneW 7 0).map fun w => ((winP rs w.1 w.2).1 : Int)
theorem ups_step {rs : List Int} {zs : List Value} {n : Nat} {w : Int × Int} {t : Tok} (h : IntsAre zs ((upsL rs).take n)) (hw : (doneW 7 0)[n]? = some w) : IntsAre (zs ++ [.int ((winP rs w.1 w.2).1 : Int) t]) ((upsL rs).take (n + 1)) := by
  have e : (upsL rs)[n]? = some ((winP rs w.1 w.2).1 : Int) := by unfold upsL; rw [List.getElem?_map, hw]; rfl
  rw [List.take_add_one, e]
  exact h.append (.cons _ _ .nil)
theorem ne_cells {L D : Nat} (h : L + 1 + 1 + 1 + 1 + 1 < D) : (@Ne Nat (L + 1 + 1 + 1 + 1 + 1) D) ∧ (@Ne Nat (L + 1 + 1 + 1 + 1) D) ∧ (@Ne Nat (L + 1 + 1 + 1) D) ∧ (@Ne Nat (L + 1 + 1) D) ∧ (@Ne Nat (L + 1) D) := by omega
theorem news_sub {h₀ h : Heap} {L : Addr} {all some : List (Addr × Obj)} (N : News h₀ L h all) (sub : ∀ p ∈ some, p ∈ all) : News h₀ L h some := fun p hp => N p (sub p hp)
/-- the seven numbers of a script -/
def numsP (ns : List Int) : List Int := ns.take 7 ++ ([0, 1, 2, 3, 2, 0, 4] : List Int).drop (ns.take 7).length
theorem numsP_len (ns : List Int) : (numsP ns).length = 7 := by
  unfold numsP
  simp only [List.length_append, List.length_drop, List.length_take, List.length_cons, List.length_nil]
  omega

local macro_rules | `(tactic| k_ne) => `(tactic| (refine neN ?_; (try dsimp only); first | assumption | (exact Ne.symm (by assumption)) | exact Nat.ne_of_lt (Nat.lt_succ_self _) | exact Nat.ne_of_lt (Nat.lt_succ_of_lt (Nat.lt_succ_self _)) | exact Nat.ne_of_lt (Nat.lt_succ_of_lt (Nat.lt_succ_of_lt (Nat.lt_succ_self _))) | exact Nat.ne_of_lt (Nat.lt_succ_of_lt (Nat.lt_succ_of_lt (Nat.lt_succ_of_lt (Nat.lt_succ_self _)))) | exact Nat.ne_of_gt (Nat.lt_succ_self _) | exact Nat.ne_of_gt (Nat.lt_succ_of_lt (Nat.lt_succ_self _)) | exact Nat.ne_of_gt (Nat.lt_succ_of_lt (Nat.lt_succ_of_lt (Nat.lt_succ_self _))) | exact Nat.ne_of_gt (Nat.lt_succ_of_lt (Nat.lt_succ_of_lt (Nat.lt_succ_of_lt (Nat.lt_succ_self _)))) | omega))
local macro_rules | `(tactic| walk_at "subscriptTail Name Slice ref ref") => `(tactic| (k_here; (with_reducible show wpAny _ _ (subscriptTail _ (Expr.Slice (some _) none none _) (Value.ref _) (Value.ref _)) _ _ _); (with_reducible rename Fr _ _ _ _ => F'); (with_reducible rename News _ _ _ _ => N'); k_dflt (refine' slice_from_I (ns := [0, 1, 2, 3, 2, 0, 4]) (s := ⟨_, _, _, _, _⟩) F' N' ?k1 ?k2 ?k3 ?k4 ?k5 ?_; (case k1 => k_mem); (case k2 => (repeat (first | exact IntsAre.nil | refine IntsAre.cons _ _ ?_))); (case k3 => omega); (case k4 => (simp; omega)); (case k5 => decide)); (intro D' h' ws' hI' F' N' l1); (try k_lt l1); (try k_sweep)))

theorem law_walk (w : World) (l : Addr) (vs : List Value) (ns : List Int) (hI : IntsAre vs ns) (hlen : ns.length ≤ 63) (mean : ExcName → Option Value) (mg mb : Str → Option Value) (s : Shared) (Q E : Value → Shared → Prop)
    (X : (KK w).In s.heap) (T : TT mean mg mb s.heap) (hl : s.heap.IsList l vs.toArray)
    (hwin : ∀ i j : Int, 0 ≤ i → i < j → j ≤ 7 → WinOk (stepsP (numsP ns)) i j (rootX (numsP ns)) (winP ((numsP ns).map riseP) i j).1 (winP ((numsP ns).map riseP) i j).2)
    (hlaw1 : ∀ k : Nat, k < 7 → ((numsP ns).map riseP).getD k 0 = 1 → ((cntW ((numsP ns).map riseP) (k : Int) (doneW 7 0) : Nat) : Int) = ((k : Int) + 1) * ((matesP ((numsP ns).map riseP)).getD k 0 - (k : Int)))
    (hlaw2 : (upsL ((numsP ns).map riseP)).sum = dueP ((numsP ns).map riseP) 7)
    (hret : ∀ (h' : Heap) (tk' : Nat), s.heap.StaysIn h' → Q (.bool true) { s with heap := h', toks := tk' }) :
    wpAny (model prg w) callerA (call (.ref 153) [.ref l]) Q E s := by
  w_top off
  k_with_none
  revert X T hret
  unfold KK prg
  k_fill
  intro X T hret
  refine' enterTop (binds := [(Str.ofString "script", .ref l)]) X T ?k6 ?k7 ?k8 ?k9 ?kB ?kD ?_ ?c2 ?c3 ?c4
  (case k6 => k_is)
  (case k7 => k_is)
  (case k8 => decide)
  (case k9 => exact BindsTo.of_eq rfl)
  (case kB => exact rfl)
  (case kD => decide +kernel)
  (case c2 => rfl)
  (case c3 => rfl)
  (case c4 => rfl)
  clear T X
  intro L' h' tk' cells' F' N' Y' B' X' T'
  obtain ⟨o1, o2, o3, o4, o5, hE', d1, d2, d3, d4, d5⟩ := cells5 Y'; subst hE'; clear Y'
  (try dsimp only)
  (try k_fold)
  replace F' : Fr s.heap L' h' (fun y => if y = Str.ofString "script" then some (.ref l) else none) := F'
  -- numbers
  refine' execs_cut (s := ⟨_, _, _, _, _⟩) F' N' (σ := Obj × Addr × List Value) (fun m _ => m) (fun _ a => [(a.2.1, listOf a.2.2.toArray 0), (L' + 1 + 1 + 1 + 1 + 1, o1), (L' + 1 + 1 + 1 + 1, o2), (L' + 1 + 1 + 1, o3), (L' + 1 + 1, o4), (L' + 1, a.1)]) (fun a => a.1.data = .cell (some (.ref a.2.1)) ∧ IntsAre a.2.2 (numsP ns) ∧ @LT.lt Nat _ (L' + 1 + 1 + 1 + 1 + 1) a.2.1) ?_ ?_
  · k_steps
    (with_reducible rename News _ _ _ _ => NN)
    exact ⟨rfl, (_, _, _), _, _, rfl, ⟨by assumption, by assumption, by dsimp only; omega⟩, by assumption, news_sub NN (by (repeat' (first | exact List.forall_mem_nil _ | (refine List.forall_mem_cons.mpr ⟨?_, ?_⟩) | k_mem)))⟩
  clear F' N' d5 o5
  rintro ⟨o5, D, us⟩ h tk ⟨d5, hus, hD⟩ F' N'
  dsimp only at d5 hus hD N'
  obtain ⟨n1a, n1b, n1c, n1d, n1e⟩ := ne_cells hD
  have hnl := numsP_len ns
  clear hD
  generalize hnums : numsP ns = nums at *
  generalize hrises : nums.map riseP = rises at *
  (try dsimp only)
  -- steps
  refine' execs_cut (s := ⟨_, _, _, _, _⟩) F' N' (σ := Obj × Addr × List (Str × Tok)) (fun m _ => m) (fun l a => [(a.2.1, LCg.lst (strValues a.2.2)), (D, listOf us.toArray 0), (L' + 1 + 1 + 1 + 1 + 1, o1), (L' + 1 + 1 + 1 + 1, o2), (L' + 1 + 1 + 1, a.1), (L' + 1 + 1, o4), (L' + 1, o5)]) (fun a => a.1.data = .cell (some (.ref a.2.1)) ∧ a.2.2.map (·.1) = stepsP nums ∧ @Ne Nat (D) (a.2.1) ∧ @Ne Nat (L' + 1 + 1 + 1 + 1 + 1) (a.2.1) ∧ @Ne Nat (L' + 1 + 1 + 1 + 1) (a.2.1) ∧ @Ne Nat (L' + 1 + 1 + 1) (a.2.1) ∧ @Ne Nat (L' + 1 + 1) (a.2.1) ∧ @Ne Nat (L' + 1) (a.2.1)) ?_ ?_
  · walk1
    k_dflt (refine LCg.ListComp_U (F₀ := by k_asm) (by with_unfolding_all rfl) (by decide) (by rfl) (by decide) (by rfl) ?_)
    repeat' (first | ((fail_if_success (with_reducible show LCg.CompSrc _ _ _ _ _ _ _ _ _ _ _ _ _ _)); (first | (k_unfold; (try dsimp only)) | (k_end; wrow_close) | walk1 | (dsimp only; walk1) | (leave1; try dsimp only))))
    refine LCg.CompSrc.range (n := 7) (by rfl) (by k_asm) (by k_asm) (by assumption) (by decide) (by rfl) (by rw [PySem.sizeLine_eq]; omega) ?_
    intro g'
    refine' comp_rest (fun n zs nw => nw = _ ∧ ∃ zt : List (Str × Tok), zs = strValues zt ∧ zt.map (·.1) = (stepsP nums).take n) ⟨rfl, [], rfl, rfl⟩ ?_ ?_
    · rintro n zs nw v J oJ C oC D' m' h' tk' E' hn ⟨rfl, zt, rfl, hzt⟩ ⟨tv, hv⟩ hC' hx' F' N' off' ne'
      subst hv
      simp only [LCg.Off3, and_true] at off'
      repeat' (first | ((fail_if_success (with_reducible show wpAny _ _ (call (Value.ref _) _) _ _ _)); (first | (k_unfold; (try dsimp only)) | (k_end; wrow_close) | walk1 | (dsimp only; walk1) | (leave1; try dsimp only))))
      refine' use_v (sp_step w _ _ _ _ (by omega) (by omega)) ?k1 ?k2 ?k3 ?k4 ?k5 ?k6 ?k7 ?k8 ?_
      (case k1 => k_asm)
      (case k2 => k_asm)
      (case k3 => k_asm)
      (case k4 => k_asm)
      (case k5 => k_asm)
      (case k6 => first | exact rfl | assumption)
      (case k7 => ktr_room)
      (case k8 => ktr_units)
      rintro v' h' tk' ⟨t', rfl⟩ F' N'
      repeat' (first | ((fail_if_success (with_reducible show LCg.CompEnd _ _ _ _ _ _ _ _ _ _ _ _ _ _)); (first | (k_unfold; (try dsimp only)) | (k_end; wrow_close) | walk1 | (dsimp only; walk1) | (leave1; try dsimp only))))
      exact LCg.CompEnd.intro (by k_asm) (by k_asm) _ (by (repeat' (first | exact List.forall_mem_nil _ | (refine List.forall_mem_cons.mpr ⟨?_, ?_⟩) | k_mem))) (by simp only [LCg.Off3, and_true]; exact off') trivial ⟨rfl, _, strValues_snoc _ _ _, steps_step hzt hn⟩
    · rintro zs nw ⟨rfl, zt, rfl, hzt⟩
      k_steps
      exact ⟨rfl, (_, _, _), _, _, rfl, ⟨by assumption, steps_fin hzt, by assumption⟩, by assumption, by assumption⟩
  clear F' N' d3 o3
  rintro ⟨o3, D3, st⟩ h tk ⟨d3, hst, n3a, n3b, n3c, n3d, n3e, n3f⟩ F' N'
  dsimp only at d3 hst n3a n3b n3c n3d n3e n3f N'
  (try dsimp only)
  -- rises
  refine' execs_cut (s := ⟨_, _, _, _, _⟩) F' N' (σ := Obj × Addr × List Value) (fun m _ => m) (fun l a => [(a.2.1, LCg.lst a.2.2), (D3, LCg.lst (strValues st)), (D, listOf us.toArray 0), (L' + 1 + 1 + 1 + 1 + 1, o1), (L' + 1 + 1 + 1 + 1, a.1), (L' + 1 + 1 + 1, o3), (L' + 1 + 1, o4), (L' + 1, o5)]) (fun a => a.1.data = .cell (some (.ref a.2.1)) ∧ IntsAre a.2.2 rises ∧ @Ne Nat (D3) (a.2.1) ∧ @Ne Nat (D) (a.2.1) ∧ @Ne Nat (L' + 1 + 1 + 1 + 1 + 1) (a.2.1) ∧ @Ne Nat (L' + 1 + 1 + 1 + 1) (a.2.1) ∧ @Ne Nat (L' + 1 + 1 + 1) (a.2.1) ∧ @Ne Nat (L' + 1 + 1) (a.2.1) ∧ @Ne Nat (L' + 1) (a.2.1)) ?_ ?_
  · walk1
    k_dflt (refine LCg.ListComp_U (F₀ := by k_asm) (by with_unfolding_all rfl) (by decide) (by rfl) (by decide) (by rfl) ?_)
    repeat' (first | ((fail_if_success (with_reducible show LCg.CompSrc _ _ _ _ _ _ _ _ _ _ _ _ _ _)); (first | (k_unfold; (try dsimp only)) | (k_end; wrow_close) | walk1 | (dsimp only; walk1) | (leave1; try dsimp only))))
    refine LCg.CompSrc.ledger (its := us.toArray) (by rfl) (by k_asm) (by k_asm) (by k_mem) (by rw [List.size_toArray, PySem.sizeLine_eq]; have := hus.length; omega) ?_
    intro g'
    refine' comp_rest (fun n zs nw => nw = _ ∧ IntsAre zs ((nums.take n).map riseP)) ⟨rfl, .nil⟩ ?_ ?_
    · rintro n zs nw v J oJ C oC D' m' h' tk' E' hn ⟨rfl, hzs⟩ hv hC' hx' F' N' off' ne'
      simp only [LCg.Off3, and_true] at off'
      obtain ⟨x, tv, rfl, hx⟩ := IntsAre.at hus n v (by simpa using hv)
      repeat' (first | ((fail_if_success (with_reducible show LCg.CompEnd _ _ _ _ _ _ _ _ _ _ _ _ _ _)); (first | (k_unfold; (try dsimp only)) | (k_end; wrow_close) | walk1 | (dsimp only; walk1) | (leave1; try dsimp only))))
      all_goals exact LCg.CompEnd.intro (by k_asm) (by k_asm) _ (by (repeat' (first | exact List.forall_mem_nil _ | (refine List.forall_mem_cons.mpr ⟨?_, ?_⟩) | k_mem))) (by simp only [LCg.Off3, and_true]; exact off') (Or.inr ⟨_, by k_mem, rfl, _, rfl⟩) ⟨rfl, rises_el hzs hx (by assumption) (by rfl)⟩
    · rintro zs nw ⟨rfl, hzs⟩
      k_steps
      exact ⟨rfl, (_, _, _), _, _, rfl, ⟨by assumption, hrises ▸ rises_fin hus hzs, by assumption⟩, by assumption, by assumption⟩
  clear F' N' d2 o2
  rintro ⟨o2, D2, rs⟩ h tk ⟨d2, hrs, n2a, n2b, n2c, n2d, n2e, n2f, n2g⟩ F' N'
  dsimp only at d2 hrs n2a n2b n2c n2d n2e n2f n2g N'
  (try dsimp only)
  -- root
  refine' execs_cut (s := ⟨_, _, _, _, _⟩) F' N' (σ := Obj × Tok) (fun m _ => m) (fun l a => [(D2, LCg.lst rs), (D3, LCg.lst (strValues st)), (D, listOf us.toArray 0), (L' + 1 + 1 + 1 + 1 + 1, a.1), (L' + 1 + 1 + 1 + 1, o2), (L' + 1 + 1 + 1, o3), (L' + 1 + 1, o4), (L' + 1, o5)]) (fun a => a.1.data = .cell (some (.str (rootX nums) a.2))) ?_ ?_
  · k_steps
    all_goals (with_reducible rename News _ _ _ _ => NN)
    all_goals exact ⟨rfl, (_, _), _, _, rfl, root_mk (by assumption) (by assumption) (by rfl), by assumption, news_sub NN (by (repeat' (first | exact List.forall_mem_nil _ | (refine List.forall_mem_cons.mpr ⟨?_, ?_⟩) | k_mem)))⟩
  clear F' N' d1 o1
  rintro ⟨o1, tr⟩ h tk d1 F' N'
  dsimp only at d1 N'
  (try dsimp only)
  -- told
  refine' execs_cut (s := ⟨_, _, _, _, _⟩) F' N' (σ := Addr × List Value × List (Addr × Obj)) (fun m a y => if y = Str.ofString "told" then some (.ref a.1) else m y) (fun l a => (a.1, LCg.lst a.2.1) :: (D2, LCg.lst rs) :: (L' + 1 + 1 + 1 + 1, o2) :: (L' + 1 + 1, o4) :: a.2.2) (fun a => ToldAre rises (doneW 7 0) a.2.1 a.2.2 ∧ (∀ p ∈ a.2.2, @Ne Nat p.1 (L' + 1 + 1)) ∧ @Ne Nat (D2) (a.1) ∧ @Ne Nat (L' + 1 + 1 + 1 + 1) (a.1) ∧ @Ne Nat (L' + 1 + 1) (a.1)) ?_ ?_
  · have hst3 : ∀ p ∈ st, p.1.length ≤ 3 := fun p hp => (steps_ok hst p hp).1
    have hstk : ∀ p ∈ st, PyData.strOk p.1 = true := fun p hp => (steps_ok hst p hp).2
    have hstl : st.length = 7 := by have := congrArg List.length hst; simpa [stepsP] using this
    have hroot : (rootX nums).length ≤ 3 := rootX_le nums
    refine Assign_comp2 (F₀ := F') (by rfl) (by with_unfolding_all rfl) (by with_unfolding_all rfl) (by decide) (by rfl) (by decide) (by rfl) (by rfl) (by decide) (by rfl) (by rfl) ?_
    repeat' (first | ((fail_if_success (with_reducible show Src2 _ _ _ _ _ _ _ _ _ _ _ _ _ _ _ _)); (first | (k_unfold; (try dsimp only)) | (k_end; wrow_close) | walk1 | (dsimp only; walk1) | (leave1; try dsimp only))))
    refine Src2.intro (n := 7) (fun i => (8 - (0 + (i : Int) + 1)).toNat) (fun i => 0 + (i : Int) + 1) (fun i j zs nw => ∃ led, nw = (D2, LCg.lst rs) :: (D3, LCg.lst (strValues st)) :: (D, listOf us.toArray 0) :: (L' + 1 + 1 + 1 + 1 + 1, o1) :: (L' + 1 + 1 + 1 + 1, o2) :: (L' + 1 + 1 + 1, o3) :: (L' + 1 + 1, o4) :: (L' + 1, o5) :: led ∧ ToldAre rises (doneW i j) zs led ∧ (∀ p ∈ led, @Ne Nat p.1 (L' + 1 + 1)) ∧ i ≤ 7 ∧ j ≤ 7 ∧ zs.length ≤ 7 * i + j) (by rfl) (by k_asm) (by k_asm) (by assumption) (by decide) (by rfl) ⟨[], rfl, ToldAre.nil _ _, by simp, by omega, by omega, by simp⟩ ?_
    intro g'
    refine ⟨⟨?_, ?_, ?_, ?_⟩, ?_⟩
    · rintro i j zs nw ⟨led, _, _, _, h1, h2, h3⟩; omega
    · rintro i zs nw hi ⟨led, e, ht, hl, h1, h2, h3⟩
      have e7 : (8 - (0 + (i : Int) + 1)).toNat = 7 - i := by omega
      rw [e7] at ht h3
      exact ⟨led, e, by rw [← doneW_next]; exact ht, hl, by omega, by omega, by omega⟩
    · rintro i zs nw J oJ C oC Dn mc t h tk E' hi ⟨led, rfl, ht, hl, h1, h2, h3⟩ hoC hmc F' N'
      repeat' (first | ((fail_if_success (with_reducible show IterEnd _ _ _ _ _ _ _ _ _)); (first | (k_unfold; (try dsimp only)) | (k_end; wrow_close) | walk1 | (dsimp only; walk1) | (leave1; try dsimp only))))
      exact ⟨_, _, _, 8, _, _, _, rfl, rfl, by assumption, small_one (by l_bnd) (by l_bnd) (by l_bnd) (by l_bnd), rangeSize_nat _ _, by assumption, by assumption⟩
    · rintro i j zs nw J oJ J₂ oJ₂ C oC Dn mc t t₂ h tk E' hi hj ⟨led, rfl, ht, hl, h1, h2, h3⟩ hoC hm1 hm2 F' N' ho4
      have hw := hwin (0 + (i : Int)) (0 + (i : Int) + 1 + (j : Int)) (by omega) (by omega) (by omega)
      rw [← hst] at hw
      repeat' (first | ((fail_if_success (with_reducible show wpAny _ _ (call (Value.ref _) _) _ _ _)); (first | (k_unfold; (try dsimp only)) | (k_end; wrow_close) | walk1 | (dsimp only; walk1) | (leave1; try dsimp only))))
      refine' use_w (sp_window w D3 st (0 + (i : Int)) (0 + (i : Int) + 1 + (j : Int)) _ _ _ (rootX nums) _ _ (by omega) (by omega) (by omega) hstl hst3 hstk hroot hw) ?k1 ?k2 ?k3 ?k4 ?k5 ?k6 ?k7 ?k8 ?k9 ?_
      (case k1 => k_asm)
      (case k2 => k_asm)
      (case k3 => k_asm)
      (case k4 => k_asm)
      (case k5 => k_asm)
      (case k6 => first | exact rfl | assumption)
      (case k7 => ktr_room)
      (case k8 => ktr_units)
      (case k9 => exact News.isList (by assumption) (by k_mem))
      intro Tw Pw tw yw h' tk' hIw hlw F' N' ow
      have ht' := ToldAre.snoc (w := (0 + (i : Int), 0 + (i : Int) + 1 + (j : Int))) (T := Tw) (P := Pw) (t := tw) ht hIw hlw
      rw [Int.zero_add, ← doneW_snoc] at ht'
      have hc2 := ow (L' + 1 + 1, o4) (by k_mem)
      refine ⟨_, _, (D2, LCg.lst rs) :: (D3, LCg.lst (strValues st)) :: (D, listOf us.toArray 0) :: (L' + 1 + 1 + 1 + 1 + 1, o1) :: (L' + 1 + 1 + 1 + 1, o2) :: (L' + 1 + 1 + 1, o3) :: (L' + 1 + 1, o4) :: (L' + 1, o5) :: (Tw, _) :: (Pw, _) :: led, rfl, F', news_sub N' (by (repeat' (first | (refine List.forall_mem_cons.mpr ⟨?_, ?_⟩) | k_mem | (intro p hp; (repeat' (first | exact hp | refine List.Mem.tail _ ?_)))))), off4_more (pre := [(D2, LCg.lst rs), (D3, LCg.lst (strValues st)), (D, listOf us.toArray 0), (L' + 1 + 1 + 1 + 1 + 1, o1), (L' + 1 + 1 + 1 + 1, o2), (L' + 1 + 1 + 1, o3), (L' + 1 + 1, o4), (L' + 1, o5)]) ho4 ow, _, rfl, by rw [Int.zero_add]; exact ht', ?_, h1, by omega, by rw [List.length_append]; simp; omega⟩
      exact List.forall_mem_cons.mpr ⟨Ne.symm hc2.1, List.forall_mem_cons.mpr ⟨Ne.symm hc2.2, hl⟩⟩
    · rintro zs nw ⟨led, rfl, ht, hl, h1, h2, h3⟩ Dt h' tk' F' N' of'
      exact ⟨rfl, (Dt, zs, led), h', tk', rfl, ⟨ht, hl, of'.1, of'.2.2.2.2.1, of'.2.2.2.2.2.2.1⟩, F', news_sub N' (by (repeat' (first | (refine List.forall_mem_cons.mpr ⟨?_, ?_⟩) | k_mem | (intro p hp; (repeat' (first | exact hp | refine List.Mem.tail _ ?_))))))⟩
  clear F' N'
  rintro ⟨D5, ys, led⟩ h tk ⟨hys, hled, hD5⟩ F' N'
  dsimp only at hys hled hD5 F' N'
  (try dsimp only)
  -- nonein
  refine' execs_cut (s := ⟨_, _, _, _, _⟩) F' N' (σ := Unit) (fun m _ => m) (fun l _ => l) (fun _ => True) ?_ ?_
  · repeat' (first | ((fail_if_success (with_reducible show wpAny _ _ (compareOp CmpOp.In _ _) _ _ _)); (first | (k_unfold; (try dsimp only)) | (k_end; wrow_close) | walk1 | (dsimp only; walk1) | (leave1; try dsimp only))))
    refine' none_in ?k1 ?k2 hys ?k3 ?k4 ?_
    (case k1 => k_asm)
    (case k2 => k_mem)
    (case k3 => (intro p hp; (repeat' (first | exact hp | refine List.Mem.tail _ ?_))))
    (case k4 => units_room)
    k_steps
    exact ⟨rfl, (), _, _, rfl, trivial, by assumption, by assumption⟩
  clear F' N'
  rintro _ h tk _ F' N'
  (try dsimp only)
  -- mates
  refine' execs_cut (s := ⟨_, _, _, _, _⟩) F' N' (σ := Addr × List Value) (fun m a y => if y = Str.ofString "mates" then some (.ref a.1) else m y) (fun l a => (a.1, LCg.lst a.2) :: l) (fun a => IntsAre a.2 (matesP rises) ∧ @Ne Nat (L' + 1 + 1) (a.1)) ?_ ?_
  · have hrl : rises.length = 7 := by rw [← hrises, List.length_map]; exact hnl
    k_dflt (refine LCg.Assign_ListComp_U (F₀ := by k_asm) (by rfl) (by with_unfolding_all rfl) (by with_unfolding_all rfl) (by decide) (by rfl) (by decide) (by rfl) (by rfl) (by rfl) ?_)
    repeat' (first | ((fail_if_success (with_reducible show LCg.CompSrc _ _ _ _ _ _ _ _ _ _ _ _ _ _)); (first | (k_unfold; (try dsimp only)) | (k_end; wrow_close) | walk1 | (dsimp only; walk1) | (leave1; try dsimp only))))
    refine LCg.CompSrc.range (n := 7) (by rfl) (by k_asm) (by k_asm) (by assumption) (by decide) (by rfl) (by rw [PySem.sizeLine_eq]; omega) ?_
    intro g'
    refine' comp_rest (fun n zs nw => nw = _ ∧ IntsAre zs ((matesP rises).take n)) ⟨rfl, .nil⟩ ?_ ?_
    · rintro n zs nw v J oJ C oC D' m' h' tk' E' hn ⟨rfl, hzs⟩ ⟨tv, hv⟩ hC' hx' F' N' off' ne'
      subst hv
      simp only [LCg.Off3, and_true] at off'
      repeat' (first | ((fail_if_success (with_reducible show LCg.CompEnd _ _ _ _ _ _ _ _ _ _ _ _ _ _)); (fail_if_success (with_reducible show wpAny _ _ (call (Value.ref _) _) _ _ _)); (first | (k_unfold; (try dsimp only)) | (k_end; wrow_close) | walk1 | (dsimp only; walk1) | (leave1; try dsimp only))))
      · refine' use_vH (sp_mate w D2 rises (0 + (n : Int)) _ (by omega) (by omega) hrl) ?k1 ?k2 ?k3 ?k4 ?k5 ?k6 ?k7 ?k8 ?k9 ?_
        (case k1 => k_asm)
        (case k2 => k_asm)
        (case k3 => k_asm)
        (case k4 => k_asm)
        (case k5 => k_asm)
        (case k6 => first | exact rfl | assumption)
        (case k7 => ktr_room)
        (case k8 => ktr_units)
        (case k9 => exact ⟨rs, News.isList (by assumption) (by k_mem), hrs⟩)
        rintro v' h' tk' ⟨t', rfl⟩ F' N'
        repeat' (first | ((fail_if_success (with_reducible show LCg.CompEnd _ _ _ _ _ _ _ _ _ _ _ _ _ _)); (first | (k_unfold; (try dsimp only)) | (k_end; wrow_close) | walk1 | (dsimp only; walk1) | (leave1; try dsimp only))))
        exact LCg.CompEnd.intro (by k_asm) (by k_asm) _ (by (repeat' (first | (refine List.forall_mem_cons.mpr ⟨?_, ?_⟩) | k_mem | (intro p hp; (repeat' (first | exact hp | refine List.Mem.tail _ ?_)))))) (by simp only [LCg.Off3, and_true]; exact off') trivial ⟨rfl, mates_y hzs hn (by assumption)⟩
      · exact LCg.CompEnd.intro (by k_asm) (by k_asm) _ (by (repeat' (first | (refine List.forall_mem_cons.mpr ⟨?_, ?_⟩) | k_mem | (intro p hp; (repeat' (first | exact hp | refine List.Mem.tail _ ?_)))))) (by simp only [LCg.Off3, and_true]; exact off') trivial ⟨rfl, mates_n hzs hn (by assumption)⟩
    · rintro zs nw ⟨rfl, hzs⟩
      k_steps
      (with_reducible rename _ ∧ _ ∧ _ ∧ _ ∧ LCg.Off1 _ _ => of1)
      exact ⟨rfl, (_, _), _, _, rfl, ⟨mates_fin hzs, of1.2.2.2.1⟩, by assumption, by assumption⟩
  clear F' N'
  rintro ⟨D6, ms⟩ h tk ⟨hms, hD6⟩ F' N'
  dsimp only at hms hD6 F' N'
  (try dsimp only)
  -- loop1
  refine' execs_cut (s := ⟨_, _, _, _, _⟩) F' N' (σ := Obj) (fun m _ => m) (fun l a => (D6, LCg.lst ms) :: (D5, LCg.lst ys) :: (D2, LCg.lst rs) :: (L' + 1 + 1 + 1 + 1, o2) :: (L' + 1 + 1, a) :: led) (fun a => ∃ v, a.data = .cell v) ?_ ?_
  · have hyl : ys.length = 28 := by rw [hys.1]; rfl
    have hrl : rises.length = 7 := by rw [← hrises, List.length_map]; exact hnl
    have hml : (matesP rises).length = 7 := by simp [matesP]
    refine For_turns F' ?_
    repeat' (first | ((fail_if_success (with_reducible show wpAny _ _ (pyIter _) _ _ _)); (first | (k_unfold; (try dsimp only)) | (k_end; wrow_close) | walk1 | (dsimp only; walk1) | (leave1; try dsimp only))))
    refine range_turns (n := 7) (σ := Obj) (fun _ y => if y = Str.ofString "mates" then some (.ref D6) else if y = Str.ofString "told" then some (.ref D5) else if y = Str.ofString "script" then some (.ref l) else none) (fun o => (D6, LCg.lst ms) :: (D5, LCg.lst ys) :: (D2, LCg.lst rs) :: (L' + 1 + 1 + 1 + 1, o2) :: (L' + 1 + 1, o) :: led) (D6 :: D5 :: D2 :: (L' + 1 + 1 + 1 + 1) :: (L' + 1 + 1) :: led.map (·.1)) (fun _ o => ∃ v, o.data = .cell v) o4 (by rfl) (by assumption) (by decide) (by rfl) (by k_asm) (by k_asm) (fun _ => rfl) ⟨_, d4⟩ ?_ ?_
    · rintro i o t h tk own hi ⟨vk, ho⟩ hoff F' N'
      have htl : ∀ p ∈ led ++ own, @Ne Nat p.1 (L' + 1 + 1) := fun p hp => (List.mem_append.mp hp).elim (fun q => hled p q) (fun q e => hoff p q (by rw [e]; k_mem))
      have hyt : ToldAre rises (doneW 7 0) ys (led ++ own) := hys.mono fun p hp => List.mem_append_left _ hp
      replace N' : News s.heap L' h ((D6, LCg.lst ms) :: (D5, LCg.lst ys) :: (D2, LCg.lst rs) :: (L' + 1 + 1 + 1 + 1, o2) :: (L' + 1 + 1, o) :: (led ++ own)) := N'
      refine wpAny_assign_Name (storeX_C F' N' (by rfl) (UpdF.tail ?u1 (UpdF.tail ?u2 (UpdF.tail ?u3 (UpdF.tail ?u4 (UpdF.head ?u5))))) ho ?_ (by rfl) (by rfl))
      (case u1 => exact Ne.symm hD6)
      (case u2 => exact Ne.symm hD5.2.2)
      (case u3 => exact Ne.symm n2f)
      (case u4 => exact neN (by omega))
      (case u5 => exact htl)
      intro h' o' F' N' d'
      (try dsimp only at N')
      repeat' (first | ((fail_if_success (with_reducible show wpAny _ _ (eval (Expr.ListComp _ _ _ _) _) _ _ _)); (fail_if_success (with_reducible show TurnTo _ _ _ _ _ _ _ _ _ _)); (first | (k_unfold; (try dsimp only)) | (k_end; wrow_close) | walk1 | (dsimp only; walk1) | (leave1; try dsimp only))))
      · have hmb := matesP_bd hrl (show i < 7 from hi)
        refine ListComp_pt (h₀ := s.heap) (L := L') (m := (fun _ y => if y = Str.ofString "mates" then some (.ref D6) else if y = Str.ofString "told" then some (.ref D5) else if y = Str.ofString "script" then some (.ref l) else none) ()) (ax := D5) (its := ys) (kn := ys.length) (news := (D6, LCg.lst ms) :: (D5, LCg.lst ys) :: (D2, LCg.lst rs) :: (L' + 1 + 1 + 1 + 1, o2) :: (L' + 1 + 1, o') :: (led ++ own)) (fun n zs => IntsAre zs (List.replicate (cntW rises (0 + (i : Int)) ((doneW 7 0).take n)) 1)) (by rfl) (by with_unfolding_all rfl) (by decide) (by rfl) (by decide) (by rfl) (by rfl) (by decide) ?_ (by k_mem) (by omega) .nil (fun n zs hz => by rw [hz.length, List.length_replicate]; exact cntW_le _ _ _ _) ?_ ?_
        · walk1
          exact ⟨_, _, rfl, rfl, by assumption, by assumption⟩
        · intro n v hv
          have hn : n < (doneW 7 0).length := by rw [← hyt.1]; exact (List.getElem?_eq_some_iff.mp hv).1
          obtain ⟨w', hw'⟩ : ∃ w, (doneW 7 0)[n]? = some w := ⟨_, List.getElem?_eq_getElem hn⟩
          obtain ⟨T, P, tu, ks, e, m1, m2, hks, hkl⟩ := hyt.2 n w' hw'
          have ev : v = .ref T := by rw [hv] at e; exact Option.some.inj e
          refine ⟨T, _, _, ev, .tail _ (.tail _ (.tail _ (.tail _ (.tail _ m1)))), ?_⟩
          rintro zs J oJ C oC Dn mc hq tk' E' hz hoC hm1 hm2 F' N' off' ne'
          repeat' (first | ((fail_if_success (with_reducible show wpAny _ _ (compareOp CmpOp.In _ _) _ _ _)); (first | (k_unfold; (try dsimp only)) | (k_end; wrow_close) | walk1 | (dsimp only; walk1) | (leave1; try dsimp only))))
          refine in_list_ints (News.isList N' (.tail _ (.tail _ (.tail _ (.tail _ (.tail _ (.tail _ (.tail _ (.tail _ m2))))))))) hks ?_
          simp only [LCg.Off3] at off'
          repeat' (first | ((fail_if_success (with_reducible show LCg.CompEnd _ _ _ _ _ _ _ _ _ _ _ _ _ _)); (first | (k_unfold; (try dsimp only)) | (k_end; wrow_close) | walk1 | (dsimp only; walk1) | (leave1; try dsimp only))))
          · exact LCg.CompEnd.intro (by k_asm) (by k_asm) _ (by (repeat' (first | (refine List.forall_mem_cons.mpr ⟨?_, ?_⟩) | k_mem | (intro p hp; (repeat' (first | exact hp | refine List.Mem.tail _ ?_)))))) (by simp only [LCg.Off3]; exact off') trivial ⟨rfl, cnt_y hz hw' (by assumption)⟩
          · exact LCg.CompEnd.intro (by k_asm) (by k_asm) _ (by (repeat' (first | (refine List.forall_mem_cons.mpr ⟨?_, ?_⟩) | k_mem | (intro p hp; (repeat' (first | exact hp | refine List.Mem.tail _ ?_)))))) (by simp only [LCg.Off3]; exact off') trivial ⟨rfl, cnt_n hz hw' (by assumption)⟩
        · intro Dc zs h tk hz F' N' offc
          have hzl : (zs.length : Int) = (0 + (i : Int) + 1) * ((matesP rises).getD (0 + (i : Int)).toNat 0 - (0 + (i : Int))) := by
            have e1 : (0 + (i : Int)) = (i : Int) := by omega
            have e2 : ((i : Int)).toNat = i := by omega
            rw [hz.length, List.length_replicate, List.take_of_length_le (by rw [← hyt.1]; exact Nat.le_refl _), e1, e2]
            exact hlaw1 i hi (by rename rises.getD _ 0 = 1 => hr1; rw [e1, e2] at hr1; exact hr1)
          have hz7 : zs.length ≤ 28 := by
            rw [hz.length, List.length_replicate]
            exact Nat.le_trans (cntW_le _ _ _ _) (by omega)
          repeat' (first | ((fail_if_success (with_reducible show wpAny _ _ (call (Value.builtin "len") _) _ _ _)); (first | (k_unfold; (try dsimp only)) | (k_end; wrow_close) | walk1 | (dsimp only; walk1) | (leave1; try dsimp only))))
          refine len_V (News.isList (by assumption) (by k_mem)) (by omega) ?_
          intro ti' tk'
          repeat' (first | ((fail_if_success (with_reducible show TurnTo _ _ _ _ _ _ _ _ _ _)); (first | (k_unfold; (try dsimp only)) | (k_end; wrow_close) | walk1 | (dsimp only; walk1) | (leave1; try dsimp only))))
          · exact absurd hzl (by assumption)
          · (with_reducible rename News _ _ _ _ => NN)
            exact ⟨o', _, _, rfl, ⟨_, d'⟩, by assumption, fun p hp => NN p (.tail _ hp)⟩
      · exact ⟨o', _, _, rfl, ⟨_, d'⟩, by assumption, by assumption⟩
    · rintro o h tk ho F' N'
      exact ⟨rfl, o, h, tk, rfl, ho, F', N'⟩
  clear F' N' d4 o4
  rintro o4 h tk d4 F' N'
  (try dsimp only at d4 F' N')
  (try dsimp only)
  -- due
  refine' execs_cut (s := ⟨_, _, _, _, _⟩) F' N' (σ := Tok) (fun m a y => if y = Str.ofString "due" then some (.int 0 a) else m y) (fun l _ => l) (fun _ => True) ?_ ?_
  · k_steps
    exact ⟨rfl, _, _, _, rfl, trivial, by assumption, by assumption⟩
  clear F' N'
  rintro tdue h tk _ F' N'
  (try dsimp only at F' N')
  (try dsimp only)
  -- loop2
  refine' execs_cut (s := ⟨_, _, _, _, _⟩) F' N' (σ := Obj × Int × Tok) (fun _ a y => if y = Str.ofString "due" then some (.int a.2.1 a.2.2) else if y = Str.ofString "mates" then some (.ref D6) else if y = Str.ofString "told" then some (.ref D5) else if y = Str.ofString "script" then some (.ref l) else none) (fun l a => (D6, LCg.lst ms) :: (D5, LCg.lst ys) :: (D2, LCg.lst rs) :: (L' + 1 + 1 + 1 + 1, o2) :: (L' + 1 + 1, a.1) :: led) (fun a => (∃ v, a.1.data = .cell v) ∧ a.2.1 = dueP rises 7) ?_ ?_
  · have hrl : rises.length = 7 := by rw [← hrises, List.length_map]; exact hnl
    have hml : (matesP rises).length = 7 := by simp [matesP]
    refine For_turns F' ?_
    repeat' (first | ((fail_if_success (with_reducible show wpAny _ _ (pyIter _) _ _ _)); (first | (k_unfold; (try dsimp only)) | (k_end; wrow_close) | walk1 | (dsimp only; walk1) | (leave1; try dsimp only))))
    refine range_turns (n := 7) (σ := Obj × Int × Tok) (fun a y => if y = Str.ofString "due" then some (.int a.2.1 a.2.2) else if y = Str.ofString "mates" then some (.ref D6) else if y = Str.ofString "told" then some (.ref D5) else if y = Str.ofString "script" then some (.ref l) else none) (fun a => (D6, LCg.lst ms) :: (D5, LCg.lst ys) :: (D2, LCg.lst rs) :: (L' + 1 + 1 + 1 + 1, o2) :: (L' + 1 + 1, a.1) :: led) (D6 :: D5 :: D2 :: (L' + 1 + 1 + 1 + 1) :: (L' + 1 + 1) :: led.map (·.1)) (fun i a => (∃ v, a.1.data = .cell v) ∧ a.2.1 = dueP rises i) (o4, 0, tdue) (by rfl) (by assumption) (by decide) (by rfl) (by k_asm) (by k_asm) (fun _ => rfl) ⟨d4, rfl⟩ ?_ ?_
    · rintro i ⟨o, du, td⟩ t h tk own hi ⟨⟨vk, ho⟩, hdu⟩ hoff F' N'
      dsimp only at ho hdu F' N'
      have htl : ∀ p ∈ led ++ own, @Ne Nat p.1 (L' + 1 + 1) := fun p hp => (List.mem_append.mp hp).elim (fun q => hled p q) (fun q e => hoff p q (by rw [e]; k_mem))
      have hyt : ToldAre rises (doneW 7 0) ys (led ++ own) := hys.mono fun p hp => List.mem_append_left _ hp
      replace N' : News s.heap L' h ((D6, LCg.lst ms) :: (D5, LCg.lst ys) :: (D2, LCg.lst rs) :: (L' + 1 + 1 + 1 + 1, o2) :: (L' + 1 + 1, o) :: (led ++ own)) := N'
      refine wpAny_assign_Name (storeX_C F' N' (by rfl) (UpdF.tail ?u1 (UpdF.tail ?u2 (UpdF.tail ?u3 (UpdF.tail ?u4 (UpdF.head ?u5))))) ho ?_ (by rfl) (by rfl))
      (case u1 => exact Ne.symm hD6)
      (case u2 => exact Ne.symm hD5.2.2)
      (case u3 => exact Ne.symm n2f)
      (case u4 => exact neN (by omega))
      (case u5 => exact htl)
      intro h' o' F' N' d'
      (try dsimp only at N')
      have hix := idx_bd (k := 0 + (i : Int)) hml
      repeat' (first | ((fail_if_success (with_reducible show TurnTo _ _ _ _ _ _ _ _ _ _)); (fail_if_success (with_reducible show wpAny _ _ (call (Value.builtin "list.index") _) _ _ _)); (first | (k_unfold; (try dsimp only)) | (k_end; wrow_close) | walk1 | (dsimp only; walk1) | (leave1; try dsimp only))))
      · refine kf_index (its := ms.toArray) (by assumption) (by k_mem) (kf_ints_of hms) (kf_at_of hms (by assumption)) rfl (by rw [PySem.sizeLine_eq]; have := hms.length; simp; omega) ?_
        repeat' (first | ((fail_if_success (with_reducible show TurnTo _ _ _ _ _ _ _ _ _ _)); (first | (k_unfold; (try dsimp only)) | (k_end; wrow_close) | walk1 | (dsimp only; walk1) | (leave1; try dsimp only))))
        (with_reducible rename Fr _ _ _ _ => FF)
        exact ⟨(o', _, _), _, _, rfl, ⟨⟨_, d'⟩, due_y hdu (by assumption) (by assumption) rfl⟩, fr_twice FF, by assumption⟩
      · (with_reducible rename Fr _ _ _ _ => FF)
        exact ⟨(o', _, _), _, _, rfl, ⟨⟨_, d'⟩, due_n hdu (by assumption) (by assumption) rfl⟩, fr_twice FF, by assumption⟩
      · exact ⟨(o', du, td), _, _, rfl, ⟨⟨_, d'⟩, due_0 hdu (by assumption)⟩, by assumption, by assumption⟩
    · rintro a h tk ⟨ho, hd⟩ F' N'
      exact ⟨rfl, a, h, tk, rfl, ⟨ho, hd⟩, F', N'⟩
  clear F' N' d4 o4
  rintro ⟨o4, du, td⟩ h tk ⟨d4, hdu⟩ F' N'
  (try dsimp only at d4 hdu F' N')
  (try dsimp only)
  have hyl : ys.length = 28 := by rw [hys.1]; rfl
  repeat' (first | ((fail_if_success (with_reducible show wpAny _ _ (eval (Expr.ListComp _ _ _ _) _) _ _ _)); (first | (k_unfold; (try dsimp only)) | (k_end; wrow_close) | walk1 | (dsimp only; walk1) | (leave1; try dsimp only))))
  k_dflt (refine LCp.ListComp_P (F₀ := by k_asm) (by with_unfolding_all rfl) (by decide) (by rfl) (by decide) (by rfl) (by rfl) (by decide) ?_)
  repeat' (first | ((fail_if_success (with_reducible show LCp.SrcLP _ _ _ _ _ _ _ _ _ _ _ _ _ _ _)); (first | (k_unfold; (try dsimp only)) | (k_end; wrow_close) | walk1 | (dsimp only; walk1) | (leave1; try dsimp only))))
  refine LCp.SrcLP.ledger (its := ys.toArray) (by rfl) (by k_asm) (by k_asm) (by k_mem) (by rw [List.size_toArray, PySem.sizeLine_eq]; omega) ?_
  intro g'
  refine comp_restP (fun n zs => IntsAre zs ((upsL rises).take n)) .nil ?_ ?_
  · intro n v hn hv
    have hv' : ys[n]? = some v := by simpa using hv
    have hn : n < (doneW 7 0).length := by rw [← hys.1]; exact (List.getElem?_eq_some_iff.mp hv').1
    obtain ⟨w', hw'⟩ : ∃ w, (doneW 7 0)[n]? = some w := ⟨_, List.getElem?_eq_getElem hn⟩
    obtain ⟨T, P, tu, ks, e, m1, m2, hks, hkl⟩ := hys.2 n w' hw'
    have ev : v = .ref T := by rw [hv'] at e; exact Option.some.inj e
    refine ⟨T, _, _, ev, .tail _ (.tail _ (.tail _ (.tail _ (.tail _ m1)))), ?_⟩
    rintro zs J oJ C oC Dn mc hq tk' E' hz hoC hm1 hm2 F' N' off' ne'
    simp only [LCg.Off3] at off'
    repeat' (first | ((fail_if_success (with_reducible show LCg.CompEnd _ _ _ _ _ _ _ _ _ _ _ _ _ _)); (first | (k_unfold; (try dsimp only)) | (k_end; wrow_close) | walk1 | (dsimp only; walk1) | (leave1; try dsimp only))))
    exact LCg.CompEnd.intro (by k_asm) (by k_asm) _ (by (repeat' (first | (refine List.forall_mem_cons.mpr ⟨?_, ?_⟩) | k_mem | (intro p hp; (repeat' (first | exact hp | refine List.Mem.tail _ ?_)))))) (by simp only [LCg.Off3]; exact off') (Or.inr ⟨_, by k_mem, rfl, _, rfl⟩) ⟨rfl, ups_step hz hw'⟩
  · intro zs hz
    repeat' (first | ((fail_if_success (with_reducible show wpAny _ _ (call (Value.builtin "sum") _) _ _ _)); (first | (k_unfold; (try dsimp only)) | (k_end; wrow_close) | walk1 | (dsimp only; walk1) | (leave1; try dsimp only))))
    rw [List.take_of_length_le (by rw [List.size_toArray, hyl]; exact Nat.le_refl _)] at hz
    refine sum_V (by assumption) (by assumption) (by k_mem) hz (by rfl) ?_
    intro ts hs tks F' N'
    have hsd : (upsL rises).sum = du := by rw [hlaw2, hdu]
    rw [hsd]
    k_steps
    rw [show (du == du) = true from beq_self_eq_true du]
    exact hret _ _ (Fr.keep F')
end Mine
end
-- part PL1
section
open PySem PySem.W PySem.Calls PyProof.Rows PySem.Builtin PySem.Builtin.Str
namespace Mine
abbrev sl : Str := Str.ofString "/"
abbrev tl (x : Str) : List Nat := x.cps.toList
theorem sl_eq : sl = ⟨#[47]⟩ := by decide +kernel
theorem str_ext {x y : Str} (h : tl x = tl y) : x = y := by
  cases x; cases y
  exact congrArg Str.mk (Array.toList_inj.mp h)
theorem tl_app (x y : Str) : tl (x ++ y) = tl x ++ tl y := by
  show (x.cps ++ y.cps).toList = _
  simp
theorem app_assoc (x y z : Str) : x ++ y ++ z = x ++ (y ++ z) := str_ext (by simp [tl_app])
theorem app_nil (x : Str) : x ++ Str.ofString "" = x := str_ext (by rw [tl_app]; have : tl (Str.ofString "") = [] := by decide +kernel
                                                                    rw [this]; simp)
theorem nil_app (x : Str) : Str.ofString "" ++ x = x := str_ext (by rw [tl_app]; have : tl (Str.ofString "") = [] := by decide +kernel
                                                                    rw [this]; simp)
theorem len_tl (x : Str) : x.length = (tl x).length := by show x.cps.size = _; simp
theorem cut_uniq {c : Nat} : ∀ {a b A B : List Nat}, c ∉ a → c ∉ b → a ++ c :: A = b ++ c :: B → a = b ∧ A = B
  | [], [], A, B, _, _, h => ⟨rfl, by simpa using h⟩
  | [], y :: b, A, B, _, hb, h => by
    simp at h
    exact absurd (List.mem_cons.mpr (.inl h.1)) hb
  | x :: a, [], A, B, ha, _, h => by
    simp at h
    exact absurd (List.mem_cons.mpr (.inl h.1.symm)) ha
  | x :: a, y :: b, A, B, ha, hb, h => by
    simp only [List.cons_append, List.cons.injEq] at h
    have := cut_uniq (fun q => ha (.tail _ q)) (fun q => hb (.tail _ q)) h.2
    exact ⟨by rw [h.1, this.1], this.2⟩
theorem tl_join_cons (x y : Str) (r : List Str) : tl (Str.join sl (x :: y :: r)) = tl x ++ 47 :: tl (Str.join sl (y :: r)) := by
  show tl (x ++ sl ++ Str.join sl (y :: r)) = _
  rw [app_assoc, tl_app, tl_app, sl_eq]
  rfl
theorem join_uniq : ∀ {a b : List Str}, a ≠ [] → b ≠ [] → (∀ p ∈ a, 47 ∉ tl p) → (∀ p ∈ b, 47 ∉ tl p) → Str.join sl a = Str.join sl b → a = b
  | [], _, h, _, _, _, _ => absurd rfl h
  | _, [], _, h, _, _, _ => absurd rfl h
  | [x], [y], _, _, _, _, h => by have : x = y := h; rw [this]
  | [x], y :: z :: r, _, _, hx, _, h => by
    have h' := congrArg tl h
    rw [tl_join_cons] at h'
    exact absurd (show 47 ∈ tl x from by have : tl x = _ := h'; rw [this]; simp) (hx x (.head _))
  | x :: z :: r, [y], _, _, _, hy, h => by
    have h' := congrArg tl h
    rw [tl_join_cons] at h'
    exact absurd (show 47 ∈ tl y from by have : _ = tl y := h'; rw [← this]; simp) (hy y (.head _))
  | x :: z :: r, y :: z' :: r', _, _, hx, hy, h => by
    have h' := congrArg tl h
    rw [tl_join_cons, tl_join_cons] at h'
    have e := cut_uniq (hx x (.head _)) (hy y (.head _)) h'
    have ih := join_uniq (a := z :: r) (b := z' :: r') (by simp) (by simp) (fun p hp => hx p (.tail _ hp)) (fun p hp => hy p (.tail _ hp)) (str_ext e.2)
    rw [str_ext e.1, ih]
theorem join_app : ∀ {a b : List Str}, a ≠ [] → b ≠ [] → Str.join sl (a ++ b) = Str.join sl a ++ (sl ++ Str.join sl b)
  | [], _, h, _ => absurd rfl h
  | [x], [], _, h => absurd rfl h
  | [x], y :: r, _, _ => by show x ++ sl ++ Str.join sl (y :: r) = x ++ (sl ++ Str.join sl (y :: r)); rw [app_assoc]
  | x :: z :: r, b, _, hb => by
    have ih := join_app (a := z :: r) (b := b) (by simp) hb
    show x ++ sl ++ Str.join sl (z :: r ++ b) = x ++ sl ++ Str.join sl (z :: r) ++ (sl ++ Str.join sl b)
    rw [ih, app_assoc, app_assoc, app_assoc]
theorem split_ne (x : Str) : Txt.split x sl ≠ [] := by
  intro h
  have := split_pos x sl
  rw [h] at this
  simp at this
theorem split_fr (x : Str) : ∀ p ∈ Txt.split x sl, 47 ∉ tl p := by
  have h := StrLaws.split_free x 47
  rw [← sl_eq] at h; exact h
theorem split_join {l : List Str} (h : l ≠ []) (hf : ∀ p ∈ l, 47 ∉ tl p) : Txt.split (Str.join sl l) sl = l :=
  join_uniq (split_ne _) h (split_fr _) hf (StrLaws.join_split _ _)
theorem split_app (x y : Str) : Txt.split (x ++ (sl ++ y)) sl = Txt.split x sl ++ Txt.split y sl := by
  refine join_uniq (split_ne _) (by simp [split_ne]) (split_fr _) (fun p hp => (List.mem_append.mp hp).elim (split_fr _ p) (split_fr _ p)) ?_
  rw [StrLaws.join_split, join_app (split_ne _) (split_ne _), StrLaws.join_split, StrLaws.join_split]
/-- the parts that tell -/
def keepQ (p : Str) : Bool := !(p.length == 0 || p == Str.ofString ".")
def compsP (x : Str) : List Str := (Txt.split x sl).filter keepQ
theorem comps_app (x y : Str) : compsP (x ++ (sl ++ y)) = compsP x ++ compsP y := by
  unfold compsP; rw [split_app, List.filter_append]
theorem comps_nil : compsP (Str.ofString "") = [] := by
  have e : Str.ofString "" = Str.join sl [Str.ofString ""] := rfl
  unfold compsP
  rw [e, split_join (by simp) (by decide +kernel)]
  decide +kernel
theorem push_skip {r : Str} {zs : List Str} {c : Str} (h : keepQ c = false) : pushP r zs c = zs := by
  unfold keepQ at h
  unfold pushP
  rw [if_pos]
  rw [Bool.not_eq_false', Bool.or_eq_true] at h
  rcases h with h | h
  · exact .inl (by simpa using h)
  · exact .inr (eq_of_beq h)
theorem fold_comps (r x : Str) (zs : List Str) : (Txt.split x sl).foldl (pushP r) zs = (compsP x).foldl (pushP r) zs := by
  unfold compsP
  generalize Txt.split x sl = l
  induction l generalizing zs with
  | nil => rfl
  | cons a l ih =>
    rw [List.filter_cons]
    cases e : keepQ a with
    | true => simp only [if_true, List.foldl_cons]; exact ih _
    | false => simp only [Bool.false_eq_true, if_false, List.foldl_cons]; rw [push_skip e]; exact ih _
/-- no slash ahead -/
def NoRoot (x : Str) : Prop := (tl x).head? ≠ some 47
theorem starts_no {x : Str} (h : NoRoot x) : Txt.startswith x sl = false := by
  cases e : Txt.startswith x sl with
  | false => rfl
  | true =>
    exfalso
    apply h
    unfold Txt.startswith at e
    rw [Bool.and_eq_true] at e
    have e2 := e.2
    unfold subAt at e2
    have e3 := eq_of_beq e2
    have e4 := congrArg Array.toList e3
    rw [sl_eq] at e4
    have e5 : (x.cps.toList.take 1) = [47] := by simpa [Str.length] using e4
    show x.cps.toList.head? = some 47
    cases q : x.cps.toList with
    | nil => rw [q] at e5; simp at e5
    | cons a l => rw [q] at e5; simp at e5; simp [e5]
theorem ends_yes {x : Str} (h : Txt.endswith x sl = true) : ∃ y, x = y ++ sl := by
  unfold Txt.endswith at h
  rw [Bool.and_eq_true] at h
  obtain ⟨h1, h2⟩ := h
  have hl : sl.length = 1 := by decide +kernel
  rw [hl] at h1 h2
  have h1' : 1 ≤ x.length := by simpa using h1
  unfold subAt at h2
  have e3 := congrArg Array.toList (eq_of_beq h2)
  rw [sl_eq] at e3
  have e4 : (x.cps.toList.drop (x.length - 1)) = [47] := by
    have hsz : x.length - 1 + (⟨#[47]⟩ : Str).length = x.cps.size := by show x.cps.size - 1 + 1 = _; have : 1 ≤ x.cps.size := h1'; omega
    rw [hsz] at e3
    have e5 : List.take (x.cps.size - (x.length - 1)) (List.drop (x.length - 1) x.cps.toList) = [47] := by simpa using e3
    rw [List.take_of_length_le (by simp)] at e5
    exact e5
  refine ⟨⟨(x.cps.toList.take (x.length - 1)).toArray⟩, str_ext ?_⟩
  rw [tl_app]
  show tl x = (x.cps.toList.take (x.length - 1)).toArray.toList ++ tl sl
  have e5 : tl sl = [47] := by rw [sl_eq]
  rw [e5, ← e4]
  show x.cps.toList = x.cps.toList.take (x.length - 1) ++ x.cps.toList.drop (x.length - 1)
  rw [List.take_append_drop]
theorem len0 {x : Str} (h : x.length = 0) : x = Str.ofString "" := str_ext (by
  have e : tl (Str.ofString "") = [] := by decide +kernel
  rw [e]; rw [len_tl] at h; exact List.eq_nil_of_length_eq_zero h)
theorem comps_join {x y : Str} (hy : NoRoot y) : compsP (joinP x y) = compsP x ++ compsP y := by
  unfold joinP
  rw [starts_no hy]
  simp only [Bool.false_eq_true, if_false]
  by_cases h0 : x.length = 0
  · rw [if_pos h0, len0 h0, comps_nil, List.nil_append]
  · rw [if_neg h0]
    by_cases he : Txt.endswith x sl = true
    · rw [if_pos he]
      obtain ⟨z, rfl⟩ := ends_yes he
      have e1 : z ++ sl ++ y = z ++ (sl ++ y) := app_assoc _ _ _
      have e2 : z ++ sl = z ++ (sl ++ Str.ofString "") := by rw [app_nil]
      rw [e1, comps_app, e2, comps_app, comps_nil, List.append_nil]
    · rw [if_neg he, comps_app]
theorem noRoot_app {x y : Str} (h0 : x.length ≠ 0) (h : NoRoot x) : NoRoot (x ++ y) := by
  unfold NoRoot at *
  rw [tl_app]
  rw [len_tl] at h0
  cases q : tl x with
  | nil => rw [q] at h0; exact absurd rfl h0
  | cons a l => rw [q] at h; simpa using h
theorem noRoot_join {x y : Str} (hx : NoRoot x) (hy : NoRoot y) : NoRoot (joinP x y) := by
  unfold joinP
  rw [starts_no hy]
  simp only [Bool.false_eq_true, if_false]
  by_cases h0 : x.length = 0
  · rw [if_pos h0]; exact hy
  · rw [if_neg h0]
    by_cases he : Txt.endswith x sl = true
    · rw [if_pos he]; exact noRoot_app h0 hx
    · rw [if_neg he]; exact noRoot_app h0 hx
theorem noRoot_nil : NoRoot (Str.ofString "") := by unfold NoRoot; decide +kernel
theorem comps_way : ∀ {l : List Str} {a : Str}, NoRoot a → (∀ p ∈ l, NoRoot p) → compsP (l.foldl joinP a) = compsP a ++ l.flatMap compsP ∧ NoRoot (l.foldl joinP a)
  | [], a, ha, _ => by simp [ha]
  | y :: l, a, ha, hl => by
    have ih := comps_way (l := l) (a := joinP a y) (noRoot_join ha (hl y (.head _))) (fun p hp => hl p (.tail _ hp))
    rw [List.foldl_cons, ih.1, comps_join (hl y (.head _))]
    exact ⟨by rw [List.append_assoc, List.flatMap_cons], ih.2⟩
end Mine
end
-- part PL2
section
open PySem PySem.W PySem.Calls PyProof.Rows PySem.Builtin PySem.Builtin.Str
namespace Mine
def nm (k : Int) : Str := namesL.getD k.toNat (Str.ofString "")
abbrev dd : Str := Str.ofString ".."
theorem comps_one {x : Str} (h : 47 ∉ tl x) (hk : keepQ x = true) : compsP x = [x] := by
  unfold compsP
  have e : Txt.split x sl = [x] := split_join (l := [x]) (by simp) (by simpa using h)
  rw [e, List.filter_cons, if_pos hk]; rfl
theorem nm_ok {k : Int} (h0 : 0 ≤ k) (h7 : k < 7) : 47 ∉ tl (nm k) ∧ keepQ (nm k) = true ∧ nm k ≠ dd ∧ NoRoot (nm k) := by
  have h : ∀ n, n < 7 → (47 ∉ tl (namesL.getD n (Str.ofString "")) ∧ keepQ (namesL.getD n (Str.ofString "")) = true ∧ namesL.getD n (Str.ofString "") ≠ dd ∧ (tl (namesL.getD n (Str.ofString ""))).head? ≠ some 47) := by decide +kernel
  exact h k.toNat (by omega)
theorem nm_inj {j k : Int} (h0 : 0 ≤ j) (h7 : j < 7) (h0' : 0 ≤ k) (h7' : k < 7) (e : nm j = nm k) : j = k := by
  have h : ∀ m, m < 7 → ∀ n, n < 7 → namesL.getD m (Str.ofString "") = namesL.getD n (Str.ofString "") → m = n := by decide +kernel
  have := h j.toNat (by omega) k.toNat (by omega) e
  omega
theorem dd_comps : compsP dd = [dd] := comps_one (by decide +kernel) (by decide +kernel)
theorem dots_ok (n : Nat) : compsP (dotsL.getD n (Str.ofString "")) = [] ∧ NoRoot (dotsL.getD n (Str.ofString "")) ∧ ∀ k : Int, 0 ≤ k → k < 7 → dotsL.getD n (Str.ofString "") ≠ nm k := by
  have hd : ∀ x : Str, (x = Str.ofString "." ∨ x = Str.ofString "" ∨ x = Str.ofString ".//") → compsP x = [] ∧ NoRoot x ∧ ∀ k : Int, 0 ≤ k → k < 7 → x ≠ nm k := by
    have h : ∀ n, n < 7 → namesL.getD n (Str.ofString "") ≠ Str.ofString "." ∧ namesL.getD n (Str.ofString "") ≠ Str.ofString "" ∧ namesL.getD n (Str.ofString "") ≠ Str.ofString ".//" := by decide +kernel
    rintro x (rfl | rfl | rfl)
    · refine ⟨?_, by unfold NoRoot; decide +kernel, fun k h0 h7 e => (h k.toNat (by omega)).1 e.symm⟩
      have e : Txt.split (Str.ofString ".") sl = [Str.ofString "."] := split_join (l := [Str.ofString "."]) (by simp) (by decide +kernel)
      unfold compsP; rw [e]; decide +kernel
    · exact ⟨comps_nil, noRoot_nil, fun k h0 h7 e => (h k.toNat (by omega)).2.1 e.symm⟩
    · refine ⟨?_, by unfold NoRoot; decide +kernel, fun k h0 h7 e => (h k.toNat (by omega)).2.2 e.symm⟩
      have e0 : Str.ofString ".//" = Str.join sl [Str.ofString ".", Str.ofString "", Str.ofString ""] := by decide +kernel
      have e : Txt.split (Str.ofString ".//") sl = [Str.ofString ".", Str.ofString "", Str.ofString ""] := by rw [e0]; exact split_join (by simp) (by decide +kernel)
      unfold compsP; rw [e]; decide +kernel
  by_cases h : n < 3
  · have h3 : ∀ n, n < 3 → (dotsL.getD n (Str.ofString "") = Str.ofString "." ∨ dotsL.getD n (Str.ofString "") = Str.ofString "" ∨ dotsL.getD n (Str.ofString "") = Str.ofString ".//") := by decide +kernel
    exact hd _ (h3 n h)
  · have e : dotsL.getD n (Str.ofString "") = Str.ofString "" := by rw [List.getD_eq_getElem?_getD, List.getElem?_eq_none (show 3 ≤ n by omega)]; rfl
    rw [e]; exact hd _ (.inr (.inl rfl))
/-- what a step is -/
theorem step_kind (x k : Int) : (riseP x = 1 ∧ stepP x k = nm k) ∨ (riseP x = -1 ∧ stepP x k = dd) ∨ (riseP x = 0 ∧ ∃ n : Nat, stepP x k = dotsL.getD n (Str.ofString "")) := by
  have hf : x.fmod 5 = x % 5 := Int.fmod_eq_emod_of_nonneg x (by decide)
  have h1 : 0 ≤ x % 5 := Int.emod_nonneg _ (by decide)
  have h2 : x % 5 < 5 := Int.emod_lt_of_pos _ (by decide)
  unfold riseP stepP
  rw [hf]
  have hc : x % 5 = 0 ∨ x % 5 = 1 ∨ x % 5 = 2 ∨ x % 5 = 3 ∨ x % 5 = 4 := by omega
  rcases hc with e | e | e | e | e <;> rw [e]
  · exact .inl ⟨rfl, rfl⟩
  · exact .inl ⟨rfl, rfl⟩
  · exact .inr (.inl ⟨rfl, rfl⟩)
  · exact .inr (.inl ⟨rfl, rfl⟩)
  · exact .inr (.inr ⟨rfl, _, rfl⟩)
section
variable {rs : List Int} {S : Int → Str}
/-- a letter of the word and its step -/
def Let (rs : List Int) (S : Int → Str) (k : Int) : Prop :=
  (rs.getD k.toNat 0 = 1 ∧ S k = nm k) ∨ (rs.getD k.toNat 0 = -1 ∧ S k = dd) ∨ (rs.getD k.toNat 0 = 0 ∧ ∃ n : Nat, S k = dotsL.getD n (Str.ofString ""))
def conv0 (a : Nat × List Int) : List Str := List.replicate a.1 dd ++ a.2.map nm
def conv1 (a : Nat × List Int) : List Str := a.2.map nm
theorem push_nm {r : Str} {zs : List Str} {k : Int} (h0 : 0 ≤ k) (h7 : k < 7) : pushP r zs (nm k) = zs ++ [nm k] := by
  have h := nm_ok h0 h7
  have hk := h.2.1
  unfold keepQ at hk
  rw [Bool.not_eq_true', Bool.or_eq_false_iff] at hk
  unfold pushP
  rw [if_neg, if_pos (.inl h.2.2.1)]
  rintro (q | q)
  · have := hk.1; rw [q] at this; simp at this
  · have := hk.2; rw [q] at this; simp at this
theorem dd_no : ¬ (dd.length = 0 ∨ dd = Str.ofString ".") := by decide +kernel
theorem push_dd0 {a : Nat × List Int} (ha : ∀ k ∈ a.2, 0 ≤ k ∧ k < 7) : pushP (Str.ofString "") (conv0 a) dd = conv0 (if a.2 = [] then (a.1 + 1, []) else (a.1, a.2.dropLast)) := by
  unfold pushP
  rw [if_neg dd_no]
  rcases List.eq_nil_or_concat a.2 with e | ⟨t, k, e⟩
  · rw [if_pos e]
    have hc : conv0 a = List.replicate a.1 dd := by unfold conv0; rw [e]; simp
    rw [hc, if_pos]
    · show _ = List.replicate (a.1 + 1) dd ++ List.map nm []
      rw [List.replicate_succ']; simp
    · cases q : a.1 with
      | zero => exact .inr (.inl ⟨by decide +kernel, rfl⟩)
      | succ n => exact .inr (.inr (by rw [List.replicate_succ', List.getLast?_append]; rfl))
  · rw [List.concat_eq_append] at e
    have hk := ha k (by rw [e]; simp)
    have hc : conv0 a = (List.replicate a.1 dd ++ t.map nm) ++ [nm k] := by unfold conv0; rw [e]; simp
    rw [hc, if_neg, if_neg (by rw [e]; simp)]
    · show _ = List.replicate a.1 dd ++ a.2.dropLast.map nm
      rw [List.dropLast_concat, e, List.dropLast_concat]
    · rintro (q | ⟨_, q⟩ | q)
      · exact q rfl
      · simp at q
      · rw [List.getLast?_append] at q
        exact (nm_ok hk.1 hk.2).2.2.1 (by simpa using q)
theorem push_dd1 {r : Str} (hr : r.length ≠ 0) {a : Nat × List Int} (ha : ∀ k ∈ a.2, 0 ≤ k ∧ k < 7) : pushP r (conv1 a) dd = conv1 (if a.2 = [] then (a.1 + 1, []) else (a.1, a.2.dropLast)) := by
  unfold pushP
  rw [if_neg dd_no]
  rcases List.eq_nil_or_concat a.2 with e | ⟨t, k, e⟩
  · rw [if_pos e]
    have hc : conv1 a = [] := by unfold conv1; rw [e]; rfl
    rw [hc, if_neg]
    · rfl
    · rintro (q | ⟨q, _⟩ | q)
      · exact q rfl
      · exact hr q
      · simp at q
  · rw [List.concat_eq_append] at e
    have hk := ha k (by rw [e]; simp)
    have hc : conv1 a = t.map nm ++ [nm k] := by unfold conv1; rw [e]; simp
    rw [hc, if_neg, if_neg (by rw [e]; simp)]
    · show _ = a.2.dropLast.map nm
      rw [List.dropLast_concat, e, List.dropLast_concat]
    · rintro (q | ⟨_, q⟩ | q)
      · exact q rfl
      · simp at q
      · rw [List.getLast?_append] at q
        exact (nm_ok hk.1 hk.2).2.2.1 (by simpa using q)
theorem winS_mem {a : Nat × List Int} {k : Int} (hk : 0 ≤ k ∧ k < 7) (ha : ∀ k ∈ a.2, 0 ≤ k ∧ k < 7) : ∀ j ∈ (winS rs a k).2, 0 ≤ j ∧ j < 7 := by
  intro j hj
  unfold winS at hj
  split at hj
  · rcases List.mem_append.mp hj with h | h
    · exact ha j h
    · rw [List.mem_singleton.mp h]; exact hk
  · split at hj
    · split at hj
      · simp at hj
      · exact ha j ((List.dropLast_sublist _).subset hj)
    · exact ha j hj
theorem fold_win (r : Str) (conv : Nat × List Int → List Str)
    (hnm : ∀ a k, (0 ≤ k ∧ k < 7) → pushP r (conv a) (nm k) = conv (a.1, a.2 ++ [k]))
    (hdd : ∀ a, (∀ k ∈ a.2, 0 ≤ k ∧ k < 7) → pushP r (conv a) dd = conv (if a.2 = [] then (a.1 + 1, []) else (a.1, a.2.dropLast))) :
    ∀ (l : List Int) (a : Nat × List Int), (∀ k ∈ l, (0 ≤ k ∧ k < 7) ∧ Let rs S k) → (∀ k ∈ a.2, 0 ≤ k ∧ k < 7) → (l.flatMap fun k => compsP (S k)).foldl (pushP r) (conv a) = conv (l.foldl (winS rs) a)
  | [], a, _, _ => rfl
  | k :: l, a, hl, ha => by
    have hk := hl k (.head _)
    rw [List.flatMap_cons, List.foldl_append, List.foldl_cons]
    have ih := fold_win r conv hnm hdd l (winS rs a k) (fun k hk => hl k (.tail _ hk)) (winS_mem hk.1 ha)
    rw [← ih]
    congr 1
    rcases hk.2 with ⟨h1, h2⟩ | ⟨h1, h2⟩ | ⟨h1, n, h2⟩
    · have h := nm_ok hk.1.1 hk.1.2
      rw [h2, comps_one h.1 h.2.1]
      unfold winS; rw [if_pos h1]
      exact hnm a k hk.1
    · rw [h2, dd_comps]
      unfold winS; rw [if_neg (by rw [h1]; decide), if_pos h1]
      exact hdd a ha
    · rw [h2, (dots_ok n).1]
      unfold winS; rw [if_neg (by rw [h1]; decide), if_neg (by rw [h1]; decide)]
      rfl
theorem win_sub : ∀ (l : List Int) (a : Nat × List Int), (∀ k ∈ a.2, rs.getD k.toNat 0 = 1) → ((l.foldl (winS rs) a).2.Sublist (a.2 ++ l)) ∧ ∀ k ∈ (l.foldl (winS rs) a).2, rs.getD k.toNat 0 = 1
  | [], a, ha => by simp; exact ha
  | k :: l, a, ha => by
    rw [List.foldl_cons]
    have hs : (winS rs a k).2.Sublist (a.2 ++ [k]) ∧ ∀ j ∈ (winS rs a k).2, rs.getD j.toNat 0 = 1 := by
      unfold winS
      split
      · rename_i h1
        refine ⟨List.Sublist.refl _, fun j hj => ?_⟩
        rcases List.mem_append.mp hj with h | h
        · exact ha j h
        · rw [List.mem_singleton.mp h]; exact h1
      · split
        · split
          · exact ⟨List.nil_sublist _, fun j hj => by simp at hj⟩
          · exact ⟨(List.dropLast_sublist _).trans (List.sublist_append_left _ _), fun j hj => ha j ((List.dropLast_sublist _).subset hj)⟩
        · exact ⟨List.sublist_append_left _ _, ha⟩
    have ih := win_sub l (winS rs a k) hs.2
    refine ⟨ih.1.trans ?_, ih.2⟩
    have : a.2 ++ k :: l = (a.2 ++ [k]) ++ l := by simp
    rw [this]
    exact List.Sublist.append hs.1 (List.Sublist.refl _)
end
end Mine
namespace Mine
theorem filter_sub : ∀ {l ks : List Int}, ks.Sublist l → l.Nodup → l.filter (fun k => decide (k ∈ ks)) = ks
  | _, _, .slnil, _ => rfl
  | _ :: l, ks, .cons a h, hn => by
    have hn' := List.nodup_cons.mp hn
    rw [List.filter_cons, if_neg]
    · exact filter_sub h hn'.2
    · intro q
      exact hn'.1 (h.subset (by simpa using q))
  | _ :: l, _ :: ks, .cons_cons a h, hn => by
    have hn' := List.nodup_cons.mp hn
    rw [List.filter_cons, if_pos (by simp)]
    congr 1
    rw [← filter_sub h hn'.2]
    refine List.filter_congr fun k hk => ?_
    rw [filter_sub h hn'.2]
    have : k ≠ a := fun e => hn'.1 (e ▸ hk)
    simp [this]
theorem range_nodup (i : Int) (n : Nat) : (rangeKs i n).Nodup := by
  unfold rangeKs
  refine List.Pairwise.map _ (fun a b h => ?_) List.nodup_range
  intro e; apply h; omega
theorem upsP_rep (u : Nat) {l : List Str} (h : ∀ p ∈ l, p ≠ dd) : upsP (List.replicate u dd ++ l) = u := by
  induction u with
  | zero =>
    cases l with
    | nil => rfl
    | cons a l =>
      have : (a == dd) = false := by
        cases q : (a == dd) with
        | false => rfl
        | true => exact absurd (eq_of_beq q) (h a (.head _))
      show upsP (a :: l) = 0
      unfold upsP
      rw [List.takeWhile_cons, this]; rfl
  | succ n ih =>
    have : upsP (dd :: (List.replicate n dd ++ l)) = upsP (List.replicate n dd ++ l) + 1 := by
      unfold upsP
      rw [List.takeWhile_cons]
      have e : (dd == Str.ofString "..") = true := by decide +kernel
      rw [e]; rfl
    rw [List.replicate_succ, List.cons_append, this, ih]
theorem join_len {l : List Str} (h : l ≠ []) (hp : ∀ p ∈ l, p.length ≠ 0) : (Str.join sl l).length ≠ 0 := by
  cases l with
  | nil => exact absurd rfl h
  | cons x r =>
    cases r with
    | nil => exact hp x (.head _)
    | cons y r =>
      rw [len_tl, tl_join_cons]; simp
theorem parts_norm {zs : List Str} (hf : ∀ p ∈ zs, 47 ∉ tl p) (hd : ∀ p ∈ zs, p ≠ Str.ofString ".") : partsP (if zs = [] then Str.ofString "." else Str.join sl zs) = zs := by
  by_cases h : zs = []
  · rw [if_pos h, h]; unfold partsP; rw [if_pos (by decide +kernel)]
  · rw [if_neg h]
    unfold partsP
    rw [if_neg]
    · exact split_join h hf
    · intro q
      have e := eq_of_beq q
      have e2 : Txt.split (Str.join sl zs) sl = zs := split_join h hf
      rw [e] at e2
      have e3 : Txt.split (Str.ofString ".") sl = [Str.ofString "."] := split_join (l := [Str.ofString "."]) (by simp) (by decide +kernel)
      rw [e3] at e2
      exact hd _ (by rw [← e2]; simp) rfl
theorem sliceTo {x : Str} {j : Nat} (h : j ≤ x.length) : Txt.slice x none (some (j : Int)) = ⟨((tl x).take j).toArray⟩ := by
  have := eq_of_beq (slice_closes_toL (x := x) (j := (j : Int)) (by omega) (by omega))
  rw [this]; simp
theorem sliceBet {x : Str} {i j : Nat} (hij : i ≤ j) (h : j ≤ x.length) : Txt.slice x (some (i : Int)) (some (j : Int)) = ⟨(((tl x).drop i).take (j - i)).toArray⟩ := by
  have := eq_of_beq (slice_closesL (x := x) (i := (i : Int)) (j := (j : Int)) (by omega) (by omega) (by omega))
  rw [this]
  have e : ((j : Int) - (i : Int)).toNat = j - i := by omega
  rw [e]; simp
theorem sliceFrom {x : Str} {i : Nat} (h : i ≤ x.length) : Txt.slice x (some (i : Int)) none = ⟨((tl x).drop i).toArray⟩ := by
  rw [slice_from_eq (x := x) (i := (i : Int)) (b := (x.length : Int)) (by omega) (by omega) rfl]
  have e : ((x.length : Int) - (i : Int)).toNat = x.length - i := by omega
  rw [e, List.take_of_length_le (by rw [List.length_drop, ← len_tl]; simp)]
  simp
/-- no root -/
theorem root_no {x : Str} (h : NoRoot x) : rootP x = (Str.ofString "", x) := by
  refine rootP_1 ?_
  by_cases h0 : x.length = 0
  · rw [len0 h0]; decide +kernel
  · have e : Txt.slice x none (some 1) = ⟨((tl x).take 1).toArray⟩ := sliceTo (j := 1) (by omega)
    rw [e, bne_iff_ne]
    intro q
    apply h
    have q2 := congrArg tl q
    rw [show tl (Str.ofString "/") = [47] from by decide +kernel] at q2
    have q3 : (tl x).take 1 = [47] := by simpa using q2
    cases e : tl x with
    | nil => rw [e] at q3; simp at q3
    | cons a l => rw [e] at q3; simp at q3; simp [q3]
end Mine
end
-- part PL3
section
open PySem PySem.W PySem.Calls PyProof.Rows PySem.Builtin PySem.Builtin.Str
namespace Mine
theorem norm_no {x : Str} {zs : List Str} (hx : NoRoot x) (hf : (compsP x).foldl (pushP (Str.ofString "")) [] = zs) (hl : ∀ p ∈ zs, p.length ≠ 0) : normP x = if zs = [] then Str.ofString "." else Str.join sl zs := by
  unfold normP
  by_cases h0 : x.length = 0
  · rw [if_pos h0]
    rw [len0 h0, comps_nil] at hf
    rw [← hf]; rfl
  · rw [if_neg h0, root_no hx]
    dsimp only
    rw [fold_comps, hf, nil_app]
    by_cases hz : zs = []
    · rw [if_pos hz, hz, if_pos (by rfl)]
    · rw [if_neg hz, if_neg (join_len hz hl)]
theorem norm_gen {x r rest : Str} (hx : x.length ≠ 0) (hr : rootP x = (r, rest)) (hr0 : r.length ≠ 0) : normP x = r ++ Str.join sl ((compsP rest).foldl (pushP r) []) := by
  unfold normP
  rw [if_neg hx, hr]
  dsimp only
  rw [fold_comps, if_neg]
  rw [Str.length_append]; omega
theorem tl_mk (l : List Nat) : tl (⟨l.toArray⟩ : Str) = l := by simp [tl]
theorem eq_of_tl {x : Str} {l : List Nat} (h : tl x = l) : (⟨l.toArray⟩ : Str) = x := str_ext (by rw [tl_mk, h])
theorem t1 : tl (Str.ofString "/") = [47] := by decide +kernel
theorem t2 : tl (Str.ofString "//") = [47, 47] := by decide +kernel
theorem root_1 {way : Str} {a : Nat} {l : List Nat} (e : tl way = a :: l) (ha : a ≠ 47) : rootP (Str.ofString "/" ++ way) = (Str.ofString "/", way) := by
  have ex : tl (Str.ofString "/" ++ way) = 47 :: a :: l := by rw [tl_app, e]; rfl
  have hl : (Str.ofString "/" ++ way).length = l.length + 2 := by rw [len_tl, ex]; simp
  have s1 : Txt.slice (Str.ofString "/" ++ way) none (some 1) = Str.ofString "/" := by
    rw [show (1 : Int) = ((1 : Nat) : Int) from rfl, sliceTo (by omega), ex]; exact eq_of_tl t1
  have s2 : Txt.slice (Str.ofString "/" ++ way) (some 1) (some 2) = ⟨[a].toArray⟩ := by
    rw [show (1 : Int) = ((1 : Nat) : Int) from rfl, show (2 : Int) = ((2 : Nat) : Int) from rfl, sliceBet (by omega) (by omega), ex]; rfl
  have s3 : Txt.slice (Str.ofString "/" ++ way) (some 1) none = way := by
    rw [show (1 : Int) = ((1 : Nat) : Int) from rfl, sliceFrom (by omega), ex]; exact eq_of_tl e
  rw [rootP_2 (by rw [s1]; decide +kernel) (by
    rw [s2, bne_iff_ne]; intro q
    have q2 := congrArg tl q
    rw [tl_mk, show tl (Str.ofString "/") = [47] from by decide +kernel] at q2
    exact ha (by simpa using q2)), s3]
theorem root_2 {way : Str} {a : Nat} {l : List Nat} (e : tl way = a :: l) (ha : a ≠ 47) : rootP (Str.ofString "//" ++ way) = (Str.ofString "//", way) := by
  have ex : tl (Str.ofString "//" ++ way) = 47 :: 47 :: a :: l := by rw [tl_app, e]; rfl
  have hl : (Str.ofString "//" ++ way).length = l.length + 3 := by rw [len_tl, ex]; simp
  have s1 : Txt.slice (Str.ofString "//" ++ way) none (some 1) = Str.ofString "/" := by
    rw [show (1 : Int) = ((1 : Nat) : Int) from rfl, sliceTo (by omega), ex]; exact eq_of_tl t1
  have s2 : Txt.slice (Str.ofString "//" ++ way) (some 1) (some 2) = Str.ofString "/" := by
    rw [show (1 : Int) = ((1 : Nat) : Int) from rfl, show (2 : Int) = ((2 : Nat) : Int) from rfl, sliceBet (by omega) (by omega), ex]; exact eq_of_tl t1
  have s3 : Txt.slice (Str.ofString "//" ++ way) (some 2) (some 3) = ⟨[a].toArray⟩ := by
    rw [show (3 : Int) = ((3 : Nat) : Int) from rfl, show (2 : Int) = ((2 : Nat) : Int) from rfl, sliceBet (by omega) (by omega), ex]; rfl
  have s4 : Txt.slice (Str.ofString "//" ++ way) none (some 2) = Str.ofString "//" := by
    rw [show (2 : Int) = ((2 : Nat) : Int) from rfl, sliceTo (by omega), ex]; exact eq_of_tl t2
  have s5 : Txt.slice (Str.ofString "//" ++ way) (some 2) none = way := by
    rw [show (2 : Int) = ((2 : Nat) : Int) from rfl, sliceFrom (by omega), ex]; exact eq_of_tl e
  rw [rootP_4 (by rw [s1]; decide +kernel) (by rw [s2]; decide +kernel) (by
    rw [s3, beq_eq_false_iff_ne]; intro q
    have q2 := congrArg tl q
    rw [tl_mk, show tl (Str.ofString "/") = [47] from by decide +kernel] at q2
    exact ha (by simpa using q2)), s4, s5]
theorem root_3 {way : Str} {a : Nat} {l : List Nat} (e : tl way = a :: l) : rootP (Str.ofString "///" ++ way) = (Str.ofString "/", sl ++ (sl ++ way)) := by
  have ex : tl (Str.ofString "///" ++ way) = 47 :: 47 :: 47 :: a :: l := by rw [tl_app, e]; rfl
  have hl : (Str.ofString "///" ++ way).length = l.length + 4 := by rw [len_tl, ex]; simp
  have s1 : Txt.slice (Str.ofString "///" ++ way) none (some 1) = Str.ofString "/" := by
    rw [show (1 : Int) = ((1 : Nat) : Int) from rfl, sliceTo (by omega), ex]; exact eq_of_tl t1
  have s2 : Txt.slice (Str.ofString "///" ++ way) (some 1) (some 2) = Str.ofString "/" := by
    rw [show (1 : Int) = ((1 : Nat) : Int) from rfl, show (2 : Int) = ((2 : Nat) : Int) from rfl, sliceBet (by omega) (by omega), ex]; exact eq_of_tl t1
  have s3 : Txt.slice (Str.ofString "///" ++ way) (some 2) (some 3) = Str.ofString "/" := by
    rw [show (3 : Int) = ((3 : Nat) : Int) from rfl, show (2 : Int) = ((2 : Nat) : Int) from rfl, sliceBet (by omega) (by omega), ex]; exact eq_of_tl t1
  have s4 : Txt.slice (Str.ofString "///" ++ way) (some 1) none = sl ++ (sl ++ way) := by
    rw [show (1 : Int) = ((1 : Nat) : Int) from rfl, sliceFrom (by omega), ex]
    refine eq_of_tl ?_
    rw [tl_app, tl_app, e]; rfl
  rw [rootP_3 (by rw [s1]; decide +kernel) (by rw [s2]; decide +kernel) (by rw [s3]; decide +kernel), s4]
theorem comps_two (way : Str) : compsP (sl ++ (sl ++ way)) = compsP way := by
  have h := comps_app (Str.ofString "") (Str.ofString "" ++ (sl ++ way))
  rw [nil_app, nil_app, comps_nil, List.nil_append] at h
  rw [h]
  have h2 := comps_app (Str.ofString "") way
  rw [nil_app, comps_nil, List.nil_append] at h2
  exact h2
theorem norm_root {root way : Str} (hr : root = Str.ofString "/" ∨ root = Str.ofString "//" ∨ root = Str.ofString "///") (hw : NoRoot way) :
    ∃ r, r.length ≠ 0 ∧ rootT root = r ∧ normP (joinP root way) = r ++ Str.join sl ((compsP way).foldl (pushP r) []) := by
  have hj : joinP root way = root ++ way := by
    unfold joinP
    rw [starts_no hw]
    simp only [Bool.false_eq_true, if_false]
    rw [if_neg (by rcases hr with rfl | rfl | rfl <;> decide +kernel), if_pos (by rcases hr with rfl | rfl | rfl <;> decide +kernel)]
  rw [hj]
  by_cases h0 : way.length = 0
  · rw [len0 h0, comps_nil, app_nil]
    rcases hr with rfl | rfl | rfl
    · exact ⟨Str.ofString "/", by decide +kernel, by decide +kernel, by decide +kernel⟩
    · exact ⟨Str.ofString "//", by decide +kernel, by decide +kernel, by decide +kernel⟩
    · exact ⟨Str.ofString "/", by decide +kernel, by decide +kernel, by decide +kernel⟩
  · rw [len_tl] at h0
    cases e : tl way with
    | nil => rw [e] at h0; exact absurd rfl h0
    | cons a l =>
      have ha : a ≠ 47 := by intro q; apply hw; rw [e, q]; rfl
      have hx : ∀ r : Str, (r ++ way).length ≠ 0 := by intro r; rw [Str.length_append, len_tl way, e]; simp
      rcases hr with rfl | rfl | rfl
      · exact ⟨Str.ofString "/", by decide +kernel, by decide +kernel, norm_gen (hx _) (root_1 e ha) (by decide +kernel)⟩
      · exact ⟨Str.ofString "//", by decide +kernel, by decide +kernel, norm_gen (hx _) (root_2 e ha) (by decide +kernel)⟩
      · exact ⟨Str.ofString "/", by decide +kernel, by decide +kernel, by rw [norm_gen (hx _) (root_3 e) (by decide +kernel), comps_two]⟩
end Mine
end
-- part PL4
section
open PySem PySem.W PySem.Calls PyProof.Rows PySem.Builtin PySem.Builtin.Str
namespace Mine
theorem root_cases (nums : List Int) : rootX nums = Str.ofString "/" ∨ rootX nums = Str.ofString "//" ∨ rootX nums = Str.ofString "///" := by
  unfold rootX
  have hf : ((nums.getD 0 0).fdiv 5).fmod 3 = ((nums.getD 0 0).fdiv 5) % 3 := Int.fmod_eq_emod_of_nonneg _ (by decide)
  rw [hf]
  generalize (nums.getD 0 0).fdiv 5 = y
  have h1 : 0 ≤ y % 3 := Int.emod_nonneg _ (by decide)
  have h2 : y % 3 < 3 := Int.emod_lt_of_pos _ (by decide)
  have hc : y % 3 = 0 ∨ y % 3 = 1 ∨ y % 3 = 2 := by omega
  rcases hc with e | e | e <;> rw [e]
  · exact .inl rfl
  · exact .inr (.inl rfl)
  · exact .inr (.inr rfl)
theorem let_of {nums : List Int} (hn : nums.length = 7) {k : Int} (h0 : 0 ≤ k) (h7 : k < 7) : Let (nums.map riseP) (fun k => (stepsP nums).getD k.toNat (Str.ofString "")) k := by
  have e1 : (nums.map riseP).getD k.toNat 0 = riseP (nums.getD k.toNat 0) := by
    rw [List.getD_eq_getElem?_getD, List.getElem?_map, List.getD_eq_getElem?_getD, List.getElem?_eq_getElem (show k.toNat < nums.length by omega)]; rfl
  have e2 : (stepsP nums).getD k.toNat (Str.ofString "") = stepP (nums.getD k.toNat 0) k := by
    unfold stepsP
    rw [List.getD_eq_getElem?_getD, List.getElem?_map, List.getElem?_range (by omega)]
    have : ((k.toNat : Nat) : Int) = k := by omega
    show stepP (nums.getD k.toNat 0) ((k.toNat : Nat) : Int) = _
    rw [this]
  unfold Let
  rw [e1]
  dsimp only
  rw [e2]
  exact step_kind _ _
theorem noRoot_step {rs : List Int} {S : Int → Str} {k : Int} (h0 : 0 ≤ k) (h7 : k < 7) (h : Let rs S k) : NoRoot (S k) := by
  rcases h with ⟨_, h⟩ | ⟨_, h⟩ | ⟨_, n, h⟩
  · rw [h]; exact (nm_ok h0 h7).2.2.2
  · rw [h]; unfold NoRoot; decide +kernel
  · rw [h]; exact (dots_ok n).2.1
theorem way_eq {ss : List Str} (hs : ss.length = 7) {i j : Int} (h0 : 0 ≤ i) (hij : i < j) (h7 : j ≤ 7) : (ss.drop i.toNat).take (j - i).toNat = (rangeKs i (j - i).toNat).map (fun k => ss.getD k.toNat (Str.ofString "")) := by
  apply List.ext_getElem?
  intro t
  unfold rangeKs
  rw [List.getElem?_take, List.map_map, List.getElem?_map, List.getElem?_drop]
  by_cases ht : t < (j - i).toNat
  · rw [if_pos ht, List.getElem?_range ht]
    have e : (i + (t : Int)).toNat = i.toNat + t := by omega
    show _ = some (ss.getD (i + (t : Int)).toNat (Str.ofString ""))
    rw [e, List.getD_eq_getElem?_getD, List.getElem?_eq_getElem (show i.toNat + t < ss.length by omega)]; rfl
  · rw [if_neg ht, List.getElem?_eq_none (by rw [List.length_range]; omega)]; rfl
theorem nm_len {k : Int} (h0 : 0 ≤ k) (h7 : k < 7) : (nm k).length ≠ 0 ∧ nm k ≠ Str.ofString "." := by
  have h : ∀ n, n < 7 → ((namesL.getD n (Str.ofString "")).length ≠ 0 ∧ namesL.getD n (Str.ofString "") ≠ Str.ofString ".") := by decide +kernel
  exact h k.toNat (by omega)
theorem win_ok {nums : List Int} (hn : nums.length = 7) {i j : Int} (h0 : 0 ≤ i) (hij : i < j) (h7 : j ≤ 7) :
    WinOk (stepsP nums) i j (rootX nums) (winP (nums.map riseP) i j).1 (winP (nums.map riseP) i j).2 := by
  have hss : (stepsP nums).length = 7 := by simp [stepsP]
  have hr : ∀ k ∈ rangeKs i (j - i).toNat, 0 ≤ k ∧ k < 7 := fun k hk => by have := mem_rangeKs hk; omega
  have hL : ∀ k ∈ rangeKs i (j - i).toNat, (0 ≤ k ∧ k < 7) ∧ Let (nums.map riseP) (fun k => (stepsP nums).getD k.toNat (Str.ofString "")) k := fun k hk => ⟨hr k hk, let_of hn (hr k hk).1 (hr k hk).2⟩
  have hsub := win_sub (rs := nums.map riseP) (rangeKs i (j - i).toNat) (0, []) (fun k hk => by simp at hk)
  have hway : wayP (stepsP nums) i j = ((rangeKs i (j - i).toNat).map (fun k => (stepsP nums).getD k.toNat (Str.ofString ""))).foldl joinP (Str.ofString "") := by
    unfold wayP; rw [way_eq hss h0 hij h7]
  have hcw := comps_way (l := (rangeKs i (j - i).toNat).map (fun k => (stepsP nums).getD k.toNat (Str.ofString ""))) (a := Str.ofString "") noRoot_nil (fun p hp => by
    obtain ⟨k, hk, rfl⟩ := List.mem_map.mp hp
    exact noRoot_step (hr k hk).1 (hr k hk).2 (hL k hk).2)
  rw [← hway, comps_nil, List.nil_append, List.flatMap_map] at hcw
  obtain ⟨hcomps, hnr⟩ := hcw
  have f0 := fold_win (Str.ofString "") conv0 (fun a k hk => by rw [push_nm hk.1 hk.2]; unfold conv0; simp) (fun a ha => push_dd0 ha) (rangeKs i (j - i).toNat) (0, []) hL (fun k hk => by simp at hk)
  have e0 : conv0 (0, []) = [] := rfl
  rw [e0, ← hcomps] at f0
  have hW : winP (nums.map riseP) i j = (rangeKs i (j - i).toNat).foldl (winS (nums.map riseP)) (0, []) := rfl
  rw [← hW] at f0 hsub
  rw [List.nil_append] at hsub
  obtain ⟨hsl, hone⟩ := hsub
  generalize winP (nums.map riseP) i j = W at *
  have hm : ∀ k ∈ W.2, (0 ≤ k ∧ k < 7) ∧ (stepsP nums).getD k.toNat (Str.ofString "") = nm k := by
    intro k hk
    have hk' := hL k (hsl.subset hk)
    refine ⟨hk'.1, ?_⟩
    rcases hk'.2 with ⟨_, h⟩ | ⟨h, _⟩ | ⟨h, _⟩
    · exact h
    · have := hone k hk; rw [h] at this; exact absurd this (by decide)
    · have := hone k hk; rw [h] at this; exact absurd this (by decide)
  have hmap : W.2.map nm = W.2.map (fun k => (stepsP nums).getD k.toNat (Str.ofString "")) := List.map_congr_left fun k hk => (hm k hk).2.symm
  have hz : ∀ p ∈ conv0 W, (47 ∉ tl p) ∧ p ≠ Str.ofString "." ∧ p.length ≠ 0 := by
    intro p hp
    rcases List.mem_append.mp hp with h | h
    · rw [List.eq_of_mem_replicate h]; decide +kernel
    · obtain ⟨k, hk, rfl⟩ := List.mem_map.mp h
      have hk' := (hm k hk).1
      exact ⟨(nm_ok hk'.1 hk'.2).1, (nm_len hk'.1 hk'.2).2, (nm_len hk'.1 hk'.2).1⟩
  have hnorm := norm_no hnr f0 (fun p hp => (hz p hp).2.2)
  have hparts : partsP (normP (wayP (stepsP nums) i j)) = conv0 W := by
    rw [hnorm]; exact parts_norm (fun p hp => (hz p hp).1) (fun p hp => (hz p hp).2.1)
  have hdrop : (conv0 W).drop W.1 = W.2.map nm := by
    unfold conv0; rw [List.drop_left' (by simp)]
  refine ⟨?_, ?_, ?_, ?_⟩
  · rw [hparts]
    exact upsP_rep W.1 (fun p hp => by obtain ⟨k, hk, rfl⟩ := List.mem_map.mp hp; exact (nm_ok (hm k hk).1.1 (hm k hk).1.2).2.2.1)
  · rw [hparts, hdrop]
    conv => rhs; rw [← filter_sub hsl (range_nodup _ _)]
    refine List.filter_congr fun k hk => ?_
    have hk' := hL k hk
    have key : ((W.2.map nm).any fun x => x == (stepsP nums).getD k.toNat (Str.ofString "")) = true ↔ k ∈ W.2 := by
      rw [List.any_eq_true]
      constructor
      · rintro ⟨x, hx, e⟩
        obtain ⟨m, hmm, rfl⟩ := List.mem_map.mp hx
        have e' := eq_of_beq e
        have hm' := hm m hmm
        rcases hk'.2 with ⟨_, h⟩ | ⟨_, h⟩ | ⟨_, n, h⟩
        · dsimp only at h
          rw [h] at e'
          rw [← nm_inj hm'.1.1 hm'.1.2 hk'.1.1 hk'.1.2 e']; exact hmm
        · dsimp only at h
          rw [h] at e'
          exact absurd e' (nm_ok hm'.1.1 hm'.1.2).2.2.1
        · dsimp only at h
          rw [h] at e'
          exact absurd e'.symm ((dots_ok n).2.2 m hm'.1.1 hm'.1.2)
      · intro h
        exact ⟨nm k, List.mem_map_of_mem h, by rw [(hm k h).2]; exact beq_self_eq_true _⟩
    cases q : ((W.2.map nm).any fun x => x == (stepsP nums).getD k.toNat (Str.ofString "")) with
    | true => exact (decide_eq_true (key.mp q)).symm
    | false => exact (decide_eq_false (fun h => by rw [key.mpr h] at q; cases q)).symm
  · rw [hparts, hdrop, hmap]
  · obtain ⟨r, hr0, hrt, hnr2⟩ := norm_root (root_cases nums) hnr
    have f1 := fold_win r conv1 (fun a k hk => by rw [push_nm hk.1 hk.2]; unfold conv1; simp) (fun a ha => push_dd1 hr0 ha) (rangeKs i (j - i).toNat) (0, []) hL (fun k hk => by simp at hk)
    have e1 : conv1 (0, []) = [] := rfl
    rw [e1, ← hcomps, ← hW] at f1
    rw [hnr2, f1, hrt, ← hmap]; rfl
end Mine
end
-- part PL5
section
open PySem PySem.W PySem.Calls PyProof.Rows
namespace Mine
/-- the mate of a name -/
def Mi (rs : List Int) (k : Int) : Int := mateG 0 k (rs.drop k.toNat)
/-- a window of n steps from the i-th on -/
def Wn (rs : List Int) (i n : Nat) : Nat × List Int := (rangeKs (i : Int) n).foldl (winS rs) (0, [])
theorem rangeKs_snoc (a : Int) (n : Nat) : rangeKs a (n + 1) = rangeKs a n ++ [a + (n : Int)] := by
  unfold rangeKs; rw [List.range_succ, List.map_append]; rfl
theorem Wn_succ (rs : List Int) (i n : Nat) : Wn rs i (n + 1) = winS rs (Wn rs i n) ((i + n : Nat) : Int) := by
  unfold Wn; rw [rangeKs_snoc, List.foldl_append]
  have : (i : Int) + (n : Int) = ((i + n : Nat) : Int) := by omega
  rw [this]; rfl
theorem winP_eq (rs : List Int) (i b : Nat) : winP rs (i : Int) ((i : Int) + 1 + (b : Int)) = Wn rs i (b + 1) := by
  unfold winP Wn
  have : ((i : Int) + 1 + (b : Int) - (i : Int)).toNat = b + 1 := by omega
  rw [this]
/-- the names that stand, the last ahead, each with its depth -/
def Deep (rs : List Int) (j : Nat) : Nat → List Int → Prop
  | _, [] => True
  | d, k :: t => Mi rs k = mateG (d : Int) (j : Int) (rs.drop j) ∧ Deep rs j (d + 1) t
theorem deep_shift {rs : List Int} {j : Nat} (hj : j < rs.length) : ∀ {t : List Int} {d e : Nat}, (d : Int) + rs.getD j 0 = (e : Int) → 1 ≤ e → Deep rs j d t → Deep rs (j + 1) e t
  | [], _, _, _, _, _ => trivial
  | k :: t, d, e, h, he, ⟨h1, h2⟩ => by
    refine ⟨?_, deep_shift hj (d := d + 1) (e := e + 1) (by omega) (by omega) h2⟩
    rw [h1, drop_at hj, mate_n (by omega), h]
    congr 1
theorem deep_mem {rs : List Int} {j : Nat} : ∀ {t : List Int} {d : Nat} {k : Int}, Deep rs j d t → k ∈ t → ∃ e : Nat, d ≤ e ∧ Mi rs k = mateG (e : Int) (j : Int) (rs.drop j)
  | k' :: t, d, k, h, hk => by
    rcases List.mem_cons.mp hk with rfl | hk
    · exact ⟨d, Nat.le_refl _, h.1⟩
    · obtain ⟨e, he, h3⟩ := deep_mem h.2 hk
      exact ⟨e, by omega, h3⟩
structure Inv (rs : List Int) (i n : Nat) : Prop where
  deep : Deep rs (i + n) 1 (Wn rs i n).2.reverse
  gone : ∀ k : Nat, i ≤ k → k < i + n → rs.getD k 0 = 1 → (k : Int) ∉ (Wn rs i n).2 → Mi rs k < ((i + n : Nat) : Int)
theorem up_mate {rs : List Int} {k : Nat} (hk : k < rs.length) (h1 : rs.getD k 0 = 1) : Mi rs k = mateG 1 ((k : Int) + 1) (rs.drop (k + 1)) := by
  unfold Mi
  have e : ((k : Int)).toNat = k := by omega
  rw [e, drop_at hk, mate_n (by omega), h1]; rfl
theorem inv_step {rs : List Int} (hl : rs.length = 7) (h3 : ∀ k, k < 7 → rs.getD k 0 = 1 ∨ rs.getD k 0 = -1 ∨ rs.getD k 0 = 0) {i n : Nat} (hn : i + n < 7) (I : Inv rs i n) : Inv rs i (n + 1) := by
  have hj : i + n < rs.length := by omega
  have et : (((i + n : Nat) : Int)).toNat = i + n := by omega
  rcases h3 (i + n) hn with h | h | h
  · have eW : Wn rs i (n + 1) = ((Wn rs i n).1, (Wn rs i n).2 ++ [((i + n : Nat) : Int)]) := by
      rw [Wn_succ]; unfold winS; rw [et, if_pos h]
    constructor
    · rw [eW, List.reverse_append]
      show Deep rs (i + n + 1) 1 (((i + n : Nat) : Int) :: (Wn rs i n).2.reverse)
      refine ⟨?_, deep_shift hj (d := 1) (e := 2) (by rw [h]; rfl) (by omega) I.deep⟩
      rw [up_mate hj h]; rfl
    · intro k h0 h1 h2 h4
      rw [eW] at h4
      have hne : k ≠ i + n := fun e => h4 (by rw [e]; simp)
      have := I.gone k h0 (by omega) h2 (fun q => h4 (List.mem_append_left _ q))
      omega
  · by_cases hs : (Wn rs i n).2 = []
    · have eW : Wn rs i (n + 1) = ((Wn rs i n).1 + 1, []) := by
        rw [Wn_succ]; unfold winS; rw [et, if_neg (by omega), if_pos h, if_pos hs]
      constructor
      · rw [eW]; trivial
      · intro k h0 h1 h2 h4
        have hne : k ≠ i + n := fun e => by rw [e, h] at h2; exact absurd h2 (by decide)
        have := I.gone k h0 (by omega) h2 (by rw [hs]; simp)
        omega
    · have eW : Wn rs i (n + 1) = ((Wn rs i n).1, (Wn rs i n).2.dropLast) := by
        rw [Wn_succ]; unfold winS; rw [et, if_neg (by omega), if_pos h, if_neg hs]
      rcases List.eq_nil_or_concat (Wn rs i n).2 with e | ⟨t, k0, e⟩
      · exact absurd e hs
      · rw [List.concat_eq_append] at e
        have hd := I.deep
        rw [e, List.reverse_append] at hd
        have hd2 : Mi rs k0 = mateG 1 ((i + n : Nat) : Int) (rs.drop (i + n)) ∧ Deep rs (i + n) 2 t.reverse := hd
        have hM : Mi rs k0 = ((i + n : Nat) : Int) := by rw [hd2.1, drop_at hj, mate_y (by rw [h]; rfl)]
        constructor
        · rw [eW, e, List.dropLast_concat]
          exact deep_shift hj (d := 2) (e := 1) (by rw [h]; rfl) (by omega) hd2.2
        · intro k h0 h1 h2 h4
          rw [eW, e, List.dropLast_concat] at h4
          have hne : k ≠ i + n := fun e => by rw [e, h] at h2; exact absurd h2 (by decide)
          by_cases hk : (k : Int) = k0
          · rw [hk, hM]; omega
          · have := I.gone k h0 (by omega) h2 (by rw [e]; simp [h4, hk])
            omega
  · have eW : Wn rs i (n + 1) = Wn rs i n := by
      rw [Wn_succ]; unfold winS; rw [et, if_neg (by omega), if_neg (by omega)]
    constructor
    · rw [eW]; exact deep_shift hj (d := 1) (e := 1) (by rw [h]; rfl) (by omega) I.deep
    · intro k h0 h1 h2 h4
      rw [eW] at h4
      have hne : k ≠ i + n := fun e => by rw [e, h] at h2; exact absurd h2 (by decide)
      have := I.gone k h0 (by omega) h2 h4
      omega
theorem inv_all {rs : List Int} (hl : rs.length = 7) (h3 : ∀ k, k < 7 → rs.getD k 0 = 1 ∨ rs.getD k 0 = -1 ∨ rs.getD k 0 = 0) (i : Nat) : ∀ n, i + n ≤ 7 → Inv rs i n
  | 0, _ => ⟨trivial, fun k h0 h1 _ _ => by omega⟩
  | n + 1, h => inv_step hl h3 (by omega) (inv_all hl h3 i n (by omega))
theorem mem_win {rs : List Int} (hl : rs.length = 7) (h3 : ∀ k, k < 7 → rs.getD k 0 = 1 ∨ rs.getD k 0 = -1 ∨ rs.getD k 0 = 0) {i n k : Nat} (hn : i + n ≤ 7) :
    (k : Int) ∈ (Wn rs i n).2 ↔ i ≤ k ∧ k < i + n ∧ rs.getD k 0 = 1 ∧ ((i + n : Nat) : Int) ≤ Mi rs k := by
  have I := inv_all hl h3 i n hn
  constructor
  · intro h
    have hs := win_sub (rs := rs) (rangeKs (i : Int) n) (0, []) (fun k hk => by simp at hk)
    have h1 := hs.1.subset h
    rw [List.nil_append] at h1
    have h2 := mem_rangeKs h1
    have h4 := hs.2 _ h
    obtain ⟨e, _, he⟩ := deep_mem I.deep (List.mem_reverse.mpr h)
    have h5 := (mateG_bd (rs.drop (i + n)) (e : Int) ((i + n : Nat) : Int)).1
    exact ⟨by omega, by omega, h4, by rw [he]; exact h5⟩
  · rintro ⟨h0, h1, h2, h4⟩
    by_cases hm : (k : Int) ∈ (Wn rs i n).2
    · exact hm
    · have := I.gone k h0 h1 h2 hm
      omega
/-- two names have two mates -/
theorem mate_one {rs : List Int} (hl : rs.length = 7) (h3 : ∀ k, k < 7 → rs.getD k 0 = 1 ∨ rs.getD k 0 = -1 ∨ rs.getD k 0 = 0) {p k j : Nat} (hj : j < 7) (hf : rs.getD j 0 = -1) (hpk : p ≤ k) (hk : k < j) (hp1 : rs.getD p 0 = 1) (hk1 : rs.getD k 0 = 1) (hMp : Mi rs p = (j : Int)) (hMk : Mi rs k = (j : Int)) : p = k := by
  have e : p + (j - p) = j := by omega
  have I := inv_all hl h3 p (j - p) (by omega)
  have m1 : (p : Int) ∈ (Wn rs p (j - p)).2 := (mem_win hl h3 (by omega)).mpr ⟨Nat.le_refl _, by omega, hp1, by rw [e, hMp]; exact Int.le_refl _⟩
  have m2 : (k : Int) ∈ (Wn rs p (j - p)).2 := (mem_win hl h3 (by omega)).mpr ⟨hpk, by omega, hk1, by rw [e, hMk]; exact Int.le_refl _⟩
  have hd := I.deep
  rw [e] at hd
  have key : ∀ {l : List Int}, Deep rs j 1 l → ∀ x ∈ l, Mi rs x = (j : Int) → l.head? = some x := by
    intro l hl' x hx hM
    cases l with
    | nil => simp at hx
    | cons a t =>
      rcases List.mem_cons.mp hx with rfl | hx
      · rfl
      · obtain ⟨d, hd1, hd2⟩ := deep_mem hl'.2 hx
        rw [drop_at (by omega), hf, mate_n (by omega)] at hd2
        have := (mateG_bd (rs.drop (j + 1)) ((d : Int) + -1) ((j : Int) + 1)).1
        omega
  have a1 := key hd _ (List.mem_reverse.mpr m1) hMp
  have a2 := key hd _ (List.mem_reverse.mpr m2) hMk
  rw [a1] at a2
  have := Option.some.inj a2
  omega
theorem matesP_at {rs : List Int} {k : Nat} (hk : k < 7) : (matesP rs).getD k 0 = if rs.getD k 0 = 1 then Mi rs k else -1 := by
  unfold matesP Mi
  have e : ((k : Int)).toNat = k := by omega
  rw [e]
  simp [hk]
theorem mate_gt {rs : List Int} (hl : rs.length = 7) {k : Nat} (hk : k < 7) (h1 : rs.getD k 0 = 1) : (k : Int) < Mi rs k ∧ Mi rs k ≤ 7 := by
  rw [up_mate (by omega) h1]
  have := mateG_bd (rs.drop (k + 1)) 1 ((k : Int) + 1)
  rw [List.length_drop, hl] at this
  omega
end Mine
end
-- part PL6
section
open PySem PySem.W PySem.Calls PyProof.Rows
namespace Mine
theorem doneW_mem {w : Int × Int} (h : w ∈ doneW 7 0) : ∃ a b : Nat, w = ((a : Int), (a : Int) + 1 + (b : Int)) ∧ a + (b + 1) ≤ 7 := by
  unfold doneW at h
  rcases List.mem_append.mp h with h | h
  · obtain ⟨a, ha, h⟩ := List.mem_flatMap.mp h
    obtain ⟨b, hb, rfl⟩ := List.mem_map.mp h
    have := List.mem_range.mp ha
    have := List.mem_range.mp hb
    exact ⟨a, b, rfl, by omega⟩
  · simp at h
theorem count_1 : ∀ k : Nat, k < 7 → ∀ M : Nat, M < 8 → k < M → ((doneW 7 0).filter (fun w => decide (w.1 ≤ (k : Int) ∧ (k : Int) < w.2 ∧ w.2 ≤ (M : Int)))).length = (k + 1) * (M - k) := by decide +kernel
theorem count_2 : ∀ f : Nat, f < 7 → ∀ a : Nat, a < 8 → a ≤ f → ((doneW 7 0).map (fun w => if (f : Int) < w.2 ∧ (a : Int) ≤ w.1 ∧ w.1 ≤ (f : Int) then (1 : Int) else 0)).sum = ((f : Int) + 1 - (a : Int)) * (7 - (f : Int)) := by decide +kernel
section
variable {rs : List Int} (hl : rs.length = 7) (h3 : ∀ k, k < 7 → rs.getD k 0 = 1 ∨ rs.getD k 0 = -1 ∨ rs.getD k 0 = 0)
include hl h3
theorem names_law {k : Nat} (hk : k < 7) (h1 : rs.getD k 0 = 1) : ((cntW rs (k : Int) (doneW 7 0) : Nat) : Int) = ((k : Int) + 1) * ((matesP rs).getD k 0 - (k : Int)) := by
  have hM := mate_gt hl hk h1
  rw [matesP_at hk, if_pos h1]
  have e : cntW rs (k : Int) (doneW 7 0) = ((doneW 7 0).filter (fun w => decide (w.1 ≤ (k : Int) ∧ (k : Int) < w.2 ∧ w.2 ≤ (((Mi rs k).toNat : Nat) : Int)))).length := by
    unfold cntW
    congr 1
    refine List.filter_congr fun w hw => ?_
    obtain ⟨a, b, rfl, hab⟩ := doneW_mem hw
    dsimp only
    rw [winP_eq]
    have key : ((Wn rs a (b + 1)).2.any fun x => x == (k : Int)) = true ↔ ((a : Int) ≤ (k : Int) ∧ (k : Int) < (a : Int) + 1 + (b : Int) ∧ (a : Int) + 1 + (b : Int) ≤ (((Mi rs k).toNat : Nat) : Int)) := by
      rw [List.any_eq_true]
      constructor
      · rintro ⟨x, hx, ex⟩
        have ex' := eq_of_beq ex
        rw [ex'] at hx
        have := (mem_win hl h3 hab).mp hx
        omega
      · intro h
        exact ⟨(k : Int), (mem_win hl h3 hab).mpr ⟨by omega, by omega, h1, by omega⟩, beq_self_eq_true _⟩
    cases q : ((Wn rs a (b + 1)).2.any fun x => x == (k : Int)) with
    | true => exact (decide_eq_true (key.mp q)).symm
    | false => exact (decide_eq_false (fun h => by rw [key.mpr h] at q; cases q)).symm
  rw [e, count_1 k hk (Mi rs k).toNat (by omega) (by omega)]
  rw [Int.natCast_mul, Int.natCast_add]
  congr 1
  omega
/-- the name whose mate a fall is -/
def idxP (rs : List Int) (f : Nat) : Int := if (matesP rs).any (· == (f : Int)) = true then (((matesP rs).idxOf (f : Int) : Nat) : Int) else -1
omit h3 in
theorem idx_of {f : Nat} (hf : f < 7) (ha : (matesP rs).any (· == (f : Int)) = true) : ∃ p : Nat, idxP rs f = (p : Int) ∧ p < f ∧ rs.getD p 0 = 1 ∧ Mi rs p = (f : Int) := by
  have hm : (f : Int) ∈ matesP rs := by
    obtain ⟨x, hx, e⟩ := List.any_eq_true.mp ha
    rw [← eq_of_beq e]; exact hx
  have hml : (matesP rs).length = 7 := by simp [matesP]
  have hp : (matesP rs).idxOf (f : Int) < (matesP rs).length := List.idxOf_lt_length_iff.mpr hm
  have hg : (matesP rs).getD ((matesP rs).idxOf (f : Int)) 0 = (f : Int) := by
    rw [List.getD_eq_getElem?_getD, List.getElem?_eq_getElem hp]
    exact List.getElem_idxOf hp
  have hp7 : (matesP rs).idxOf (f : Int) < 7 := by omega
  rw [matesP_at hp7] at hg
  by_cases h1 : rs.getD ((matesP rs).idxOf (f : Int)) 0 = 1
  · rw [if_pos h1] at hg
    have := mate_gt hl hp7 h1
    exact ⟨_, by unfold idxP; rw [if_pos ha], by omega, h1, hg⟩
  · rw [if_neg h1] at hg; omega
omit h3 in
theorem idx_lt {f : Nat} (hf : f < 7) : -1 ≤ idxP rs f ∧ idxP rs f < (f : Int) := by
  by_cases ha : (matesP rs).any (· == (f : Int)) = true
  · obtain ⟨p, e, h, _⟩ := idx_of hl hf ha
    omega
  · unfold idxP; rw [if_neg ha]; omega
theorem empty_iff {i n : Nat} (hf : i + n < 7) (hd : rs.getD (i + n) 0 = -1) : (Wn rs i n).2 = [] ↔ idxP rs (i + n) < (i : Int) := by
  have hle : i + n ≤ 7 := Nat.le_of_lt hf
  constructor
  · intro he
    by_cases ha : (matesP rs).any (· == ((i + n : Nat) : Int)) = true
    · obtain ⟨p, ep, hp, h1, hM⟩ := idx_of hl hf ha
      rw [ep]
      by_cases hpi : p < i
      · exact Int.ofNat_lt.mpr hpi
      · have := (mem_win hl h3 (i := i) (n := n) (k := p) hle).mpr ⟨Nat.le_of_not_lt hpi, hp, h1, by rw [hM]; exact Int.le_refl _⟩
        rw [he] at this; cases this
    · unfold idxP; rw [if_neg ha]; exact Int.lt_of_lt_of_le (by decide) (Int.natCast_nonneg i)
  · intro hlt
    rcases List.eq_nil_or_concat (Wn rs i n).2 with h | ⟨t, k0, h⟩
    · exact h
    · exfalso
      rw [List.concat_eq_append] at h
      have hs := win_sub (rs := rs) (rangeKs (i : Int) n) (0, []) (fun k hk => by cases hk)
      have hmem : k0 ∈ (Wn rs i n).2 := by rw [h]; exact List.mem_append_right _ (.head _)
      have h1 := hs.1.subset hmem
      rw [List.nil_append] at h1
      have h2 := mem_rangeKs h1
      have hr1 := hs.2 _ hmem
      have hd0 := (inv_all hl h3 i n hle).deep
      rw [h, List.reverse_append] at hd0
      have hd2 : Mi rs k0 = mateG 1 ((i + n : Nat) : Int) (rs.drop (i + n)) := hd0.1
      have hM0 : Mi rs k0 = ((i + n : Nat) : Int) := by rw [hd2, drop_at (by rw [hl]; exact hf), mate_y (by rw [hd]; rfl)]
      obtain ⟨kn, rfl⟩ : ∃ kn : Nat, k0 = (kn : Int) := ⟨k0.toNat, by clear hlt hd2 hM0; omega⟩
      have hk1 : i ≤ kn := Int.ofNat_le.mp h2.1
      have hk2 : kn < i + n := by clear hlt hd2 hM0; omega
      have hkn : rs.getD kn 0 = 1 := hr1
      have hk7 : kn < 7 := Nat.lt_trans hk2 hf
      have ha : (matesP rs).any (· == ((i + n : Nat) : Int)) = true := by
        rw [List.any_eq_true]
        have hml : (matesP rs).length = 7 := by simp [matesP]
        have hg : (matesP rs).getD kn 0 = ((i + n : Nat) : Int) := by rw [matesP_at hk7, if_pos hkn, hM0]
        refine ⟨((i + n : Nat) : Int), ?_, beq_self_eq_true _⟩
        rw [← hg, List.getD_eq_getElem?_getD, List.getElem?_eq_getElem (show kn < (matesP rs).length by rw [hml]; exact hk7)]
        exact List.getElem_mem _
      obtain ⟨p, ep, hp, h1p, hMp⟩ := idx_of hl hf ha
      rw [ep] at hlt
      have hpi : p < i := Int.ofNat_lt.mp hlt
      have := mate_one hl h3 hf hd (p := p) (k := kn) (Nat.le_of_lt (Nat.lt_of_lt_of_le hpi hk1)) hk2 h1p hkn hMp hM0
      exact absurd hk1 (Nat.not_le.mpr (this ▸ hpi))
/-- does the fall f count in windows from the i-th on? -/
def upC (rs : List Int) (i f : Nat) : Int := if rs.getD f 0 = -1 ∧ idxP rs f < (i : Int) ∧ i ≤ f then 1 else 0
omit hl h3 in
theorem sum_0 (c : Nat → Int) : ∀ n, (∀ f, f < n → c f = 0) → ((List.range n).map c).sum = 0
  | 0, _ => rfl
  | n + 1, h => by rw [List.range_succ, List.map_append, List.sum_append, sum_0 c n (fun f hf => h f (by omega))]; simp [h n (by omega)]
theorem ups_sum (i : Nat) : ∀ n, i + n ≤ 7 → (((Wn rs i n).1 : Nat) : Int) = ((List.range (i + n)).map (upC rs i)).sum
  | 0, _ => by
    have : ((List.range (i + 0)).map (upC rs i)).sum = 0 := sum_0 _ _ fun f hf => by unfold upC; rw [if_neg (by omega)]
    rw [this]; rfl
  | n + 1, h => by
    have ih := ups_sum i n (by omega)
    have et : (((i + n : Nat) : Int)).toNat = i + n := by omega
    have ei : i + (n + 1) = (i + n) + 1 := by omega
    rw [ei, List.range_succ, List.map_append, List.sum_append, ← ih]
    have hemp := empty_iff hl h3 (i := i) (n := n) (by omega)
    rcases h3 (i + n) (by omega) with hr | hr | hr
    · have eW : (Wn rs i (n + 1)).1 = (Wn rs i n).1 := by rw [Wn_succ]; unfold winS; rw [et, if_pos hr]
      have ec : upC rs i (i + n) = 0 := by unfold upC; rw [if_neg (by omega)]
      rw [eW]; simp [ec]
    · by_cases hs : (Wn rs i n).2 = []
      · have eW : (Wn rs i (n + 1)).1 = (Wn rs i n).1 + 1 := by rw [Wn_succ]; unfold winS; rw [et, if_neg (by omega), if_pos hr, if_pos hs]
        have ec : upC rs i (i + n) = 1 := by unfold upC; rw [if_pos ⟨hr, (hemp hr).mp hs, by omega⟩]
        rw [eW]; simp [ec]
      · have eW : (Wn rs i (n + 1)).1 = (Wn rs i n).1 := by rw [Wn_succ]; unfold winS; rw [et, if_neg (by omega), if_pos hr, if_neg hs]
        have ec : upC rs i (i + n) = 0 := by unfold upC; rw [if_neg (fun q => hs ((hemp hr).mpr q.2.1))]
        rw [eW]; simp [ec]
    · have eW : (Wn rs i (n + 1)).1 = (Wn rs i n).1 := by rw [Wn_succ]; unfold winS; rw [et, if_neg (by omega), if_neg (by omega)]
      have ec : upC rs i (i + n) = 0 := by unfold upC; rw [if_neg (by omega)]
      rw [eW]; simp [ec]
omit hl h3 in
theorem range_cut (c : Nat → Int) {m : Nat} : ∀ d, ((List.range (m + d)).map (fun f => if f < m then c f else 0)).sum = ((List.range m).map c).sum
  | 0 => by
    congr 1
    refine List.map_congr_left fun f hf => ?_
    have hf' := List.mem_range.mp hf
    rw [if_pos (show f < m by omega)]
  | d + 1 => by
    have ei : m + (d + 1) = (m + d) + 1 := by omega
    rw [ei, List.range_succ, List.map_append, List.sum_append, range_cut c d]
    show _ + ((if m + d < m then c (m + d) else 0) + 0) = _
    rw [if_neg (by omega)]; omega
omit hl h3 in
theorem sum_add {α : Type} (f g : α → Int) : ∀ l : List α, (l.map fun x => f x + g x).sum = (l.map f).sum + (l.map g).sum
  | [] => rfl
  | a :: l => by simp only [List.map_cons, List.sum_cons, sum_add f g l]; omega
omit hl h3 in
theorem sum_swap {α β : Type} (g : α → β → Int) (m : List β) : ∀ l : List α, (l.map fun x => (m.map (g x)).sum).sum = (m.map fun y => (l.map fun x => g x y).sum).sum
  | [] => by
    have : ∀ m : List β, (m.map fun _ => (0 : Int)).sum = 0 := by intro m; induction m with | nil => rfl | cons a m ih => simp [ih]
    simp only [List.map_nil, List.sum_nil]; exact (this m).symm
  | a :: l => by
    simp only [List.map_cons, List.sum_cons]
    rw [sum_swap g m l, ← sum_add]
theorem ups_law : (upsL rs).sum = dueP rs 7 := by
  have e1 : upsL rs = (doneW 7 0).map (fun w => ((List.range 7).map (fun (f : Nat) => if (f : Int) < w.2 then upC rs w.1.toNat f else 0)).sum) := by
    unfold upsL
    refine List.map_congr_left fun w hw => ?_
    obtain ⟨a, b, rfl, hab⟩ := doneW_mem hw
    dsimp only
    rw [winP_eq, ups_sum hl h3 a (b + 1) hab]
    have hc := range_cut (upC rs a) (m := a + (b + 1)) (7 - (a + (b + 1)))
    rw [show a + (b + 1) + (7 - (a + (b + 1))) = 7 by omega] at hc
    rw [← hc]
    congr 1
    refine List.map_congr_left fun f _ => ?_
    have ea : ((a : Int)).toNat = a := by omega
    rw [ea]
    by_cases hf : f < a + (b + 1)
    · rw [if_pos hf, if_pos (by omega)]
    · rw [if_neg hf, if_neg (by omega)]
  rw [e1, sum_swap (fun (w : Int × Int) (f : Nat) => if (f : Int) < w.2 then upC rs w.1.toNat f else 0)]
  unfold dueP
  congr 1
  refine List.map_congr_left fun f hf => ?_
  have hf7 := List.mem_range.mp hf
  have hid := idx_lt hl hf7
  have ed : dueT rs f = if rs.getD f 0 = -1 then ((f : Int) - idxP rs f) * (7 - (f : Int)) else 0 := rfl
  rw [ed]
  by_cases hr : rs.getD f 0 = -1
  · rw [if_pos hr]
    have hc := count_2 f hf7 (idxP rs f + 1).toNat (by omega) (by omega)
    have hx : ((f : Int) - idxP rs f) = ((f : Int) + 1 - (((idxP rs f + 1).toNat : Nat) : Int)) := by omega
    rw [hx, ← hc]
    congr 1
    refine List.map_congr_left fun w hw => ?_
    obtain ⟨a, b, rfl, hab⟩ := doneW_mem hw
    dsimp only
    have ea : ((a : Int)).toNat = a := by omega
    unfold upC
    rw [ea]
    by_cases h1 : (f : Int) < (a : Int) + 1 + (b : Int)
    · rw [if_pos h1]
      by_cases h2 : rs.getD f 0 = -1 ∧ idxP rs f < (a : Int) ∧ a ≤ f
      · rw [if_pos h2, if_pos ⟨h1, by omega, by omega⟩]
      · rw [if_neg h2, if_neg]
        rintro ⟨_, q2, q3⟩
        exact h2 ⟨hr, by omega, by omega⟩
    · rw [if_neg h1, if_neg (fun q => h1 q.1)]
  · rw [if_neg hr]
    have : ∀ l : List (Int × Int), (l.map fun w => if (f : Int) < w.2 then upC rs w.1.toNat f else 0).sum = 0 := by
      intro l
      induction l with
      | nil => rfl
      | cons w l ih =>
        rw [List.map_cons, List.sum_cons, ih]
        have : upC rs w.1.toNat f = 0 := by unfold upC; rw [if_neg (fun q => hr q.1)]
        rw [this]; simp
    exact this _
end
theorem riseP_3 (x : Int) : riseP x = 1 ∨ riseP x = -1 ∨ riseP x = 0 := by
  rcases step_kind x 0 with h | h | h
  · exact .inl h.1
  · exact .inr (.inl h.1)
  · exact .inr (.inr h.1)
theorem rises_ok {nums : List Int} (hn : nums.length = 7) : (nums.map riseP).length = 7 ∧ ∀ k, k < 7 → (nums.map riseP).getD k 0 = 1 ∨ (nums.map riseP).getD k 0 = -1 ∨ (nums.map riseP).getD k 0 = 0 := by
  refine ⟨by simp [hn], fun k hk => ?_⟩
  have e : (nums.map riseP).getD k 0 = riseP (nums[k]'(by omega)) := by
    rw [List.getD_eq_getElem?_getD, List.getElem?_map, List.getElem?_eq_getElem (show k < nums.length by omega)]; rfl
  rw [e]; exact riseP_3 _
end Mine
end
-- part L1
open PySem PySem.W PySem.Calls PyProof.Rows
namespace Mine
theorem law1 (ns : List Int) : ∀ k : Nat, k < 7 → ((numsP ns).map riseP).getD k 0 = 1 → ((cntW ((numsP ns).map riseP) (k : Int) (doneW 7 0) : Nat) : Int) = ((k : Int) + 1) * ((matesP ((numsP ns).map riseP)).getD k 0 - (k : Int)) := by
  intro k hk h1
  have h := rises_ok (numsP_len ns)
  exact names_law h.1 h.2 hk h1
theorem law2 (ns : List Int) : (upsL ((numsP ns).map riseP)).sum = dueP ((numsP ns).map riseP) 7 := by
  have h := rises_ok (numsP_len ns)
  exact ups_law h.1 h.2
end Mine
theorem PySem.Challenge.cw_qw0079_01_holds : PySem.Challenge.rw_qw0079_01.Holds := by
  refine Mine.hd79 ?_
  w_top off
  k_with_none
  k_fill
  intro w s₀ s₁ mg mb G Y fa o pm cd doc dV kV ho hd hcd hD hmg hg args vals as hpre hlay hrd hwl hlo
  have KX := kIn_of Y
  refine Ground.open G ?_
  intro T B D TE TW
  have efa : fa = 153 := by
    have e := mg_of (n := Str.ofString "law") (v := .ref 153) KX (Top.g T) (by kernel_rfl)
    have e2 : mg (Str.ofString "law") = some (.ref fa) := hmg
    rw [e2] at e
    injection e with e
    injection e
  subst efa
  clear hd ho hcd hD hmg
  wrow_args hpre hlay hrd hwl hlo
  refine Mine.law_walk w _ _ _ (by assumption) (by omega) _ mg mb s₁ _ _ KX T (by assumption) (fun i j h0 hij h7 => Mine.win_ok (Mine.numsP_len _) h0 hij h7) (Mine.law1 _) (Mine.law2 _) ?_
  intro h' tk' hst
  refine GoodW.toG ⟨Or.inl ⟨_, .bool true, [], rfl, raisesW_false ?_, .bool _, ?_, unshared_nil⟩, hst, rfl, hg⟩
  · wrow_none_raised
  · wrow_post
