import PyProof.Rows.All
import Wide.All
import OpenK.AllK
import Wide.FinOn
import Lean
import PySem.Challenge.RW_dh5006_01
set_option Elab.async false
set_option maxRecDepth 100000
set_option maxHeartbeats 8000000
set_option linter.all false

section
open PySem PySem.W PyProof.Rows
namespace Mine
open_top hd for PySem.Challenge.rw_dh5006_01
end Mine
end

section
open PySem PySem.W PyProof.Rows PySem.Calls
namespace Mine


/-- every object of the first heap stands in the second -/
def Kept (h h' : Heap) : Prop := ∀ b o, h.get? b = some o → h'.get? b = some o
theorem Kept.refl (h : Heap) : Kept h h := fun _ _ e => e
theorem Kept.trans {a b c : Heap} (x : Kept a b) (y : Kept b c) : Kept a c := fun _ _ e => y _ _ (x _ _ e)

/-- a contract of a def: from any frame of a def, with room -/
def Con (w : World) (mean : ExcName → Option Value) (mg mb : Str → Option Value) (f : Addr) (D U : Nat) (args : List Value) (pre : Heap → Prop) (post : Heap → Value → Heap → Prop) : Prop :=
  ∀ (cn : Str) (cs : Scope) (a : Addr) (ccd : Value) (cl : List (Str × Addr)) (outer : List Env) (A₀ : Around) (base h₀ : Heap) (L : Addr) (m : Str → Option Value) (s : Shared) (Q E : Value → Shared → Prop),
    Below A₀ base outer h₀ → Fr h₀ L s.heap m → (Mine.hd.heap_39 w.params).In h₀ → Top Mine.hd.view_39 (looseW Mine.hd.view_39 []) mean mg mb h₀ → cs.kind = .function → pre s.heap →
    (∀ v h' tk', Kept s.heap h' → post s.heap v h' → Q v { s with heap := h', toks := tk' }) →
    wpAny (model Challenge.rw_dh5006_01.row.prog w) (ktrTop D U none cn cs L a ccd cl outer) (call (.ref f) args) Q E s

theorem ktr_mono {α : Type} {M : Model} {A : Around} {D U : Nat} {cn : Str} {cs : Scope} {L a : Addr} {ccd : Value} {cl : List (Str × Addr)} {outer : List Env} {t : Sem α} {Q : α → Shared → Prop} {E : Value → Shared → Prop} {s : Shared}
    (hd : A.depth ≤ D) (hu : A.units ≤ U) (hh : A.handled = none) (hA : A.frames = some (envX cn cs L a ccd cl :: outer))
    (h : wpAny M (ktrTop D U none cn cs L a ccd cl outer) t Q E s) : wpAny M A t Q E s := by
  intro Γ p hΓ
  refine h Γ p ⟨hΓ.1.trans hh, Nat.le_trans hΓ.2.1 hd, fun l hl => hΓ.2.2.1 l (hA.trans hl), fun g hg => (nomatch hg), Nat.le_trans hΓ.2.2.2.2 hu⟩

section
variable {prog : Program} {w : World} {A₀ A : Around} {s : Shared} {base h₀ : Heap} {outer : List Env} {L : Addr} {m : Str → Option Value} {env : Env} {K : Frag} {p : Program} {loose : List Str} {mean : ExcName → Option Value} {mg mb : Str → Option Value}
  {R : Result → Shared → Prop} {name qual : Str} {params : Arguments} {body : List Stmt} {scope : Scope} {dV kV doc pm cdv ct oc : Value} {an od : Option Addr} {osl : Array (Option Value)} {f : Addr} {args : Args} {binds : List (Str × Value)}

theorem con_def (B : Below A₀ base outer h₀) (F : Fr h₀ L s.heap m) (X₀ : K.In h₀) (T : Top p loose mean mg mb h₀) (hA : A.frames = some (env :: outer)) (hf : env.frame = some L) (hke : env.scope.kind = .function)
    (ho : K.lookup f = some ⟨oc, od, .func (fnOf name qual params body scope dV kV doc pm an cdv ct), osl⟩) (hcd : codeIn K cdv qual = true) (hroom : A.depth < recursionLimit)
    (hbind : BindsTo s (fnOf name qual params body scope dV kV doc pm an cdv ct) args binds) (hloc : ∀ y ∈ binds, scope.names.lookup y.1 = some .local)
    (h : ∀ L' h₁, Fr s.heap L' h₁ (fun y => binds.reverse.lookup y) → News s.heap L' h₁ [] → Below A base (env :: outer) s.heap → K.In s.heap → Top p loose mean mg mb s.heap →
      wpAny (model prog w) (A.deeper (envOf qual scope L' f cdv)) (execs body (envOf qual scope L' f cdv))
        (fun fl s' => R (.ok (.ret (match fl with | .ret v => v | _ => .none))) s')
        (fun e s' => wpAny (model prog w) (A.deeper (envOf qual scope L' f cdv)) (leaving (envOf qual scope L' f cdv) e) (fun _ s'' => R (.error e) s'') (fun e' s'' => R (.error e') s'') s')
        { s with heap := h₁, toks := s.toks + binds.length })
    (hco : scope.isCoroutine = false) (hgen : scope.isGenerator = false) (hk : scope.kind = .function)
    (hcell : ∀ x ∈ scope.names, x.2 ≠ .cell) : codeAny (model prog w) A (.call (.ref f) args) R s := by
  have P := pushX B F hf hke
  refine codeAny_call_def (fd := fnOf name qual params body scope dV kV doc pm an cdv ct) (body := body) (binds := binds) hroom ((X₀.keeps F.keep) _ _ ho) rfl (T.nolimit.keeps F.keep) (codeRec_of (X₀.keeps F.keep) hcd) rfl hbind hcell hloc (fun h₁ hns hk₁ => ?_) hco hgen hk
  exact h s.heap.objs.size h₁ ⟨hns, hk₁, Nat.le_refl _⟩ News.nil ⟨hA, P.stays, P.frames⟩ (X₀.keeps F.keep) (T.keeps F.keep)
end

theorem Fr.onto {h₀ h h' : Heap} {L : Addr} {m : Str → Option Value} (F : Fr h₀ L h m) (k : Kept h h') : Fr h₀ L h' m := by
  obtain ⟨o, a1, a2, hL, a3⟩ := F.ns
  exact ⟨⟨o, a1, a2, k _ _ hL, a3⟩, fun b o e => k _ _ (F.keep b o e), F.above⟩
theorem News.onto {h₀ h h' : Heap} {L : Addr} {news : List (Addr × Obj)} (N : News h₀ L h news) (k : Kept h h') : News h₀ L h' news :=
  fun p hp => ⟨k _ _ (N p hp).1, (N p hp).2⟩

/-- an object made by a call -/
def Made (h h' : Heap) (a : Addr) (o : Obj) : Prop := h'.get? a = some o ∧ h.get? a = none
theorem News.add {h₀ h h' : Heap} {L a : Addr} {m : Str → Option Value} {news : List (Addr × Obj)} {o : Obj} (F : Fr h₀ L h m) (N : News h₀ L h' news) (M : Made h h' a o) : News h₀ L h' ((a, o) :: news) := by
  intro p hp
  rcases List.mem_cons.mp hp with rfl | hp
  · obtain ⟨oL, _, _, hL, _⟩ := F.ns
    refine ⟨M.1, fun e => ?_, ?_⟩
    · have e' : a = L := e
      rw [← e', M.2] at hL; cases hL
    · cases q : h₀.get? a with
      | none => rfl
      | some o' => have := F.keep _ _ q; rw [M.2] at this; cases this
  · exact N p hp
theorem News.made {h₀ h : Heap} {L a : Addr} {o : Obj} {news : List (Addr × Obj)} (N : News h₀ L h news) (hm : (a, o) ∈ news) : Made h₀ h a o := ⟨N.get hm, N.fresh hm⟩

theorem Con.use {w : World} {mean : ExcName → Option Value} {mg mb : Str → Option Value} {f : Addr} {D U : Nat} {args : List Value} {pre : Heap → Prop} {post : Heap → Value → Heap → Prop} (C : Con w mean mg mb f D U args pre post)
    {A : Around} {cn : Str} {cs : Scope} {a : Addr} {ccd : Value} {cl : List (Str × Addr)} {outer : List Env} {A₀ : Around} {base h₀ : Heap} {L : Addr} {m : Str → Option Value} {s : Shared} {news : List (Addr × Obj)} {Q E : Value → Shared → Prop}
    (B : Below A₀ base outer h₀) (F : Fr h₀ L s.heap m) (X : (Mine.hd.heap_39 w.params).In h₀) (N : News h₀ L s.heap news) (T : Top Mine.hd.view_39 (looseW Mine.hd.view_39 []) mean mg mb h₀)
    (hd : A.depth ≤ D) (hu : A.units ≤ U) (hh : A.handled = none) (hA : A.frames = some (envX cn cs L a ccd cl :: outer)) (hk : cs.kind = .function) (hp : pre s.heap)
    (ret : ∀ v h' tk', Fr h₀ L h' m → News h₀ L h' news → Kept s.heap h' → post s.heap v h' → Q v { s with heap := h', toks := tk' }) :
    wpAny (model Challenge.rw_dh5006_01.row.prog w) A (call (.ref f) args) Q E s :=
  ktr_mono hd hu hh hA (C cn cs a ccd cl outer A₀ base h₀ L m s Q E B F X T hk hp fun v h' tk' k po => ret v h' tk' (Mine.Fr.onto F k) (Mine.News.onto N k) k po)

end Mine
end

section
open PySem PySem.W PyProof.Rows PySem.Calls
namespace Mine
theorem wp_peekD {α : Type} {K : Frag} {M : Model} {A : Around} {E : Value → Shared → Prop} {Q : α → Shared → Prop} {s : Shared} {o : Obj} {r : Addr → α} (X : K.In s.heap)
    (q : Q (r s.heap.objs.size) { s with heap := s.heap.push o }) :
    ∀ (t : Sem α) (g : Addr → Option α), peek1 K ⟨M.prog, M.w.params⟩ t = some (o, g) → (∀ D, g D = some (r D)) → wpAny M A t Q E s := by
  intro t
  induction t with
  | rule _ k ih => intro g e hg Γ p hΓ; exact ih () g e hg Γ p hΓ
  | point _ k ih => intro g e hg Γ p hΓ; exact ih () g e hg Γ p hΓ
  | ask k ih => intro g e hg Γ p hΓ; exact ih _ g e hg Γ p hΓ
  | load a _ k ih =>
    intro g e hg Γ p hΓ
    simp only [peek1] at e
    cases ha : K.lookup a with
    | none => rw [ha] at e; cases e
    | some ob => rw [ha] at e; exact ⟨ob, X _ _ ha, ih ob g e hg Γ p hΓ⟩
  | alloc ob k _ =>
    intro g e hg
    have e : some (ob, fun D => peek K ⟨M.prog, M.w.params⟩ (k D)) = some (o, g) := e
    obtain ⟨e1, e2⟩ := Prod.mk.inj (Option.some.inj e)
    subst e1 e2
    have X' : K.In (s.heap.push ob) := X.keeps fun b x hb => Heap.get?_push_of_some _ hb
    show wpAny M A (alloc ob >>= k) Q E s
    refine wpAny_bind (wpAny_alloc ?_)
    exact (Looks.of_peek (M := M) (h := s.heap.push ob) X' (hg s.heap.objs.size)).here (s := { s with heap := s.heap.push ob }) q
  | _ => intro g e; cases e

section
variable {prog : Program} {w : World} {A₀ A : Around} {s : Shared} {base h₀ : Heap} {outer : List Env} {L : Addr} {m : Str → Option Value} {env : Env} {K : Frag} {p : Program} {loose : List Str} {mean : ExcName → Option Value} {mg mb : Str → Option Value}
  {R : Result → Shared → Prop} {name qual : Str} {params : Arguments} {body : List Stmt} {scope : Scope} {dV kV doc pm cdv ct oc : Value} {an od : Option Addr} {osl : Array (Option Value)} {f : Addr} {args : Args}

/-- a def that takes a rest -/
theorem con_rest {vs : List Value} {g₁ : Addr → Option (List (Str × Value))} {binds : Addr → List (Str × Value)} (B : Below A₀ base outer h₀) (F : Fr h₀ L s.heap m) (X₀ : K.In h₀) (T : Top p loose mean mg mb h₀) (hA : A.frames = some (env :: outer)) (hf : env.frame = some L) (hke : env.scope.kind = .function)
    (ho : K.lookup f = some ⟨oc, od, .func (fnOf name qual params body scope dV kV doc pm an cdv ct), osl⟩) (hcd : codeIn K cdv qual = true) (hroom : A.depth < recursionLimit)
    (hp : peek1 K ⟨prog, w.params⟩ (bindArgs (fnOf name qual params body scope dV kV doc pm an cdv ct) args) = some (({ cls := .type "tuple", data := .seq vs.toArray } : Obj), g₁))
    (hg : ∀ D, g₁ D = some (binds D)) (hloc : ∀ D, ∀ y ∈ binds D, scope.names.lookup y.1 = some .local)
    (h : ∀ D L' h₁, Fr s.heap L' h₁ (fun y => (binds D).reverse.lookup y) → News s.heap L' h₁ [(D, ({ cls := .type "tuple", data := .seq vs.toArray } : Obj))] → Below A base (env :: outer) s.heap → K.In s.heap → Top p loose mean mg mb s.heap →
      wpAny (model prog w) (A.deeper (envOf qual scope L' f cdv)) (execs body (envOf qual scope L' f cdv))
        (fun fl s' => R (.ok (.ret (match fl with | .ret v => v | _ => .none))) s')
        (fun e s' => wpAny (model prog w) (A.deeper (envOf qual scope L' f cdv)) (leaving (envOf qual scope L' f cdv) e) (fun _ s'' => R (.error e) s'') (fun e' s'' => R (.error e') s'') s')
        { s with heap := h₁, toks := s.toks + (binds D).length })
    (hco : scope.isCoroutine = false) (hgen : scope.isGenerator = false) (hk : scope.kind = .function)
    (hcell : ∀ x ∈ scope.names, x.2 ≠ .cell) : codeAny (model prog w) A (.call (.ref f) args) R s := by
  have P := pushX B F hf hke
  have X := X₀.keeps F.keep
  refine codeAny_call_function (fd := fnOf name qual params body scope dV kV doc pm an cdv ct) (body := body) hroom (X _ _ ho) rfl hco hgen rfl (codeRec_of X hcd) ?_
  refine wp_peekD (o := ({ cls := .type "tuple", data := .seq vs.toArray } : Obj)) (r := binds) X ?_ _ g₁ hp hg
  have hk0 : ∀ b o, s.heap.get? b = some o → (s.heap.push ({ cls := .type "tuple", data := .seq vs.toArray } : Obj)).get? b = some o := fun b o e => Heap.get?_push_of_some _ e
  refine wpAny_newFunctionEnv hcell (hloc _) (fun h₁ hns hsb => ⟨((T.nolimit.keeps F.keep).keeps hk0).fresh _ hsb, codeAny_func ?_⟩) hk
  have hk₁ : ∀ b o, (s.heap.push ({ cls := .type "tuple", data := .seq vs.toArray } : Obj)).get? b = some o → h₁.get? b = some o := fun b o e => hsb.extBut b o (Nat.ne_of_lt (Heap.lt_size e)) (Heap.get?_push_of_some _ e)
  have hsz : (s.heap.push ({ cls := .type "tuple", data := .seq vs.toArray } : Obj)).objs.size = s.heap.objs.size + 1 := Heap.size_push _ _
  refine h s.heap.objs.size _ h₁ ⟨hns, fun b o e => hk₁ b o (hk0 b o e), by show s.heap.objs.size ≤ (s.heap.push _).objs.size; rw [hsz]; omega⟩ ?_ ⟨hA, P.stays, P.frames⟩ X (T.keeps F.keep)
  intro q hq
  obtain rfl := List.mem_singleton.mp hq
  refine ⟨hk₁ _ _ (Heap.get?_push_size _ rfl), ?_, ?_⟩
  · show s.heap.objs.size ≠ (s.heap.push _).objs.size
    rw [hsz]; omega
  · show s.heap.get? s.heap.objs.size = none
    cases q : s.heap.get? s.heap.objs.size with
    | none => rfl
    | some o' => exact absurd (Heap.lt_size q) (Nat.lt_irrefl _)
end
end Mine
end

section
open PySem PySem.W PyProof.Rows PySem.Calls
namespace Mine

theorem args_isn (a b c : Value) : argsOk "issubclass.nested" ⟨[a, b, c], []⟩ := by unfold argsOk; kernel_rfl
theorem kind_isn : builtinKind "issubclass.nested" = none := by decide +kernel
theorem plain_isn : plainId "issubclass.nested" = true := by decide +kernel
theorem sub_str_str : isSubtype (.type "str") (.type "str") = pure true := by rw [isSubtype_type]; kernel_rfl
theorem sub_bytes_str : isSubtype (.type "bytes") (.type "str") = pure false := by rw [isSubtype_type]; kernel_rfl
theorem sub_bytes_bytes : isSubtype (.type "bytes") (.type "bytes") = pure true := by rw [isSubtype_type]; kernel_rfl

theorem isn_plain {X c : String} {b : Bool} (hm : typeOf (.type c) = pure (.type "type")) (hs : isSubtype (.type X) (.type c) = pure b) (dep : Int) (tk : Tok) :
    Meets (Builtin.«issubclass.nested» ⟨[.type X, .type c, .int dep tk], []⟩) (fun _ R s => R (.ok (.ret (.bool b))) s) := by
  intro prog w A R s hq
  unfold Builtin.«issubclass.nested»
  iterate 30 (try (first | assumption | (rw [hm]) | (rw [hs]) | wp_step | (k_delta "plainIsSubclass")))

theorem isn_items {prog : Program} {w : World} {A : Around} {E : Value → Shared → Prop} {X : String} {dep : Int} (hm : ∀ c ∈ ["str", "bytes"], typeOf (.type c) = pure (.type "type")) :
    ∀ (cs : List (String × Bool)) (s : Shared) (Q : Option Fin × Unit → Shared → Prop),
    (∀ p ∈ cs, p.1 ∈ ["str", "bytes"] ∧ isSubtype (.type X) (.type p.1) = pure p.2) → (∀ tk, Q (if cs.any (·.2) then some (.done (.ret (.bool true))) else none, ()) { s with toks := tk }) →
    wpAny (model prog w) A (forIn (cs.map fun p => Value.type p.1) ((none : Option Fin), ()) fun c _ => do
      if ← truthy (← call (.builtin "issubclass.nested") [.type X, c, rawInt (dep + 1)]) then
        let r ← ret (.bool true)
        pure (ForInStep.done (some r, ()))
      else pure (ForInStep.yield (none, ()))) Q E s
  | [], s, Q, _, h => wpAny_pure (h s.toks)
  | (c, b) :: cs, s, Q, hc, h => by
    rw [List.map_cons, List.forIn_cons]
    have h1 := hc (c, b) (.head _)
    refine wpAny_bind (wpAny_bind (call_function_meets kind_isn plain_isn F.entry_issubclass_nested (args_isn _ _ _) (isn_plain (hm _ h1.1) h1.2 _ _) ?_))
    cases b with
    | true =>
      show wpAny _ _ (truthy (.bool true) >>= _) _ _ _
      refine wpAny_bind (m := truthy (.bool true)) (wpAny_pure ?_)
      exact wpAny_bind (wpAny_pure (wpAny_pure (wpAny_pure (h s.toks))))
    | false =>
      show wpAny _ _ (truthy (.bool false) >>= _) _ _ _
      refine wpAny_bind (m := truthy (.bool false)) (wpAny_pure ?_)
      exact wpAny_pure (isn_items hm cs s Q (fun p hp => hc p (.tail _ hp)) fun tk => h tk)

theorem isn_tuple {X : String} (cs : List (String × Bool)) {tp : Addr} {dd : Option Addr} {n : Nat} {sl : Array (Option Value)}
    (hm : ∀ c ∈ ["str", "bytes"], typeOf (.type c) = pure (.type "type")) (hc : ∀ p ∈ cs, p.1 ∈ ["str", "bytes"] ∧ isSubtype (.type X) (.type p.1) = pure p.2) (tk : Tok) :
    Meets (Builtin.«issubclass.nested» ⟨[.type X, .ref tp, .int 0 tk], []⟩)
      (fun _ R s => s.heap.get? tp = some ⟨.type "tuple", dd, .seq (cs.map fun p => Value.type p.1).toArray n, sl⟩ ∧ ∀ tk', R (.ok (.ret (.bool (cs.any (·.2))))) { s with toks := tk' }) := by
  intro prog w A R s hs
  obtain ⟨h, g, d, tt, os⟩ := s
  obtain ⟨htp, hq⟩ := hs
  have hT2 : (⟨h, g, d, tt, os⟩ : Shared).TypeIs (.ref tp) "tuple" := ⟨_, htp, rfl⟩
  have f1 := F.isi_sub_tuple
  unfold Builtin.«issubclass.nested»
  repeat (any_goals (first | assumption | wp_step))
  refine wpAny_arrayLoop ?_
  simp only [Option.getD_some, List.toList_toArray]
  refine isn_items (dep := 0) hm cs _ _ hc fun tk' => ?_
  generalize cs.any (·.2) = bb at hq ⊢
  cases bb with
  | true =>
    simp only [if_true]
    repeat (any_goals (first | assumption | wp_step))
    exact hq tk'
  | false =>
    simp only [Bool.false_eq_true, if_false]
    repeat (any_goals (first | assumption | wp_step))
    exact hq tk'

theorem isn_outer {prog : Program} {w : World} {A : Around} {s : Shared} {x c : Value} {R : Result → Shared → Prop}
    (h : ∀ tk, wpAny (model prog w) A.in1 (Builtin.«issubclass.nested» ⟨[x, c, .int 0 tk], []⟩)
      (fun fin s' => match fin with | .done f => R (.ok f) s' | .again c' => c'.quiet = true ∧ codeAny (model prog w) A c' R s') (fun e s' => R (.error e) s') s) :
    wpAny (model prog w) A.in1 (Builtin.«issubclass» ⟨[x, c], []⟩)
      (fun fin s' => match fin with | .done f => R (.ok f) s' | .again c' => c'.quiet = true ∧ codeAny (model prog w) A c' R s') (fun e s' => R (.error e) s') s := issubclass_outer (h _)

theorem mt_sb : ∀ c ∈ ["str", "bytes"], typeOf (.type c) = pure (.type "type") := by
  intro c hc
  rcases List.mem_cons.mp hc with rfl | hc
  · exact kitMeta_of (by kernel_rfl)
  rcases List.mem_cons.mp hc with rfl | hc
  · exact kitMeta_of (by kernel_rfl)
  · cases hc

theorem issub_str {prog : Program} {w : World} {A : Around} {E : Value → Shared → Prop} {s : Shared} {Q : Value → Shared → Prop} {h₀ : Heap} {L : Addr} {news : List (Addr × Obj)} {tp : Addr} {dd : Option Addr} {n : Nat} {sl : Array (Option Value)} (N : News h₀ L s.heap news)
    (hm : (tp, (⟨.type "tuple", dd, .seq [Value.type "str", .type "bytes"].toArray n, sl⟩ : Obj)) ∈ news) (h : ∀ tk, Q (.bool true) { s with toks := tk }) : wpAny (model prog w) A (call (.builtin "issubclass") [.type "str", .ref tp]) Q E s :=
  call_issubclass (S := fun _ R s => (s.heap.get? tp = some ⟨.type "tuple", dd, .seq [Value.type "str", .type "bytes"].toArray n, sl⟩) ∧ ∀ tk, R (.ok (.ret (.bool true))) { s with toks := tk })
    (fun prog w A R s hs => isn_outer fun tk => isn_tuple [("str", true), ("bytes", false)] mt_sb (by
      intro p hp
      rcases List.mem_cons.mp hp with rfl | hp
      · exact ⟨by decide, sub_str_str⟩
      rcases List.mem_cons.mp hp with rfl | hp
      · exact ⟨by decide, by rw [isSubtype_type]; kernel_rfl⟩
      · cases hp) tk prog w A R s hs) ⟨N.get hm, h⟩
theorem issub_bytes {prog : Program} {w : World} {A : Around} {E : Value → Shared → Prop} {s : Shared} {Q : Value → Shared → Prop} {h₀ : Heap} {L : Addr} {news : List (Addr × Obj)} {tp : Addr} {dd : Option Addr} {n : Nat} {sl : Array (Option Value)} (N : News h₀ L s.heap news)
    (hm : (tp, (⟨.type "tuple", dd, .seq [Value.type "str", .type "bytes"].toArray n, sl⟩ : Obj)) ∈ news) (h : ∀ tk, Q (.bool true) { s with toks := tk }) : wpAny (model prog w) A (call (.builtin "issubclass") [.type "bytes", .ref tp]) Q E s :=
  call_issubclass (S := fun _ R s => (s.heap.get? tp = some ⟨.type "tuple", dd, .seq [Value.type "str", .type "bytes"].toArray n, sl⟩) ∧ ∀ tk, R (.ok (.ret (.bool true))) { s with toks := tk })
    (fun prog w A R s hs => isn_outer fun tk => isn_tuple [("str", false), ("bytes", true)] mt_sb (by
      intro p hp
      rcases List.mem_cons.mp hp with rfl | hp
      · exact ⟨by decide, sub_bytes_str⟩
      rcases List.mem_cons.mp hp with rfl | hp
      · exact ⟨by decide, sub_bytes_bytes⟩
      · cases hp) tk prog w A R s hs) ⟨N.get hm, h⟩
end Mine
end

section
open PySem PySem.W PyProof.Rows PySem.Calls
namespace Mine

/-- a mark at which the walk rests -/
def Stop (P : Prop) : Prop := P
theorem stopped {P : Prop} (h : Stop P) : P := h

section
variable {prog : Program} {w : World} {A : Around} {E : Value → Shared → Prop} {s : Shared} {env : Env} {h₀ : Heap} {x : Str} {body : List Stmt} {Q : Flow → Shared → Prop} {σ : Type}

/-- what holds between the turns -/
def Keep (l : Addr) (o : Obj) (x : Str) (m₀ : Str → Option Value) (Led : σ → List (Addr × Obj)) (cst : List (Addr × Obj)) (P : Nat → σ → Prop) (i : Nat) (m : Str → Option Value) (nx : List (Addr × Obj)) : Prop :=
  (l, o) ∈ nx ∧ ∃ c, nx = Led c ++ cst ∧ (∀ z, z ≠ x → m z = m₀ z) ∧ P i c

theorem Fr.cong {h₀ h : Heap} {L : Addr} {m m' : Str → Option Value} (F : Fr h₀ L h m) (e : ∀ z, m z = m' z) : Fr h₀ L h m' := by
  have : m = m' := funext e
  exact this ▸ F

theorem loop_news {l : Addr} {vs : List Value} {nn : Nat} {m₀ : Str → Option Value} {cst : List (Addr × Obj)} (Led : σ → List (Addr × Obj)) (adr : List Addr) (P : Nat → σ → Prop) (c₀ : σ)
    (hh : A.handled = none) (hl : (l, listOf vs.toArray nn) ∈ cst) (F : Fr h₀ env.locals s.heap m₀) (N : News h₀ env.locals s.heap (Led c₀ ++ cst)) (hadr : ∀ c, (Led c).map (·.1) = adr) (hP : P 0 c₀)
    (turn : ∀ i v c h tk own, vs[i]? = some v → P i c → OwnOff own (adr ++ cst.map (·.1)) → Fr h₀ env.locals h (fun y => if y = x then some v else m₀ y) → News h₀ env.locals h (Led c ++ (cst ++ own)) →
      wpAny (model prog w) A (execs body env) (fun f s₂ => Stop (InvPostG h₀ env.locals (fun m' nx => Keep l (listOf vs.toArray nn) x m₀ Led cst P (i + 1) m' nx) own { s with heap := h, toks := tk } Q f s₂)) E { s with heap := h, toks := tk })
    (done : ∀ c h tk u, P vs.length c → Fr h₀ env.locals h (fun y => if y = x then u else m₀ y) → News h₀ env.locals h (Led c ++ cst) → Q .next { s with heap := h, toks := tk }) :
    wpAny (model prog w) A (pyIter (.ref l)) (fun it s₂ => LoopAtV prog w A h₀ env x body Q E it s₂) E s := by
  refine kdl_iter (news := Led c₀ ++ cst) (fun i m nx => ∃ c, nx = Led c ++ cst ∧ (∀ z, z ≠ x → m z = m₀ z) ∧ P i c) hh (List.mem_append_right _ hl) F N ⟨c₀, rfl, fun _ _ => rfl, hP⟩ ?_ ?_
  · rintro i v m₁ nx h tk own hv hoff hm ⟨c, rfl, hz, hp⟩ F₁ N₁
    have e : (Led c ++ cst).map (·.1) = adr ++ cst.map (·.1) := by rw [List.map_append, hadr]
    rw [e] at hoff
    refine turn i v c h tk own hv hp hoff (Mine.Fr.cong F₁ fun z => ?_) (by rw [← List.append_assoc]; exact N₁)
    by_cases hzx : z = x
    · simp [hzx]
    · simp only [if_neg hzx]; exact hz z hzx
  · rintro m₁ nx h tk ⟨c, rfl, hz, hp⟩ F₁ N₁
    refine done c h tk (m₁ x) hp (Mine.Fr.cong F₁ fun z => ?_) N₁
    by_cases hzx : z = x
    · simp [hzx]
    · simp only [if_neg hzx]; exact hz z hzx

theorem turn_end {l : Addr} {o : Obj} {m₀ m' : Str → Option Value} {cst own news' : List (Addr × Obj)} {Led : σ → List (Addr × Obj)} {adr : List Addr} {P : Nat → σ → Prop} {i : Nat} {h' : Heap} {tk : Nat} {s₁ : Shared} (c : σ)
    (F : Fr h₀ env.locals h' m') (N : News h₀ env.locals h' news') (hl : (l, o) ∈ cst) (hadr : ∀ c, (Led c).map (·.1) = adr) (hoff : OwnOff own (adr ++ cst.map (·.1))) (hs : ∀ p ∈ Led c ++ (cst ++ own), p ∈ news') (hz : ∀ z, z ≠ x → m' z = m₀ z) (hp : P i c) :
    InvEndG h₀ env.locals (fun m' nx => Keep l o x m₀ Led cst P i m' nx) own s₁ { s₁ with heap := h', toks := tk } := by
  refine InvEndG.intro F N ⟨List.mem_append_right _ hl, c, rfl, hz, hp⟩ (by rw [List.map_append, hadr]; exact hoff) (fun p hp => hs p ?_) (fun p hp => hs p ?_)
  · rcases List.mem_append.mp hp with h | h
    · exact List.mem_append_left _ h
    · exact List.mem_append_right _ (List.mem_append_left _ h)
  · exact List.mem_append_right _ (List.mem_append_right _ hp)
end

section
variable {prog : Program} {w : World} {M : Model} {A : Around} {E : Value → Shared → Prop} {s : Shared} {h₀ : Heap} {L D : Addr} {m : Str → Option Value} {news rest : List (Addr × Obj)} {us : List Value} {y : Value} {n : Nat}

theorem truthy_nil {Q : Bool → Shared → Prop} (N : News h₀ L s.heap news) (hm : (D, listOf ([] : List Value).toArray n) ∈ news) (h : ∀ tk, Q false { s with toks := tk }) : wpAny (model prog w) A (truthy (.ref D)) Q E s :=
  wpAny_truthy_list (items := ([] : List Value).toArray) ⟨_, (N _ hm).1, rfl, _, rfl⟩ (by decide) (h _)
theorem truthy_snoc {Q : Bool → Shared → Prop} (N : News h₀ L s.heap news) (hm : (D, listOf (us ++ [y]).toArray n) ∈ news) (hz : us.length ≤ 16777215) (h : ∀ tk, Q true { s with toks := tk }) : wpAny (model prog w) A (truthy (.ref D)) Q E s :=
  wpAny_truthy_list (items := (us ++ [y]).toArray) ⟨_, (N _ hm).1, rfl, _, rfl⟩ (by simp; omega) (by rw [show (!(us ++ [y]).toArray.isEmpty) = true by simp]; exact h _)
theorem last_item {value slice : PySem.Expr} {u : Tok} {Q : Value → Shared → Prop} (N : News h₀ L s.heap news) (hm : (D, listOf (us ++ [y]).toArray n) ∈ news) (h : Q y s)
    (hs : subscripted slice false (.ref D) (.int (-1) u) = operate [.ref D, .int (-1) u] (getItem (.ref D) (.int (-1) u)) := by with_unfolding_all rfl) :
    wpAny (model prog w) A (subscriptTail value slice (.ref D) (.int (-1) u)) Q E s := by
  have hl : s.heap.IsList D (us ++ [y]).toArray := ⟨_, (N _ hm).1, rfl, _, rfl⟩
  refine tail_any hl.typeIs slot_list_getitem.lookup (wpAny_getItem_list_neg hl (by decide) (by simp; omega) (by decide) ?_ h) hs
  simp only [List.size_toArray, List.length_append, List.length_cons, List.length_nil]
  have e : (-1 + ((us.length + (0 + 1) : Nat) : Int)).toNat = us.length := by omega
  rw [e]; simp
theorem append_led {x : Value} {Q : Value → Shared → Prop} (F : Fr h₀ L s.heap m) (N : News h₀ L s.heap ((D, listOf us.toArray n) :: rest)) (hne : ∀ p ∈ rest, p.1 ≠ D) (hz : us.length ≤ 1000000)
    (h : ∀ h', Fr h₀ L h' m → News h₀ L h' ((D, listOf (us ++ [x]).toArray (n + 1)) :: rest) → Q .none { s with heap := h' }) : wpAny (model prog w) A (call (.builtin "list.append") [.ref D, x]) Q E s :=
  append_K F N (.head hne) (fun h' F' N' => h h' F' (by simpa using N')) (by rw [List.size_toArray, sizeLine_eq]; omega)
theorem pop_led {Q : Value → Shared → Prop} (F : Fr h₀ L s.heap m) (N : News h₀ L s.heap ((D, listOf (us ++ [y]).toArray n) :: rest)) (hne : ∀ p ∈ rest, p.1 ≠ D) (hz : us.length ≤ 1000000)
    (h : ∀ h', Fr h₀ L h' m → News h₀ L h' ((D, listOf us.toArray (n + 1)) :: rest) → Q y { s with heap := h' }) : wpAny (model prog w) A (call (.builtin "list.pop") [.ref D]) Q E s :=
  kl_pop F N (p := us) (y := y) (by rw [List.toList_toArray]; exact kpa_last y us) (.head hne) (by simp [sizeLine_eq]; omega) h
end

theorem ne_off {NC : Addr} {own cst : List (Addr × Obj)} (hoff : OwnOff own ([NC] ++ cst.map (·.1))) (h1 : ∀ q ∈ cst, q.1 ≠ NC) : ∀ q ∈ cst ++ own, q.1 ≠ NC := by
  intro q hq
  rcases List.mem_append.mp hq with hq | hq
  · exact h1 q hq
  · exact hoff q hq NC (List.Mem.head _)
theorem strsAre_snoc {vs : List Value} {v : Value} {ys : List Str} (h : StrsAre (vs ++ [v]) ys) : ∃ zs y t, v = .str y t ∧ ys = zs ++ [y] ∧ StrsAre vs zs := by
  induction vs generalizing ys with
  | nil =>
    cases h with
    | cons y t h => cases h; exact ⟨[], y, t, rfl, rfl, .nil⟩
  | cons u vs ih =>
    cases h with
    | cons y t h =>
      obtain ⟨zs, y', t', h1, h2, h3⟩ := ih h
      exact ⟨y :: zs, y', t', h1, by rw [h2]; rfl, .cons y t h3⟩
theorem strsAre_add {vs : List Value} {ys : List Str} (h : StrsAre vs ys) (y : Str) (t : Tok) : StrsAre (vs ++ [.str y t]) (ys ++ [y]) := StrsAre.append' h (.cons y t .nil)

theorem join_len {sep : Str} {ys : List Str} (hs : sep.length ≤ 1) (hB : ∀ y ∈ ys, y.length ≤ 1000) (hn : ys.length ≤ 1002) : (ys.map (·.length)).sum + ys.length * sep.length ≤ 1004000 := by
  have h1 := StrLaws.sumLen_le ys hB
  have h2 : ys.length * 1000 ≤ 1002 * 1000 := Nat.mul_le_mul_right _ hn
  have h3 : ys.length * sep.length ≤ ys.length * 1 := Nat.mul_le_mul_left _ hs
  omega
theorem join_led {prog : Program} {w : World} {A : Around} {E : Value → Shared → Prop} {s : Shared} {h₀ : Heap} {L D : Addr} {news : List (Addr × Obj)} {us : List Value} {n : Nat} {x : Str} {t : Tok} {ys : List Str} {Q : Value → Shared → Prop}
    (N : News h₀ L s.heap news) (hm : (D, listOf us.toArray n) ∈ news) (hi : StrsAre us ys) (hs : x.length ≤ 1) (hB : ∀ y ∈ ys, y.length ≤ 1000) (hn : ys.length ≤ 1002)
    (h : ∀ t' k, (Txt.join x ys).length ≤ 1004000 → Q (.str (Txt.join x ys) t') { s with toks := k }) : wpAny (model prog w) A (call (.builtin "str.join") [.str x t, .ref D]) Q E s := by
  have h1 := join_len hs hB hn
  refine join_list (items := us.toArray) ⟨_, (N _ hm).1, rfl, _, rfl⟩ (by rw [List.toList_toArray]; exact hi) (by omega) fun t' k => h t' k ?_
  show (Builtin.Str.glued x ys).length ≤ _
  rw [StrLaws.glued_eq_join]
  exact Nat.le_trans (StrLaws.join_length_le x ys) h1
/-- one turn of normpath's loop, over texts -/
def stepS (r : Str) (acc : List Str) (c : Str) : List Str :=
  if c.length = 0 then acc else if (c == Str.ofString ".") = true then acc else if (c != Str.ofString "..") = true then acc ++ [c] else
  match acc.getLast? with
  | none => if r.length = 0 then [c] else []
  | some y => if (y == Str.ofString "..") = true then acc ++ [c] else acc.dropLast
theorem stepS_mem {r : Str} {acc : List Str} {c y : Str} (h : y ∈ stepS r acc c) : y ∈ acc ∨ y = c := by
  unfold stepS at h
  repeat' split at h
  all_goals first
    | exact .inl h
    | (rcases List.mem_append.mp h with h | h; exact .inl h; exact .inr (List.mem_singleton.mp h))
    | exact .inr (List.mem_singleton.mp h)
    | exact .inl (List.dropLast_subset _ h)
    | cases h
theorem foldS_mem {r : Str} {y : Str} : ∀ (l acc : List Str), y ∈ l.foldl (stepS r) acc → y ∈ acc ∨ y ∈ l
  | [], _, h => .inl h
  | c :: l, acc, h => by
    rcases foldS_mem l _ h with h | h
    · rcases stepS_mem h with h | h
      · exact .inl h
      · exact .inr (h ▸ .head _)
    · exact .inr (.tail _ h)
theorem stepS_len (r : Str) (acc : List Str) (c : Str) : (stepS r acc c).length ≤ acc.length + 1 := by
  unfold stepS
  repeat' split
  all_goals simp
  all_goals omega
theorem foldS_len (r : Str) : ∀ (l acc : List Str), (l.foldl (stepS r) acc).length ≤ acc.length + l.length
  | [], _ => Nat.le_refl _
  | c :: l, acc => by
    have h1 := foldS_len r l (stepS r acc c)
    have h2 := stepS_len r acc c
    rw [List.foldl_cons, List.length_cons]; omega

section
variable {r c y : Str} {acc zs : List Str}
theorem step0 (h : (c.length : Int) = 0) : stepS r acc c = acc := by unfold stepS; rw [if_pos (by omega)]
theorem step1 (h0 : (c.length : Int) ≠ 0) (h : (c == Str.ofString ".") = true) : stepS r acc c = acc := by unfold stepS; rw [if_neg (by omega), if_pos h]
theorem step2 (h0 : (c.length : Int) ≠ 0) (h1 : (c == Str.ofString ".") = false) (h : (c != Str.ofString "..") = true) : stepS r acc c = acc ++ [c] := by
  unfold stepS; rw [if_neg (by omega), if_neg (by rw [h1]; decide), if_pos h]
theorem step3 (h0 : (c.length : Int) ≠ 0) (h1 : (c == Str.ofString ".") = false) (h2 : (c != Str.ofString "..") = false) (h : (r.length : Int) = 0) : stepS r [] c = [c] := by
  unfold stepS; rw [if_neg (by omega), if_neg (by rw [h1]; decide), if_neg (by rw [h2]; decide)]; show (if _ then _ else _) = _; rw [if_pos (by omega)]
theorem step4 (h0 : (c.length : Int) ≠ 0) (h1 : (c == Str.ofString ".") = false) (h2 : (c != Str.ofString "..") = false) (h : (r.length : Int) ≠ 0) : stepS r [] c = [] := by
  unfold stepS; rw [if_neg (by omega), if_neg (by rw [h1]; decide), if_neg (by rw [h2]; decide)]; show (if _ then _ else _) = _; rw [if_neg (by omega)]
theorem step5 (h0 : (c.length : Int) ≠ 0) (h1 : (c == Str.ofString ".") = false) (h2 : (c != Str.ofString "..") = false) (h : (y == Str.ofString "..") = true) : stepS r (zs ++ [y]) c = zs ++ [y] ++ [c] := by
  unfold stepS; rw [if_neg (by omega), if_neg (by rw [h1]; decide), if_neg (by rw [h2]; decide), List.getLast?_append]; show (if (y == Str.ofString "..") = true then _ else _) = _; rw [if_pos h]
theorem step6 (h0 : (c.length : Int) ≠ 0) (h1 : (c == Str.ofString ".") = false) (h2 : (c != Str.ofString "..") = false) (h : (y == Str.ofString "..") = false) : stepS r (zs ++ [y]) c = zs := by
  unfold stepS; rw [if_neg (by omega), if_neg (by rw [h1]; decide), if_neg (by rw [h2]; decide), List.getLast?_append]; show (if (y == Str.ofString "..") = true then _ else _) = _; rw [if_neg (by rw [h]; decide)]; simp
theorem fin0 {us : List Value} (h : StrsAre us acc) (h1 : (c.length : Int) = 0) : StrsAre us (stepS r acc c) := by rw [step0 h1]; exact h
theorem fin1 {us : List Value} (h : StrsAre us acc) (h0 : (c.length : Int) ≠ 0) (h1 : (c == Str.ofString ".") = true) : StrsAre us (stepS r acc c) := by rw [step1 h0 h1]; exact h
theorem fin2 {us : List Value} {t : Tok} (h : StrsAre us acc) (h0 : (c.length : Int) ≠ 0) (h1 : (c == Str.ofString ".") = false) (h2 : (c != Str.ofString "..") = true) : StrsAre (us ++ [.str c t]) (stepS r acc c) := by
  rw [step2 h0 h1 h2]; exact strsAre_add h c t
theorem fin3 {t : Tok} (h0 : (c.length : Int) ≠ 0) (h1 : (c == Str.ofString ".") = false) (h2 : (c != Str.ofString "..") = false) (h : (r.length : Int) = 0) : StrsAre [.str c t] (stepS r [] c) := by
  rw [step3 h0 h1 h2 h]; exact .cons c t .nil
theorem fin4 (h0 : (c.length : Int) ≠ 0) (h1 : (c == Str.ofString ".") = false) (h2 : (c != Str.ofString "..") = false) (h : (r.length : Int) ≠ 0) : StrsAre [] (stepS r [] c) := by
  rw [step4 h0 h1 h2 h]; exact .nil
theorem fin5 {us : List Value} {t : Tok} (h3 : StrsAre us (zs ++ [y])) (h0 : (c.length : Int) ≠ 0) (h1 : (c == Str.ofString ".") = false) (h2 : (c != Str.ofString "..") = false) (h : (y == Str.ofString "..") = true) : StrsAre (us ++ [.str c t]) (stepS r (zs ++ [y]) c) := by
  rw [step5 h0 h1 h2 h]; exact strsAre_add h3 c t
theorem fin6 {us : List Value} (h3 : StrsAre us zs) (h0 : (c.length : Int) ≠ 0) (h1 : (c == Str.ofString ".") = false) (h2 : (c != Str.ofString "..") = false) (h : (y == Str.ofString "..") = false) : StrsAre us (stepS r (zs ++ [y]) c) := by
  rw [step6 h0 h1 h2 h]; exact h3
end
end Mine
end

section
open PySem PySem.W PyProof.Rows PySem.Calls
namespace Mine
open Builtin

theorem sub_bytes_tuple : isSubtype (.type "bytes") (.type "tuple") = pure false := by rw [isSubtype_type]; kernel_rfl

def swB (b c : Array UInt8) : Bool := if (b.size : Int) - 0 < c.size then false else b.extract 0 (0 + c.size) == c
def ewB (b c : Array UInt8) : Bool := if (b.size : Int) - 0 < c.size then false else b.extract (b.size - c.size) b.size == c

theorem window_none (n : Nat) : Bytes.window n none none = (0, (n : Int)) := by
  unfold Bytes.window
  dsimp only [Option.getD]
  rw [if_neg (by decide), if_neg (by omega), Int.min_self]
theorem meets_bsw (b c : Array UInt8) (t u : Tok) : Meets («bytes.startswith» ⟨[.bytes b t, .bytes c u], []⟩) (fun _ R s => R (.ok (.ret (.bool (swB b c)))) s) := by
  intro prog w A R s h
  have f1 := sub_bytes_tuple
  have hT : s.TypeIs (.bytes c u) "bytes" := rfl
  have f2 : ∀ id, Bytes.buffer? id (.bytes c u) = pure (some c) := fun id => KBy.buffer_eq
  unfold «bytes.startswith» Bytes.tailMatchM
  iterate 25 (try (first | assumption | rw [f2] | wp_step))
  rw [window_none]
  dsimp only [List.headD_cons]
  iterate 25 (try (first | assumption | rw [f2] | wp_step))
theorem meets_bew (b c : Array UInt8) (t u : Tok) : Meets («bytes.endswith» ⟨[.bytes b t, .bytes c u], []⟩) (fun _ R s => R (.ok (.ret (.bool (ewB b c)))) s) := by
  intro prog w A R s h
  have f1 := sub_bytes_tuple
  have hT : s.TypeIs (.bytes c u) "bytes" := rfl
  have f2 : ∀ id, Bytes.buffer? id (.bytes c u) = pure (some c) := fun id => KBy.buffer_eq
  unfold «bytes.endswith» Bytes.tailMatchM
  iterate 25 (try (first | assumption | rw [f2] | wp_step))
  rw [window_none]
  dsimp only [List.headD_cons]
  iterate 25 (try (first | assumption | rw [f2] | wp_step))
end Mine
end

section
open PySem PySem.W PyProof.Rows PySem.Calls
namespace Mine
open Builtin

def bytesValues (l : List (Array UInt8 × Tok)) : List Value := l.map fun p => .bytes p.1 p.2
def splitB (b c : Array UInt8) : List (Array UInt8) :=
  if ((Bytes.occurrences b c 0 b.size).take (b.size + 1)).isEmpty = true then [b] else Bytes.between b c.size ((Bytes.occurrences b c 0 b.size).take (b.size + 1))

theorem wp_mapB {M : Model} {A : Around} {E : Value → Shared → Prop} : ∀ (ps : List (Array UInt8)) (s : Shared) (Q : List Value → Shared → Prop), (∀ p ∈ ps, p.size ≤ sizeLine) →
    (∀ l tk, l.map (·.1) = ps → Q (bytesValues l) { s with toks := tk }) → wpAny M A (ps.mapM (Bytes.Kind.new .bytes)) Q E s
  | [], s, Q, _, h => wpAny_pure (h [] s.toks rfl)
  | p :: ps, s, Q, hz, h => by
    rw [List.mapM_cons]
    refine wpAny_bind ?_
    show wpAny M A (mkBytes p) _ E s
    refine wpAny_mkBytes ?_ (hz p (.head _))
    refine wpAny_bind (wp_mapB ps _ _ (fun q hq => hz q (.tail _ hq)) fun l tk hl => ?_)
    exact wpAny_pure (h ((p, s.toks) :: l) tk (by rw [List.map_cons, hl]))

theorem meets_bsplit (b c : Array UInt8) (t u : Tok) (hc : c.isEmpty = false) (hz : ∀ p ∈ splitB b c, p.size ≤ sizeLine) (hn : (splitB b c).length ≤ sizeLine) :
    Meets («bytes.split» ⟨[.bytes b t, .bytes c u], []⟩) (fun _ R s => ∀ l tk, l.map (·.1) = splitB b c → R (.ok (.ret (.ref s.heap.objs.size))) { s with heap := s.heap.push { cls := .type "list", data := .seq (bytesValues l).toArray }, toks := tk }) := by
  intro prog w A R s h
  have hT : s.TypeIs (.bytes b t) "bytes" := rfl
  have f2 : ∀ id, Bytes.buffer? id (.bytes c u) = pure (some c) := fun id => KBy.buffer_eq
  unfold «bytes.split» Bytes.splitM
  iterate 30 (try (first | assumption | rw [f2] | rw [if_neg (by rw [hc]; decide)] | wp_step))
  iterate 3 (try (first | assumption | wp_step))
  simp only [Bool.false_eq_true, if_false]
  rw [show (if (-1 : Int) < 0 then b.size + 1 else (-1 : Int).toNat) = b.size + 1 from if_pos (by decide)]
  unfold splitB at hz hn h
  by_cases hp : ((Bytes.occurrences b c 0 b.size).take (b.size + 1)).isEmpty = true
  · rw [if_pos hp] at hz hn h
    refine wpAny_ite ?_
    rw [if_pos hp]
    refine wpAny_bind (wpAny_rule ?_)
    refine wpAny_bind ?_
    show wpAny _ _ (typeOf (.bytes b t) >>= _) _ _ _
    refine wpAny_bind (wpAny_typeOf hT ?_)
    refine wpAny_ite ?_
    rw [if_pos (by decide)]
    refine wpAny_pure (wpAny_bind ?_)
    refine wpAny_newObj_type (wpAny_pure ?_) (by show 1 ≤ sizeLine; rw [sizeLine_eq]; decide)
    exact h [(b, t)] s.toks rfl
  · rw [if_neg hp] at hz hn h
    refine wpAny_ite ?_
    rw [if_neg hp]
    refine wpAny_bind (wp_mapB _ _ _ hz fun l tk hl => ?_)
    have hln : (bytesValues l).length ≤ sizeLine := by
      unfold bytesValues; rw [List.length_map, ← List.length_map (f := fun p => p.1), hl]; exact hn
    refine wpAny_bind ?_
    exact wpAny_newObj_type (wpAny_pure (h l tk hl)) (by show (bytesValues l).toArray.size ≤ sizeLine; rw [List.size_toArray]; exact hln)
end Mine
end

section
open PySem PySem.W PyProof.Rows PySem.Calls
namespace Mine
open Builtin
theorem buf_eq {b : Array UInt8} {t : Tok} {id : String} : Bytes.takeBufferQuiet? id (.bytes b t) 0 = pure (some (b, none)) := by
  have e : Bytes.takeBuffer? id (.bytes b t) 0 = pure (some (b, none)) := by
    unfold Bytes.takeBuffer?
    rw [KBy.special_eq KBy.look_buffer, KBy.own_buffer]
    have e2 : Bytes.buffer? id (.bytes b t) (full := (0 : Int) == Bytes.fullReadOnly) = pure (some b) := KBy.buffer_eq
    rw [e2]; rfl
  unfold Bytes.takeBufferQuiet?
  rw [e]; rfl
theorem wp_range {σ : Type} {M : Model} {A : Around} {E : Value → Shared → Prop} {s : Shared} (f : Nat → σ → Sem (ForInStep σ)) (P : Nat → σ → Prop) : ∀ (n i : Nat) (st : σ) (Q : σ → Shared → Prop), P i st →
    (∀ j st, j < i + n → P j st → ∀ Q' : ForInStep σ → Shared → Prop, (∀ st', P (j + 1) st' → Q' (.yield st') s) → wpAny M A (f j st) Q' E s) →
    (∀ st, P (i + n) st → Q st s) → wpAny M A (forIn (List.range' i n 1) st f) Q E s
  | 0, i, st, Q, hp, _, h => wpAny_pure (h st hp)
  | n + 1, i, st, Q, hp, hb, h => by
    rw [List.range'_succ, List.forIn_cons]
    refine wpAny_bind (hb i st (by omega) hp _ fun st' hp' => ?_)
    exact wp_range f P n (i + 1) st' Q hp' (fun j st hj => hb j st (by omega)) fun st hs => h st (by rw [show i + (n + 1) = i + 1 + n by omega]; exact hs)

def Plain (taken : List (Value × Option Value)) : Prop := ∀ p ∈ taken, ∃ b t, p = (Value.bytes b t, none)
theorem wp_letGo {M : Model} {A : Around} {E : Value → Shared → Prop} {s : Shared} : ∀ (taken : List (Value × Option Value)) (keep : List Value) (Q : Unit → Shared → Prop), Plain taken → Q () s → wpAny M A (Bytes.joinLetGo taken keep) Q E s
  | [], keep, Q, _, h => wpAny_pure h
  | p :: taken, keep, Q, hp, h => by
    obtain ⟨b, t, rfl⟩ := hp _ (.head _)
    unfold Bytes.joinLetGo
    dsimp only
    refine wpAny_bind (wpAny_letGo ?_)
    exact wp_letGo taken keep Q (fun q hq => hp q (.tail _ hq)) h
theorem plain_any {taken : List (Value × Option Value)} (h : Plain taken) : (taken.any fun x => x.fst.onHeap) = false := by
  rw [List.any_eq_false]
  intro p hp
  obtain ⟨b, t, rfl⟩ := h p hp
  exact Bool.false_ne_true
theorem joined_one (sep b : Array UInt8) : Bytes.joined sep [b] = b := by
  unfold Bytes.joined; simp [List.zipIdx]
def JoinFits (sep : Array UInt8) (ps : List (Array UInt8)) : Prop := Bytes.tooLong (ps.toArray.foldl (fun x1 x2 => x1 + x2.size) (sep.size * (ps.toArray.size - 1))) = false ∧ (Bytes.joined sep ps).size ≤ sizeLine
theorem jm_one {α : Type} (x : Value) (h1 : Value → α) (h2 : Array Value → α) : Bytes.joinM.match_1 (fun _ => α) #[x] h1 h2 = h1 x := rfl
theorem jm_ne {α : Type} (its : Array Value) (h1 : Value → α) (h2 : Array Value → α) (h : its.size ≠ 1) : Bytes.joinM.match_1 (fun _ => α) its h1 h2 = h2 its := by
  unfold Bytes.joinM.match_1
  exact dif_neg h
theorem meets_bjoin (sep : Array UInt8) (t : Tok) (D : Addr) (l : List (Array UInt8 × Tok)) (hf : JoinFits sep (l.map (·.1))) :
    Meets («bytes.join» ⟨[.bytes sep t, .ref D], []⟩) (fun _ R s => s.heap.IsList D (bytesValues l).toArray ∧ ∀ t' k, R (.ok (.ret (.bytes (Bytes.joined sep (l.map (·.1))) t'))) { s with toks := k }) := by
  intro prog w A R s hs
  obtain ⟨hl, h⟩ := hs
  have hT : s.TypeIs (.bytes sep t) "bytes" := rfl
  have hD : s.TypeIs (.ref D) "list" := hl.typeIs
  obtain ⟨o, ho, hc, n, hd⟩ := id hl
  have hseq : ∀ (Q : Option (Array Value) → Shared → Prop) (E : Value → Shared → Prop), Q (some (bytesValues l).toArray) s → wpAny (model prog w) A.in1 (seqItems? (.ref D)) Q E s := fun Q E h => wpAny_seqItems ho hd h
  unfold «bytes.join» Bytes.joinM
  iterate 9 (try (first | assumption | wp_step))
  unfold Bytes.joinItems
  refine wpAny_bind (wpAny_typeOf hD ?_)
  refine wpAny_ite ?_
  rw [if_pos (by decide)]
  refine wpAny_pure ?_
  refine wpAny_bind (hseq _ _ ?_)
  dsimp only
  refine wpAny_ite ?_
  rw [if_pos (by decide)]
  by_cases h1 : l.length = 1
  · obtain ⟨p, rfl⟩ := List.length_eq_one_iff.mp h1
    rw [show (bytesValues [p]).toArray = #[Value.bytes p.1 p.2] from rfl, jm_one]
    refine wpAny_bind (wpAny_typeOf (T := "bytes") rfl ?_)
    refine wpAny_ite ?_
    rw [if_pos (by decide)]
    refine wpAny_bind (wpAny_rule (wpAny_pure ?_))
    have h' := h p.2 s.toks
    rw [List.map_cons, List.map_nil, joined_one] at h'
    exact h'
  · rw [jm_ne _ _ _ (by simp [bytesValues]; exact h1)]
    refine wpAny_bind ?_
    simp only [Std.Legacy.Range.forIn_eq_forIn_range', Std.Legacy.Range.size]
    have hsz : ((bytesValues l).toArray.size - 0 + 1 - 1) / 1 = l.length := by simp [bytesValues]
    rw [hsz]
    refine wp_range _ (fun j st => st.1 = ((l.take j).map (·.1)).toArray ∧ Plain st.2) l.length 0 _ _ ⟨rfl, fun _ h => nomatch h⟩ ?_ ?_
    · rintro j ⟨parts, taken⟩ hj ⟨hp1, hp2⟩ Q' hQ'
      dsimp only at hp1 hp2 ⊢
      refine wpAny_bind (hseq _ _ ?_)
      dsimp only
      refine wpAny_ite ?_
      rw [plain_any hp2, if_neg (by decide)]
      have hlt : j < l.length := by omega
      have hx : (bytesValues l).toArray.getD j Value.none = Value.bytes l[j].1 l[j].2 := by
        simp [bytesValues, hlt]
      rw [hx]
      refine wpAny_bind (wpAny_holding ?_)
      rw [buf_eq]
      refine wpAny_pure ?_
      dsimp only
      refine wpAny_bind (hseq _ _ ?_)
      dsimp only
      refine wpAny_ite ?_
      rw [if_neg (by simp)]
      refine wpAny_pure (hQ' _ ⟨?_, ?_⟩)
      · show parts.push l[j].1 = _
        have e : (l.take (j + 1)).map (·.1) = (l.take j).map (·.1) ++ [l[j].1] := by
          rw [List.take_add_one, List.getElem?_eq_getElem hlt, List.map_append]; rfl
        rw [hp1, e, List.push_toArray]
      · intro q hq
        rcases List.mem_append.mp hq with hq | hq
        · exact hp2 q hq
        · exact ⟨_, _, List.mem_singleton.mp hq⟩
    · rintro ⟨parts, taken⟩ ⟨hp1, hp2⟩
      rw [Nat.zero_add, List.take_length] at hp1
      dsimp only at hp1 hp2 ⊢
      subst hp1
      show wpAny _ _ (Bytes.payload (.bytes sep t) >>= fun r => _) _ _ s
      refine wpAny_bind (wpAny_of_eq (a := sep) rfl ?_)
      refine wpAny_ite ?_
      rw [if_neg (by rw [hf.1]; decide)]
      refine wpAny_bind ?_
      show wpAny _ _ (mkBytes _) _ _ _
      refine wpAny_mkBytes ?_ (by rw [List.toList_toArray]; exact hf.2)
      refine wpAny_bind (wpAny_holding (wpAny_point ?_))
      refine wpAny_bind (wp_letGo _ _ _ hp2 ?_)
      rw [List.toList_toArray]
      exact wpAny_pure (h _ _)
end Mine
end

section
open PySem PySem.W PyProof.Rows PySem.Calls
namespace Mine
open Builtin Builtin._codecs

theorem encode_tree2 (x : Str) (t u : Tok) : «str.encode» ⟨[.str x t, .str (Str.ofString "latin-1") u], []⟩ = (do ret (← encodeRoad "str.encode" (.str x t) x (Str.ofString "latin-1") none)) := by
  kernel_rfl
theorem road_latin (id : String) (self : Value) (x : Str) (errors : Option Str) : encodeRoad id self x (Str.ofString "latin-1") errors = (do mkBytes (← encodeNarrow id latin1Codec errors self x)) := by
  kernel_rfl
def latin (x : Str) : Array UInt8 := x.cps.foldl (fun acc y => acc ++ (latin1Codec.bytesOf y).toArray) #[]
theorem narrow_latin {M : Model} {A : Around} {E : Value → Shared → Prop} {s : Shared} {Q : Array UInt8 → Shared → Prop} {id : String} {self : Value} {x : Str} {errors : Option Str} (hx : ∀ c ∈ x.cps.toList, c < 256) (hz : (latin x).size ≤ sizeLine) (h : Q (latin x) s) :
    wpAny M A (encodeNarrow id latin1Codec errors self x) Q E s := by
  unfold encodeNarrow
  simp only [Std.Legacy.Range.forIn_eq_forIn_range', Std.Legacy.Range.size]
  have hsz : (x.length - 0 + 1 - 1) / 1 = x.length := by simp
  rw [hsz]
  refine wpAny_bind ?_
  rcases hn : x.length with _ | n
  · refine wpAny_pure ?_
    dsimp only
    refine wpAny_pure ?_
    have e : x.cps = #[] := Array.size_eq_zero_iff.mp hn
    unfold latin at h
    rw [e] at h
    exact h
  · rw [List.range'_succ, List.forIn_cons]
    refine wpAny_bind ?_
    have hsize : x.cps.size = n + 1 := hn
    have hbad : ∀ c ∈ x.cps, latin1Codec.bad c = false := by
      intro c hc
      have := hx c (by simpa using hc)
      show decide (c ≥ 256) = false
      exact decide_eq_false (by omega)
    have hfi : x.cps.findIdx? latin1Codec.bad = none := by
      rw [Array.findIdx?_eq_none_iff]
      exact fun c hc => hbad c hc
    have hext : x.cps.extract 0 x.cps.size = x.cps := by simp
    refine wpAny_ite ?_
    rw [if_neg (by show ¬ (0 > sizeLine); omega)]
    have h0 : x.cps[0]? = some x.cps[0] := by simp [hsize]
    dsimp only
    rw [h0]
    dsimp only
    refine wpAny_ite ?_
    rw [if_pos (by rw [hbad _ (Array.getElem_mem ..)]; rfl)]
    rw [hext, hfi]
    dsimp only [Option.getD]
    rw [hext]
    refine wpAny_pure ?_
    dsimp only
    have tail : ∀ (k i : Nat) (f : Nat → Nat × Array UInt8 × Faults → Sem (ForInStep (Nat × Array UInt8 × Faults))) (Q' : Nat × Array UInt8 × Faults → Shared → Prop),
        (∀ j Q'', Q'' (.done (0 + x.cps.size, latin x, ({} : Faults))) s → wpAny M A (f j (0 + x.cps.size, latin x, {})) Q'' E s) → Q' (0 + x.cps.size, latin x, {}) s → wpAny M A (forIn (List.range' i k 1) (0 + x.cps.size, latin x, ({} : Faults)) f) Q' E s := by
      intro k i f Q' hf hq
      cases k with
      | zero => exact wpAny_pure hq
      | succ k =>
        rw [List.range'_succ, List.forIn_cons]
        exact wpAny_bind (hf _ _ (wpAny_pure hq))
    refine tail _ _ _ _ ?_ (wpAny_pure h)
    intro j Q'' hq
    dsimp only
    refine wpAny_ite ?_
    rw [if_neg (by omega)]
    have hN : x.cps[0 + x.cps.size]? = none := by simp
    rw [hN]
    dsimp only
    exact wpAny_pure hq

theorem latin_fold : ∀ (l : List Nat) (acc : Array UInt8), l.foldl (fun acc y => acc ++ (latin1Codec.bytesOf y).toArray) acc = acc ++ (l.map (·.toUInt8)).toArray
  | [], acc => by simp
  | y :: l, acc => by
    rw [List.foldl_cons, latin_fold l]
    apply Array.ext'
    show (acc ++ [y.toUInt8].toArray ++ _).toList = _
    simp
theorem latin_eq (x : Str) : latin x = (x.cps.toList.map (·.toUInt8)).toArray := by
  unfold latin
  rw [← Array.foldl_toList, latin_fold]; simp
theorem latin_size (x : Str) : (latin x).size = x.length := by
  rw [latin_eq, List.size_toArray, List.length_map, Array.length_toList]; rfl

theorem meets_encode (x : Str) (t u : Tok) (hx : ∀ c ∈ x.cps.toList, c < 256) (hz : x.length ≤ sizeLine) :
    Meets («str.encode» ⟨[.str x t, .str (Str.ofString "latin-1") u], []⟩) (fun _ R s => ∀ t' k, R (.ok (.ret (.bytes (latin x) t'))) { s with toks := k }) := by
  refine .of_wp fun prog w A R s h => ?_
  rw [encode_tree2, road_latin]
  have hz' : (latin x).size ≤ sizeLine := by rw [latin_size]; exact hz
  refine wpAny_bind (wpAny_bind (narrow_latin hx hz' ?_))
  exact wpAny_mkBytes (wpAny_pure ⟨_, rfl, h _ _⟩) hz'
theorem call_encode {prog : Program} {w : World} {A : Around} {E : Value → Shared → Prop} {s : Shared} {x : Str} {t u : Tok} {Q : Value → Shared → Prop} (hx : ∀ c ∈ x.cps.toList, c < 256) (hz : x.length ≤ 16777216)
    (h : ∀ t' k, Q (.bytes (latin x) t') { s with toks := k }) : wpAny (model prog w) A (call (.builtin "str.encode") [.str x t, .str (Str.ofString "latin-1") u]) Q E s :=
  call_meets PySem.F.slot_str_encode (typeIs_str _ _ _) PySem.F.entry_str_encode (PySem.F.args_str_encode_2 _ _) (meets_encode x t u hx (by rw [sizeLine_eq]; exact hz)) h

theorem slot_bytes_split : Slot "bytes" "split" "bytes.split" :=
  .of (owner := "bytes") (n := "split") (by rw [typeLookup_type, builtinLookup_eq_fast]; kernel_rfl) (by decide +kernel) (by decide +kernel) (by decide +kernel)
    (by first | exact .inl (by decide +kernel) | exact .inr (by decide +kernel)) (by rw [isSubtype_type]; kernel_rfl)
theorem type_bytes_split : typeOf (.builtin "bytes.split") = pure (.type "method_descriptor") := by show builtinType _ = _; rw [builtinType_eq_fast]; kernel_rfl
theorem entry_bytes_split : entryFor table "bytes.split" = some Builtin.«bytes.split» := entryFor_of_tree (by kernel_rfl)
theorem args_bytes_split (a b : Value) : argsOk "bytes.split" ⟨[a, b], []⟩ := by unfold argsOk; kernel_rfl
theorem slot_bytes_join : Slot "bytes" "join" "bytes.join" :=
  .of (owner := "bytes") (n := "join") (by rw [typeLookup_type, builtinLookup_eq_fast]; kernel_rfl) (by decide +kernel) (by decide +kernel) (by decide +kernel)
    (by first | exact .inl (by decide +kernel) | exact .inr (by decide +kernel)) (by rw [isSubtype_type]; kernel_rfl)
theorem type_bytes_join : typeOf (.builtin "bytes.join") = pure (.type "method_descriptor") := by show builtinType _ = _; rw [builtinType_eq_fast]; kernel_rfl
theorem entry_bytes_join : entryFor table "bytes.join" = some Builtin.«bytes.join» := entryFor_of_tree (by kernel_rfl)
theorem args_bytes_join (a b : Value) : argsOk "bytes.join" ⟨[a, b], []⟩ := by unfold argsOk; kernel_rfl

section
variable {prog : Program} {w : World} {M : Model} {A : Around} {E : Value → Shared → Prop} {s : Shared} {h₀ : Heap} {L : Addr} {m : Str → Option Value} {news : List (Addr × Obj)} {b c : Array UInt8} {t u : Tok} {Q : Value → Shared → Prop}
theorem getm_split {pl : Sem Bool} {Q : Value × List Value → Shared → Prop} (h : Q (.builtin "bytes.split", [.bytes b t]) s) : wpAny M A (getMethod (.bytes b t) (Str.ofString "split") pl) Q E s := by
  with_reducible exact KBd.method_of (.bytes b t) (typeIs_bytes _ _ _) slot_bytes_split type_bytes_split KBd.noRef h
theorem getm_join {pl : Sem Bool} {Q : Value × List Value → Shared → Prop} (h : Q (.builtin "bytes.join", [.bytes b t]) s) : wpAny M A (getMethod (.bytes b t) (Str.ofString "join") pl) Q E s := by
  with_reducible exact KBd.method_of (.bytes b t) (typeIs_bytes _ _ _) slot_bytes_join type_bytes_join KBd.noRef h
theorem getm_sw {pl : Sem Bool} {Q : Value × List Value → Shared → Prop} (h : Q (.builtin "bytes.startswith", [.bytes b t]) s) : wpAny M A (getMethod (.bytes b t) (Str.ofString "startswith") pl) Q E s := by
  with_reducible exact KBd.method_of (.bytes b t) (typeIs_bytes _ _ _) FB.slot_bytes_startswith FB.type_bytes_startswith KBd.noRef h
theorem getm_ew {pl : Sem Bool} {Q : Value × List Value → Shared → Prop} (h : Q (.builtin "bytes.endswith", [.bytes b t]) s) : wpAny M A (getMethod (.bytes b t) (Str.ofString "endswith") pl) Q E s := by
  with_reducible exact KBd.method_of (.bytes b t) (typeIs_bytes _ _ _) FB.slot_bytes_endswith FB.type_bytes_endswith KBd.noRef h
theorem call_bsw (h : Q (.bool (swB b c)) s) : wpAny (model prog w) A (call (.builtin "bytes.startswith") [.bytes b t, .bytes c u]) Q E s :=
  call_meets FB.slot_bytes_startswith (typeIs_bytes _ _ _) FB.entry_bytes_startswith (FB.args_bytes_startswith_2 _ _) (meets_bsw b c t u) h
theorem call_bew (h : Q (.bool (ewB b c)) s) : wpAny (model prog w) A (call (.builtin "bytes.endswith") [.bytes b t, .bytes c u]) Q E s :=
  call_meets FB.slot_bytes_endswith (typeIs_bytes _ _ _) FB.entry_bytes_endswith (FB.args_bytes_endswith_2 _ _) (meets_bew b c t u) h
theorem call_bsplit (F : Fr h₀ L s.heap m) (N : News h₀ L s.heap news) (hc : c.isEmpty = false) (hz : ∀ p ∈ splitB b c, p.size ≤ 16777216) (hn : (splitB b c).length ≤ 16777216)
    (h : ∀ D l h' k, l.map (·.1) = splitB b c → Fr h₀ L h' m → News h₀ L h' ((D, listOf (bytesValues l).toArray 0) :: news) → (∀ p ∈ news, p.1 < D) → Q (.ref D) { s with heap := h', toks := k }) :
    wpAny (model prog w) A (call (.builtin "bytes.split") [.bytes b t, .bytes c u]) Q E s :=
  call_meets slot_bytes_split (typeIs_bytes _ _ _) entry_bytes_split (args_bytes_split _ _) (meets_bsplit b c t u hc (by rw [sizeLine_eq]; exact hz) (by rw [sizeLine_eq]; exact hn))
    fun l tk e => h _ l _ tk e (F.push _) (N.push F _) fun p hp => Heap.lt_size (N p hp).1
theorem call_bjoin {l : List (Array UInt8 × Tok)} {D : Addr} {n : Nat} (N : News h₀ L s.heap news) (hm : (D, listOf (bytesValues l).toArray n) ∈ news) (hf : JoinFits b (l.map (·.1)))
    (h : ∀ t' k, Q (.bytes (Bytes.joined b (l.map (·.1))) t') { s with toks := k }) : wpAny (model prog w) A (call (.builtin "bytes.join") [.bytes b t, .ref D]) Q E s :=
  call_meets slot_bytes_join (typeIs_bytes _ _ _) entry_bytes_join (args_bytes_join _ _) (meets_bjoin b t D l hf) ⟨⟨_, (N _ hm).1, rfl, _, rfl⟩, h⟩
end
end Mine
end

section
open PySem PySem.W PyProof.Rows PySem.Calls
namespace Mine
open Builtin

inductive BytesAre : List Value → List (Array UInt8) → Prop
  | nil : BytesAre [] []
  | cons (y : Array UInt8) (t : Tok) {vs ys} : BytesAre vs ys → BytesAre (.bytes y t :: vs) (y :: ys)
theorem BytesAre.values {vs : List Value} {ys : List (Array UInt8)} (h : BytesAre vs ys) : ∃ l, vs = bytesValues l ∧ l.map (·.1) = ys := by
  induction h with
  | nil => exact ⟨[], rfl, rfl⟩
  | cons y t _ ih =>
    obtain ⟨l, h1, h2⟩ := ih
    exact ⟨(y, t) :: l, by rw [h1]; rfl, by rw [List.map_cons, h2]⟩
theorem BytesAre.len_eq {vs : List Value} {ys : List (Array UInt8)} (h : BytesAre vs ys) : vs.length = ys.length := by
  induction h with
  | nil => rfl
  | cons _ _ _ ih => simp [ih]
theorem BytesAre.add {vs : List Value} {ys : List (Array UInt8)} (h : BytesAre vs ys) (y : Array UInt8) (t : Tok) : BytesAre (vs ++ [.bytes y t]) (ys ++ [y]) := by
  induction h with
  | nil => exact .cons y t .nil
  | cons z u _ ih => exact .cons z u ih
theorem BytesAre.snoc {vs : List Value} {v : Value} {ys : List (Array UInt8)} (h : BytesAre (vs ++ [v]) ys) : ∃ zs y t, v = .bytes y t ∧ ys = zs ++ [y] ∧ BytesAre vs zs := by
  induction vs generalizing ys with
  | nil =>
    cases h with
    | cons y t h => cases h; exact ⟨[], y, t, rfl, rfl, .nil⟩
  | cons u vs ih =>
    cases h with
    | cons y t h =>
      obtain ⟨zs, y', t', h1, h2, h3⟩ := ih h
      exact ⟨y :: zs, y', t', h1, by rw [h2]; rfl, .cons y t h3⟩

def stepB (r : Array UInt8) (acc : List (Array UInt8)) (c : Array UInt8) : List (Array UInt8) :=
  if c.size = 0 then acc else if (c.toList == #[46].toList) = true then acc else if (c.toList != #[46, 46].toList) = true then acc ++ [c] else
  match acc.getLast? with
  | none => if r.size = 0 then [c] else []
  | some y => if (y.toList == #[46, 46].toList) = true then acc ++ [c] else acc.dropLast
theorem stepB_mem {r : Array UInt8} {acc : List (Array UInt8)} {c y : Array UInt8} (h : y ∈ stepB r acc c) : y ∈ acc ∨ y = c := by
  unfold stepB at h
  repeat' split at h
  all_goals first
    | exact .inl h
    | (rcases List.mem_append.mp h with h | h; exact .inl h; exact .inr (List.mem_singleton.mp h))
    | exact .inr (List.mem_singleton.mp h)
    | exact .inl (List.dropLast_subset _ h)
    | cases h
theorem foldB_mem {r y : Array UInt8} : ∀ (l acc : List (Array UInt8)), y ∈ l.foldl (stepB r) acc → y ∈ acc ∨ y ∈ l
  | [], _, h => .inl h
  | c :: l, acc, h => by
    rcases foldB_mem l _ h with h | h
    · rcases stepB_mem h with h | h
      · exact .inl h
      · exact .inr (h ▸ .head _)
    · exact .inr (.tail _ h)
theorem stepB_len (r : Array UInt8) (acc : List (Array UInt8)) (c : Array UInt8) : (stepB r acc c).length ≤ acc.length + 1 := by
  unfold stepB
  repeat' split
  all_goals simp
  all_goals omega
theorem foldB_len (r : Array UInt8) : ∀ (l acc : List (Array UInt8)), (l.foldl (stepB r) acc).length ≤ acc.length + l.length
  | [], _ => Nat.le_refl _
  | c :: l, acc => by
    have h1 := foldB_len r l (stepB r acc c)
    have h2 := stepB_len r acc c
    rw [List.foldl_cons, List.length_cons]; omega
section
variable {r c y : Array UInt8} {acc zs : List (Array UInt8)} {us : List Value} {t : Tok}
theorem bz {c : Array UInt8} (h : ((c.size : Int) != 0) = false) : c.size = 0 := by simpa using h
theorem bnz {c : Array UInt8} (h : ((c.size : Int) != 0) = true) : ¬ c.size = 0 := by simpa using h
theorem bfin0 (h : BytesAre us acc) (h1 : c.size = 0) : BytesAre us (stepB r acc c) := by unfold stepB; rw [if_pos h1]; exact h
theorem bfin1 (h : BytesAre us acc) (h0 : ¬ c.size = 0) (h1 : (c.toList == #[46].toList) = true) : BytesAre us (stepB r acc c) := by
  unfold stepB; rw [if_neg h0, if_pos h1]; exact h
theorem bfin2 (h : BytesAre us acc) (h0 : ¬ c.size = 0) (h1 : (c.toList == #[46].toList) = false) (h2 : (c.toList != #[46, 46].toList) = true) : BytesAre (us ++ [.bytes c t]) (stepB r acc c) := by
  unfold stepB; rw [if_neg h0, if_neg (by rw [h1]; decide), if_pos h2]; exact h.add c t
theorem bfin3 (h0 : ¬ c.size = 0) (h1 : (c.toList == #[46].toList) = false) (h2 : (c.toList != #[46, 46].toList) = false) (h : r.size = 0) : BytesAre [.bytes c t] (stepB r [] c) := by
  unfold stepB; rw [if_neg h0, if_neg (by rw [h1]; decide), if_neg (by rw [h2]; decide)]; show BytesAre _ (if _ then _ else _); rw [if_pos h]; exact .cons c t .nil
theorem bfin4 (h0 : ¬ c.size = 0) (h1 : (c.toList == #[46].toList) = false) (h2 : (c.toList != #[46, 46].toList) = false) (h : ¬ r.size = 0) : BytesAre [] (stepB r [] c) := by
  unfold stepB; rw [if_neg h0, if_neg (by rw [h1]; decide), if_neg (by rw [h2]; decide)]; show BytesAre _ (if _ then _ else _); rw [if_neg h]; exact .nil
theorem bfin5 (h3 : BytesAre us (zs ++ [y])) (h0 : ¬ c.size = 0) (h1 : (c.toList == #[46].toList) = false) (h2 : (c.toList != #[46, 46].toList) = false) (h : (y.toList == #[46, 46].toList) = true) : BytesAre (us ++ [.bytes c t]) (stepB r (zs ++ [y]) c) := by
  unfold stepB; rw [if_neg h0, if_neg (by rw [h1]; decide), if_neg (by rw [h2]; decide), List.getLast?_append]; show BytesAre _ (if (y.toList == #[46, 46].toList) = true then _ else _); rw [if_pos h]; exact h3.add c t
theorem bfin6 (h3 : BytesAre us zs) (h0 : ¬ c.size = 0) (h1 : (c.toList == #[46].toList) = false) (h2 : (c.toList != #[46, 46].toList) = false) (h : (y.toList == #[46, 46].toList) = false) : BytesAre us (stepB r (zs ++ [y]) c) := by
  unfold stepB; rw [if_neg h0, if_neg (by rw [h1]; decide), if_neg (by rw [h2]; decide), List.getLast?_append]; show BytesAre _ (if (y.toList == #[46, 46].toList) = true then _ else _); rw [if_neg (by rw [h]; decide)]; simpa using h3
end

-- sizes
theorem between_fold (b : Array UInt8) (w : Nat) : ∀ (places : List Nat) (st : Array (Array UInt8) × Nat), (∀ p ∈ st.1.toList, p.size ≤ b.size) →
    (∀ p ∈ (places.foldl (fun (x : Array (Array UInt8) × Nat) p => (x.1.push (b.extract x.2 p), p + w)) st).1.toList, p.size ≤ b.size) ∧
    (places.foldl (fun (x : Array (Array UInt8) × Nat) p => (x.1.push (b.extract x.2 p), p + w)) st).1.size = st.1.size + places.length
  | [], st, h => ⟨h, rfl⟩
  | p :: places, st, h => by
    have h2 := between_fold b w places (st.1.push (b.extract st.2 p), p + w) (by
      intro q hq
      rw [Array.toList_push] at hq
      rcases List.mem_append.mp hq with hq | hq
      · exact h q hq
      · rw [List.mem_singleton.mp hq, Array.size_extract]; omega)
    refine ⟨h2.1, h2.2.trans ?_⟩
    rw [Array.size_push, List.length_cons]; omega
theorem splitB_size (b c : Array UInt8) : (∀ p ∈ splitB b c, p.size ≤ b.size) ∧ (splitB b c).length ≤ b.size + 2 := by
  unfold splitB
  split
  · exact ⟨fun p hp => by rw [List.mem_singleton.mp hp]; exact Nat.le_refl _, by simp⟩
  · have h := between_fold b c.size ((Bytes.occurrences b c 0 b.size).take (b.size + 1)) (#[], 0) (fun p hp => by simp at hp)
    unfold Bytes.between
    constructor
    · intro p hp
      simp only [Array.toList_push] at hp
      rcases List.mem_append.mp hp with hp | hp
      · exact h.1 p hp
      · rw [List.mem_singleton.mp hp, Array.size_extract]; omega
    · have h2 := h.2
      simp only [Array.toList_push, List.length_append, List.length_singleton]
      have e : ((((Bytes.occurrences b c 0 b.size).take (b.size + 1)).foldl (fun (x : Array (Array UInt8) × Nat) p => (x.1.push (b.extract x.2 p), p + c.size)) (#[], 0)).1.toList).length = ((Bytes.occurrences b c 0 b.size).take (b.size + 1)).length := by
        rw [Array.length_toList, h2]; simp
      have e2 : ((Bytes.occurrences b c 0 b.size).take (b.size + 1)).length ≤ b.size + 1 := by rw [List.length_take]; omega
      refine Nat.le_trans (Nat.add_le_add_right (Nat.le_of_eq e) 1) (by omega)

def joinL {α : Type} (s : List α) : List (List α) → List α
  | [] => []
  | x :: r => x ++ r.flatMap (s ++ ·)
theorem joined_zip (sep : Array UInt8) : ∀ (ps : List (Array UInt8)) (k : Nat) (out : Array UInt8), 0 < k →
    ((ps.zipIdx k).foldl (fun out (x : Array UInt8 × Nat) => (if x.2 > 0 then out ++ sep else out) ++ x.1) out).toList = out.toList ++ (ps.map (·.toList)).flatMap (sep.toList ++ ·)
  | [], k, out, _ => by simp
  | p :: ps, k, out, hk => by
    rw [List.zipIdx_cons, List.foldl_cons, joined_zip sep ps (k + 1) _ (Nat.succ_pos k)]
    simp only [if_pos (show k > 0 from hk)]
    simp
theorem joined_toList (sep : Array UInt8) (ps : List (Array UInt8)) : (Bytes.joined sep ps).toList = joinL sep.toList (ps.map (·.toList)) := by
  cases ps with
  | nil => rfl
  | cons p ps =>
    unfold Bytes.joined
    rw [List.zipIdx_cons, List.foldl_cons]
    have h := joined_zip sep ps (0 + 1) ((if 0 > 0 then #[] ++ sep else #[]) ++ p) (by decide)
    refine h.trans ?_
    simp [joinL]
theorem flat_len {s : List UInt8} : ∀ (ps : List (List UInt8)), (∀ p ∈ ps, p.length ≤ 1000) → (ps.flatMap (s ++ ·)).length ≤ ps.length * (s.length + 1000)
  | [], _ => by simp
  | p :: ps, h => by
    have h1 := flat_len (s := s) ps fun q hq => h q (.tail _ hq)
    have h2 := h p (.head _)
    rw [List.flatMap_cons, List.length_append, List.length_append, List.length_cons, Nat.succ_mul]
    omega
theorem fold_sizes : ∀ (ps : List (Array UInt8)) (a : Nat), (∀ p ∈ ps, p.size ≤ 1000) → ps.foldl (fun x1 x2 => x1 + x2.size) a ≤ a + ps.length * 1000
  | [], a, _ => by simp
  | p :: ps, a, h => by
    have h1 := fold_sizes ps (a + p.size) fun q hq => h q (.tail _ hq)
    have h2 := h p (.head _)
    rw [List.foldl_cons, List.length_cons, Nat.succ_mul]
    omega
theorem joinFitsB {sep : Array UInt8} {ps : List (Array UInt8)} (hs : sep.size ≤ 1) (hB : ∀ p ∈ ps, p.size ≤ 1000) (hn : ps.length ≤ 1002) : JoinFits sep ps ∧ (Bytes.joined sep ps).size ≤ 1004000 := by
  have hj : (Bytes.joined sep ps).size ≤ 1004000 := by
    rw [← Array.length_toList, joined_toList]
    cases ps with
    | nil => simp [joinL]
    | cons p ps =>
      have h1 := flat_len (s := sep.toList) (ps.map (·.toList)) (by
        intro q hq
        obtain ⟨z, hz, rfl⟩ := List.mem_map.mp hq
        rw [Array.length_toList]; exact hB z (.tail _ hz))
      have h2 := hB p (.head _)
      rw [List.length_map] at h1
      have h3 : ps.length * (sep.toList.length + 1000) ≤ ps.length * 1001 := Nat.mul_le_mul_left _ (by rw [Array.length_toList]; omega)
      have h4 : ps.length ≤ 1001 := by simp at hn; omega
      have h5 : ps.length * 1001 ≤ 1001 * 1001 := Nat.mul_le_mul_right _ h4
      show (p.toList ++ _).length ≤ _
      rw [List.length_append, Array.length_toList]
      omega
  refine ⟨⟨?_, by rw [sizeLine_eq]; omega⟩, hj⟩
  refine KBy.tooLong_not ?_
  rw [List.foldl_toArray, List.size_toArray]
  have h1 := fold_sizes ps (sep.size * (ps.length - 1)) hB
  have h2 : sep.size * (ps.length - 1) ≤ 1 * (ps.length - 1) := Nat.mul_le_mul_right _ hs
  have h3 : ps.length * 1000 ≤ 1002 * 1000 := Nat.mul_le_mul_right _ hn
  exact Nat.le_trans h1 (by omega)
theorem bjoin_led {prog : Program} {w : World} {A : Around} {E : Value → Shared → Prop} {s : Shared} {h₀ : Heap} {L D : Addr} {news : List (Addr × Obj)} {us : List Value} {n : Nat} {x : Array UInt8} {t : Tok} {ys : List (Array UInt8)} {Q : Value → Shared → Prop}
    (N : News h₀ L s.heap news) (hm : (D, listOf us.toArray n) ∈ news) (hi : BytesAre us ys) (hs : x.size ≤ 1) (hB : ∀ y ∈ ys, y.size ≤ 1000) (hn : ys.length ≤ 1002)
    (h : ∀ t' k, (Bytes.joined x ys).size ≤ 1004000 → Q (.bytes (Bytes.joined x ys) t') { s with toks := k }) : wpAny (model prog w) A (call (.builtin "bytes.join") [.bytes x t, .ref D]) Q E s := by
  obtain ⟨l, rfl, rfl⟩ := hi.values
  obtain ⟨h1, h2⟩ := joinFitsB hs hB hn
  exact call_bjoin N hm h1 fun t' k => h t' k h2

theorem noI_bytes_add : typeLookup (.type "bytes") (dunderI "add") = pure none := by rw [typeLookup_type, builtinLookup_eq_fast]; kernel_rfl
theorem iadd_bytes {prog : Program} {w : World} {A : Around} {E : Value → Shared → Prop} {s : Shared} {b c : Array UInt8} {t u : Tok} {Q : Value → Shared → Prop} (hsz : b.size + c.size ≤ 16777216) (h : ∀ t' k, Q (.bytes (b ++ c) t') { s with toks := k }) : wpAny (model prog w) A (inplaceOp .Add (.bytes b t) (.bytes c u)) Q E s := by
  refine iconcat_gives (typeIs_bytes s b t) (typeIs_bytes s c u) noI_bytes_add KBy.noFill_bytes_add KBy.seq_bytes_add FB.slot_bytes_add FB.entry_bytes_add (FB.args_bytes_add_2 _ _) (KBy.gives_bytes_add (KBy.tooLong_not hsz)) ?_
  by_cases hb : b.isEmpty = true
  · rw [if_pos hb]
    have e : b = #[] := Array.isEmpty_iff.1 hb
    have h' := h u s.toks
    rw [e, Array.empty_append] at h'
    exact h'
  · rw [if_neg hb]
    by_cases hc : c.isEmpty = true
    · rw [if_pos hc]
      have e : c = #[] := Array.isEmpty_iff.1 hc
      have h' := h t s.toks
      rw [e, Array.append_empty] at h'
      exact h'
    · rw [if_neg hc]
      exact ⟨by rw [Array.size_append, sizeLine_eq]; exact hsz, h s.toks (s.toks + 1)⟩
end Mine
end

section
open PySem PySem.W PyProof.Rows PySem.Calls
namespace Mine

/-- a frame's names under some that were stored -/
def ov : List (Str × Value) → (Str → Option Value) → Str → Option Value
  | [], m => m
  | p :: r, m => fun y => if y = p.1 then some p.2 else ov r m y
theorem ov_same {m : Str → Option Value} : ∀ {ps : List (Str × Value)}, (∀ p ∈ ps, m p.1 = some p.2) → ∀ z, ov ps m z = m z
  | [], _, _ => rfl
  | p :: r, h, z => by
    show (if z = p.1 then some p.2 else ov r m z) = m z
    by_cases e : z = p.1
    · rw [if_pos e, e]; exact (h p (.head _)).symm
    · rw [if_neg e]; exact ov_same (fun q hq => h q (.tail _ hq)) z

section
variable {prog : Program} {w : World} {A : Around} {E : Value → Shared → Prop} {s : Shared} {env : Env} {h₀ : Heap} {x : Str} {body : List Stmt} {Q : Flow → Shared → Prop} {σ : Type}

def TurnEnd (h₀ : Heap) (L : Addr) (x : Str) (m₀ : Str → Option Value) (Led : σ → List (Addr × Obj)) (cst : List (Addr × Obj)) (ps : σ → List (Str × Value)) (P : σ → Prop) (I : Addr) (oI : Obj) (s₁ s₂ : Shared) : Prop :=
  ∃ c' h' tk' m', s₂ = { s₁ with heap := h', toks := tk' } ∧ Fr h₀ L h' m' ∧ News h₀ L h' (Led c' ++ (cst ++ [(I, oI)])) ∧ (∀ p ∈ Led c' ++ cst, p.1 ≠ I) ∧ (∀ z, z ≠ x → m' z = ov (ps c') m₀ z) ∧ P c'
def TurnPost (h₀ : Heap) (L : Addr) (x : Str) (m₀ : Str → Option Value) (Led : σ → List (Addr × Obj)) (cst : List (Addr × Obj)) (ps : σ → List (Str × Value)) (P : σ → Prop) (I : Addr) (oI : Obj) (s₁ : Shared) (Q : Flow → Shared → Prop) (f : Flow) (s₂ : Shared) : Prop :=
  match f with
  | .ret v => Q (.ret v) s₂
  | .brk => Q .next s₂
  | _ => TurnEnd h₀ L x m₀ Led cst ps P I oI s₁ s₂

theorem loop_gen {l : Addr} {vs : List Value} {m₀ : Str → Option Value} {cst : List (Addr × Obj)} (Led : σ → List (Addr × Obj)) (ps : σ → List (Str × Value)) (P : Nat → σ → Prop) (c₀ : σ)
    (hh : A.handled = none) (hl : (∃ nn, (l, listOf vs.toArray nn) ∈ cst) ∨ h₀.IsList l vs.toArray) (F : Fr h₀ env.locals s.heap m₀) (N : News h₀ env.locals s.heap (Led c₀ ++ cst)) (hm₀ : ∀ p ∈ ps c₀, m₀ p.1 = some p.2) (hP : P 0 c₀)
    (turn : ∀ i v c h tk I oI, vs[i]? = some v → P i c → (∀ p ∈ Led c ++ cst, p.1 ≠ I) → Fr h₀ env.locals h (fun y => if y = x then some v else ov (ps c) m₀ y) → News h₀ env.locals h (Led c ++ (cst ++ [(I, oI)])) →
      wpAny (model prog w) A (execs body env) (fun f s₂ => Stop (TurnPost h₀ env.locals x m₀ Led cst ps (P (i + 1)) I oI { s with heap := h, toks := tk } Q f s₂)) E { s with heap := h, toks := tk })
    (done : ∀ c h tk u, P vs.length c → Fr h₀ env.locals h (fun y => if y = x then u else ov (ps c) m₀ y) → News h₀ env.locals h (Led c ++ cst) → Q .next { s with heap := h, toks := tk }) :
    wpAny (model prog w) A (pyIter (.ref l)) (fun it s₂ => LoopAtV prog w A h₀ env x body Q E it s₂) E s := by
  have hls : s.heap.IsList l vs.toArray := by
    rcases hl with ⟨nn, hl⟩ | hl
    · exact ⟨_, (N _ (List.mem_append_right _ hl)).1, rfl, nn, rfl⟩
    · exact hl.at fun o e => F.keep l o e
  have hLl : env.locals ≠ l := by
    rcases hl with ⟨nn, hl⟩ | ⟨o, ho, _⟩
    · exact ((N _ (List.mem_append_right _ hl)).2.1).symm
    · exact fun e => Nat.lt_irrefl _ (Nat.lt_of_lt_of_le (Heap.lt_size ho) (e ▸ F.above))
  have hne : l ≠ s.heap.objs.size := by
    obtain ⟨o, ho, _⟩ := id hls
    exact Nat.ne_of_lt (Heap.lt_size ho)
  have hI0 : h₀.get? s.heap.objs.size = none := next_is_new F
  refine wpAny_pyIter_list hls ?_
  have W := Walks.list (prog := prog) (w := w) hh s.heap.objs.size l hne vs.toArray
  rw [List.size_toArray] at W
  refine ⟨_, _, _, vs.length, _, _, m₀, Led c₀ ++ cst, (fun i m nx => ∃ c, nx = Led c ++ cst ∧ (∀ z, z ≠ x → m z = ov (ps c) m₀ z) ∧ P i c), rfl, W, ?_, ?_, ?_, ⟨⟨_, Heap.get?_push_size _ rfl, rfl, rfl⟩, hls.at fun o e => Heap.get?_push_of_some _ e⟩, F.push _, (fun p hp => ⟨Heap.get?_push_of_some _ (N p hp).1, (N p hp).2⟩), ⟨c₀, rfl, fun z _ => (ov_same hm₀ z).symm, hP⟩, ?_, ?_⟩
  · intro hm
    rcases List.mem_cons.mp hm with e | hm
    · exact Nat.lt_irrefl _ (e ▸ F.ns.lt)
    · exact hLl (List.mem_singleton.mp hm)
  · intro b hb
    rw [List.mem_singleton.mp hb]; exact hI0
  · intro p hp hI
    exact Nat.lt_irrefl _ ((List.mem_singleton.mp hI) ▸ Heap.lt_size (N p hp).1)
  · rintro i v m₁ news₁ s₁ own ⟨hh', tk', rfl⟩ _ hPv ⟨c, rfl, hz, hp⟩ hoff hown hget hfp hst F₁ N₁
    have hv : vs[i]? = some v := by simpa using hPv
    obtain ⟨⟨oI, hoI, _⟩, _⟩ := id hst
    have hIown := hfp s.heap.objs.size (.head _) hI0 oI hoI
    have hneI : ∀ p ∈ Led c ++ cst, p.1 ≠ s.heap.objs.size := fun p hp e => hoff p hp (e ▸ .head _)
    have N₂ : News h₀ env.locals hh' (Led c ++ (cst ++ [(s.heap.objs.size, oI)])) := by
      intro p hp
      rw [← List.append_assoc] at hp
      rcases List.mem_append.mp hp with hp | hp
      · exact N₁ p (List.mem_append_right _ hp)
      · rw [List.mem_singleton.mp hp]; exact N₁ _ (List.mem_append_left _ hIown)
    have F₂ : Fr h₀ env.locals hh' (fun y => if y = x then some v else ov (ps c) m₀ y) := by
      refine Mine.Fr.cong F₁ fun z => ?_
      by_cases e : z = x
      · simp [e]
      · simp only [if_neg e]; exact hz z e
    refine wpAny_mono (turn i v c hh' tk' _ oI hv hp hneI F₂ N₂) (fun f s₂ p => ?_) fun _ _ e => e
    have fin : TurnEnd h₀ env.locals x m₀ Led cst ps (P (i + 1)) s.heap.objs.size oI { s with heap := hh', toks := tk' } s₂ → LoopStepU h₀ env.locals [s.heap.objs.size] own (fun m nx => ∃ c, nx = Led c ++ cst ∧ (∀ z, z ≠ x → m z = ov (ps c) m₀ z) ∧ P (i + 1) c) { s with heap := hh', toks := tk' } .next s₂ := by
      rintro ⟨c', h', tk'', m', e, F', N', hne', hz', hp'⟩
      refine ⟨rfl, h', tk'', m', Led c' ++ cst, e, F', fun p hp => ?_, fun p hp hq => hne' p hp (List.mem_singleton.mp hq), c', rfl, hz', hp'⟩
      rcases List.mem_append.mp hp with hp | hp
      · have g1 : hh'.get? p.1 = some p.2 := hget p hp
        rcases List.mem_cons.mp (hown p hp) with e1 | e1
        · have e2 : p = (s.heap.objs.size, oI) := by
            rw [e1] at g1
            exact Prod.ext e1 (Option.some.inj (g1.symm.trans hoI))
          rw [e2]
          exact N' _ (List.mem_append_right _ (List.mem_append_right _ (.head _)))
        · have e1 := List.mem_singleton.mp e1
          rcases hl with ⟨nn, hl⟩ | ⟨o, ho, _⟩
          · have g2 := (N₁ _ (List.mem_append_right _ (List.mem_append_right _ hl))).1
            have e2 : p = (l, listOf vs.toArray nn) := by
              rw [e1] at g1
              exact Prod.ext e1 (Option.some.inj (g1.symm.trans g2))
            rw [e2]
            exact N' _ (List.mem_append_right _ (List.mem_append_left _ hl))
          · have g3 := (N₁ p (List.mem_append_left _ hp)).2.2
            rw [e1, ho] at g3; cases g3
      · refine N' p ?_
        rw [← List.append_assoc]
        exact List.mem_append_left _ hp
    cases f with
    | ret v => exact .ret p
    | brk => exact .brk p
    | next => exact .next (fin p)
    | cont => exact .cont (fin p)
  · rintro h' tk m' news' F' N' _ ⟨c, rfl, hz, hp⟩
    refine done c h' tk (m' x) hp (Mine.Fr.cong F' fun z => ?_) N'
    by_cases e : z = x
    · simp [e]
    · simp only [if_neg e]; exact hz z e

theorem turn_fin {m₀ m' : Str → Option Value} {cst : List (Addr × Obj)} {Led : σ → List (Addr × Obj)} {ps : σ → List (Str × Value)} {P : σ → Prop} {I : Addr} {oI : Obj} {h' : Heap} {L : Addr} {tk : Nat} {s₁ : Shared} {news' : List (Addr × Obj)} (c : σ)
    (F : Fr h₀ L h' m') (N : News h₀ L h' news') (hs : ∀ p ∈ Led c ++ (cst ++ [(I, oI)]), p ∈ news') (hne : ∀ p ∈ Led c ++ cst, p.1 ≠ I) (hz : ∀ z, z ≠ x → m' z = ov (ps c) m₀ z) (hp : P c) :
    TurnEnd h₀ L x m₀ Led cst ps P I oI s₁ { s₁ with heap := h', toks := tk } := ⟨c, h', tk, m', rfl, F, fun p hp => N p (hs p hp), hne, hz, hp⟩
end

section
variable {prog : Program} {w : World} {A : Around} {E : Value → Shared → Prop} {s : Shared} {h₀ : Heap} {L a b : Addr} {m : Str → Option Value} {news : List (Addr × Obj)} {vs ws : List Value} {Q : Value → Shared → Prop}
theorem cat_led (F : Fr h₀ L s.heap m) (N : News h₀ L s.heap news) (ha : s.heap.IsList a vs.toArray) (hb : s.heap.IsList b ws.toArray) (hz : vs.length + ws.length ≤ 100000)
    (h : ∀ D h', Fr h₀ L h' m → News h₀ L h' ((D, listOf (vs ++ ws).toArray 0) :: news) → (∀ p ∈ news, p.1 < D) → Q (.ref D) { s with heap := h' }) : wpAny (model prog w) A (binaryOp .Add (.ref a) (.ref b)) Q E s :=
  kmk_add_lit F N ha hb (by simp) h (by simp [sizeLine_eq]; omega)
end
/-- a list of texts, under a name of our own -/
def TextsAre (vs : List Value) (ys : List Str) : Prop := StrsAre vs ys
theorem TextsAre.add {vs : List Value} {ys : List Str} (h : TextsAre vs ys) (y : Str) (t : Tok) : TextsAre (vs ++ [.str y t]) (ys ++ [y]) := strsAre_add h y t

theorem ov_two {a b x : Str} {A B A0 B0 v : Option Value} {m0 : Str → Option Value} (hab : a ≠ b) : ∀ z, z ≠ x →
    (if z = b then B else if z = a then A else if z = x then v else if z = a then A0 else if z = b then B0 else m0 z) = (if z = a then A else if z = b then B else m0 z) := by
  intro z hz
  by_cases h1 : z = a
  · subst h1; rw [if_neg hab]; simp
  · by_cases h2 : z = b
    · subst h2; simp [h1]
    · simp [h1, h2, hz]
def extraS (r : Int) : List Str := if r = 0 then [] else if r = 1 then [Str.ofString "."] else if r = 2 then [Str.ofString ""] else [Str.ofString "z", Str.ofString ".."]
def stepSp (st : List Str × Int) (nm : Str) : List Str × Int := (st.1 ++ [nm] ++ extraS (st.2.fmod 4), st.2.fdiv 4)
def spGo (u : Nat) (noise : Int) (l : List Str) : List Str × Int := l.foldl stepSp (List.replicate u (Str.ofString ".."), noise)
def spellS (ups : Int) (names : List Str) (noise : Int) : Str :=
  if ups < 0 then Str.ofString "/" ++ Txt.join (Str.ofString "/") (spGo (if 0 > ups then 0 else ups).toNat noise names).1
  else if (Txt.join (Str.ofString "/") (spGo (if 0 > ups then 0 else ups).toNat noise names).1).length = 0 then Str.ofString "." else Txt.join (Str.ofString "/") (spGo (if 0 > ups then 0 else ups).toNat noise names).1
theorem extraS_mem {r : Int} {y : Str} (h : y ∈ extraS r) : y.length ≤ 2 := by
  unfold extraS at h
  have e1 : (Str.ofString ".").length = 1 := by decide
  have e2 : (Str.ofString "").length = 0 := by decide
  have e3 : (Str.ofString "z").length = 1 := by decide
  have e4 : (Str.ofString "..").length = 2 := by decide
  repeat' split at h
  · cases h
  · rw [List.mem_singleton.mp h]; omega
  · rw [List.mem_singleton.mp h]; omega
  · rcases List.mem_cons.mp h with rfl | h
    · omega
    · rw [List.mem_singleton.mp h]; omega
theorem extraS_len (r : Int) : (extraS r).length ≤ 2 := by
  unfold extraS
  repeat' split
  all_goals simp
theorem spFold_small : ∀ (l : List Str) (st : List Str × Int), (∀ y ∈ st.1, y.length ≤ 3) → (∀ y ∈ l, y.length ≤ 3) →
    (∀ y ∈ (l.foldl stepSp st).1, y.length ≤ 3) ∧ (l.foldl stepSp st).1.length ≤ st.1.length + 3 * l.length
  | [], st, h, _ => ⟨h, by simp⟩
  | nm :: l, st, h, hl => by
    have h1 : ∀ y ∈ (stepSp st nm).1, y.length ≤ 3 := by
      intro y hy
      unfold stepSp at hy
      rcases List.mem_append.mp hy with hy | hy
      · rcases List.mem_append.mp hy with hy | hy
        · exact h y hy
        · rw [List.mem_singleton.mp hy]; exact hl nm (.head _)
      · exact Nat.le_trans (extraS_mem hy) (by decide)
    have h2 := spFold_small l (stepSp st nm) h1 (fun y hy => hl y (.tail _ hy))
    refine ⟨h2.1, Nat.le_trans h2.2 ?_⟩
    have h3 := extraS_len (st.2.fmod 4)
    show (st.1 ++ [nm] ++ extraS (st.2.fmod 4)).length + _ ≤ _
    simp only [List.length_append, List.length_cons, List.length_nil]
    omega
theorem spGo_small {u : Nat} {noise : Int} {l : List Str} (hl : ∀ y ∈ l, y.length ≤ 3) : (∀ y ∈ (spGo u noise l).1, y.length ≤ 3) ∧ (spGo u noise l).1.length ≤ u + 3 * l.length := by
  have h := spFold_small l (List.replicate u (Str.ofString ".."), noise) (fun y hy => by
    rw [(List.mem_replicate.mp hy).2]; decide) hl
  refine ⟨h.1, ?_⟩
  have h2 := h.2
  dsimp only at h2
  rw [List.length_replicate] at h2
  exact h2
theorem spGo_snoc {u : Nat} {noise : Int} {l : List Str} {i : Nat} {y : Str} (h : l[i]? = some y) : spGo u noise (l.take (i + 1)) = stepSp (spGo u noise (l.take i)) y := by
  unfold spGo
  rw [List.take_add_one, h, List.foldl_append]; rfl
theorem texts_rep (k : Nat) (y : Str) (t : Tok) : TextsAre (List.replicate k [Value.str y t]).flatten (List.replicate k y) := by
  induction k with
  | zero => exact .nil
  | succ k ih => exact .cons y t ih
theorem TextsAre.at {vs : List Value} {ys : List Str} (h : TextsAre vs ys) {i : Nat} {v : Value} (e : vs[i]? = some v) : ∃ y t, v = .str y t ∧ ys[i]? = some y := StrsAre.item h i v e
theorem TextsAre.len {vs : List Value} {ys : List Str} (h : TextsAre vs ys) : vs.length = ys.length := StrsAre.len_eq h
theorem TextsAre.append {vs ws : List Value} {ys zs : List Str} (h : TextsAre vs ys) (h' : TextsAre ws zs) : TextsAre (vs ++ ws) (ys ++ zs) := StrsAre.append' h h'
theorem TextsAre.nil : TextsAre [] [] := StrsAre.nil
theorem TextsAre.cons {vs : List Value} {ys : List Str} (y : Str) (t : Tok) (h : TextsAre vs ys) : TextsAre (.str y t :: vs) (y :: ys) := StrsAre.cons y t h
structure SpSt where
  P : Addr
  us : List Value
  k : Nat
  n : Int
  t : Tok
end Mine
end

section
open PySem PySem.W PyProof.Rows PySem.Calls
namespace Mine

theorem tx_carried : ∀ {vs : List Value} {ys : List Str}, StrsAre vs ys → CarriedAll vs (ys.map PyData.str)
  | _, _, .nil => .nil
  | _, _, .cons y t r => .cons (.str y t) (tx_carried r)
theorem tx_depthAll : ∀ ys : List Str, PyData.depthAll (ys.map PyData.str) = 0
  | [] => rfl
  | y :: r => by simp [PyData.depthAll, PyData.depth, tx_depthAll r]
theorem tx_sameAll : ∀ xs ys : List Str, PySem.Spec.sameAll (xs.map PyData.str) (ys.map PyData.str) = decide (xs = ys)
  | [], [] => rfl
  | [], _ :: _ => rfl
  | _ :: _, [] => rfl
  | a :: r, b :: t => by
    simp only [List.map_cons, PySem.Spec.sameAll, PySem.Spec.same, tx_sameAll r t]
    by_cases h : a = b <;> by_cases h' : r = t <;> simp [h, h']
theorem tx_same (xs ys : List Str) : PySem.Spec.same (.list (xs.map PyData.str)) (.list (ys.map PyData.str)) = decide (xs = ys) := by
  simp only [PySem.Spec.same]; exact tx_sameAll xs ys
/-- texts whose signs are signs -/
def TxOk (ys : List Str) : Prop := ∀ y ∈ ys, PyData.strOk y = true
theorem TxOk.append {xs ys : List Str} (h : TxOk xs) (h' : TxOk ys) : TxOk (xs ++ ys) := fun y hy => (List.mem_append.mp hy).elim (h y) (h' y)
theorem TxOk.nil : TxOk [] := fun _ h => nomatch h
theorem TxOk.drop {ys : List Str} (h : TxOk ys) (k : Nat) : TxOk (ys.drop k) := fun y hy => h y (List.mem_of_mem_drop hy)
theorem TxOk.take {ys : List Str} (h : TxOk ys) (k : Nat) : TxOk (ys.take k) := fun y hy => h y (List.mem_of_mem_take hy)
theorem TxOk.rep {ys : List Str} (k : Nat) (h : TxOk ys) : TxOk (List.replicate k ys).flatten := fun y hy => by
  obtain ⟨l, hl, hy⟩ := List.mem_flatten.mp hy
  rw [(List.mem_replicate.mp hl).2] at hy
  exact h y hy
theorem tx_canLay : ∀ ys : List Str, TxOk ys → PyData.canLayAll0 (ys.map PyData.str) = true
  | [], _ => rfl
  | y :: r, h => by simp [PyData.canLayAll0, PyData.canLay0, tx_canLay r (fun z hz => h z (.tail _ hz)), h y (.head _)]
theorem tx_shaped (ys : List Str) (h : TxOk ys) : SeqAt.shaped (.list (ys.map PyData.str)) = true := by
  simp [SeqAt.shaped, PyData.canLay0, PyData.depth, tx_canLay ys h, tx_depthAll]
theorem eq_texts {prog : Program} {w : World} {A : Around} {E : Value → Shared → Prop} {s : Shared} {a b : Addr} {us vs : List Value} {xs ys : List Str} {Q : Value → Shared → Prop} (ha : s.heap.IsList a us.toArray) (hb : s.heap.IsList b vs.toArray) (hi : TextsAre us xs) (hj : TextsAre vs ys) (oi : TxOk xs) (oj : TxOk ys) (hu : A.units + 64 < cLine) (h : Q (.bool (decide (xs = ys))) s) :
    wpAny (model prog w) A (compareOp .Eq (.ref a) (.ref b)) Q E s :=
  eq_dataH_same (reads_newData ha (tx_carried hi)) (reads_newData hb (tx_carried hj)) (tx_shaped _ oi) (tx_shaped _ oj) hu (SeqAt.noMix_of_shape (.list .str) rfl _ _ (list_map_has fun _ => rfl) (list_map_has fun _ => rfl)) (by rw [tx_same]; exact h)

def pickL {α : Type} (l : List α) (lo hi : Option Int) : List α := (l.drop (kms_lo lo l.length)).take (kms_hi hi l.length - kms_lo lo l.length)
theorem TextsAre.drop {vs : List Value} {ys : List Str} (h : TextsAre vs ys) (k : Nat) : TextsAre (vs.drop k) (ys.drop k) := StrsAre.drop' h k
theorem TextsAre.take {vs : List Value} {ys : List Str} (h : TextsAre vs ys) (k : Nat) : TextsAre (vs.take k) (ys.take k) := StrsAre.take' h k
theorem TextsAre.pick {vs : List Value} {ys : List Str} (lo hi : Option Int) (h : TextsAre vs ys) : TextsAre (kms_pick vs lo hi) (pickL ys lo hi) := by
  unfold kms_pick pickL
  rw [h.len]
  exact (h.drop _).take _
theorem TextsAre.rep {vs : List Value} {ys : List Str} (k : Nat) (h : TextsAre vs ys) : TextsAre (List.replicate k vs).flatten (List.replicate k ys).flatten := by
  induction k with
  | zero => exact .nil
  | succ k ih => exact h.append ih
theorem TxOk.pick {ys : List Str} (lo hi : Option Int) (h : TxOk ys) : TxOk (pickL ys lo hi) := (h.drop _).take _
theorem pick_len (vs : List Value) (lo hi : Option Int) : (kms_pick vs lo hi).length ≤ vs.length := by
  unfold kms_pick
  rw [List.length_take, List.length_drop]; omega
section
variable {prog : Program} {w : World} {A : Around} {E : Value → Shared → Prop} {s : Shared} {h₀ : Heap} {L l : Addr} {m : Str → Option Value} {news : List (Addr × Obj)} {value slice : PySem.Expr} {vs : List Value} {vl vu : Value} {lo hi : Option Int} {Q : Value → Shared → Prop}
theorem slice_led (F : Fr h₀ L s.heap m) (N : News h₀ L s.heap news) (hl : s.heap.IsList l vs.toArray) (pl : IsPart vl lo) (pu : IsPart vu hi) (hz : vs.length ≤ 100000)
    (h : ∀ D h', Fr h₀ L h' m → News h₀ L h' ((D, listOf (kms_pick vs lo hi).toArray 0) :: news) → (∀ p ∈ news, p.1 < D) → Q (.ref D) { s with heap := h' })
    (hs : subscripted slice false (.ref l) (.ref s.heap.objs.size) = operate [.ref s.heap.objs.size, .ref l] (getItem (.ref l) (.ref s.heap.objs.size))) (ht : ∀ r, letTemporaryGo value (.ref l) r = pure ()) :
    wpAny (model prog w) A (subscriptTail value slice (.ref l) (.ref s.heap.objs.size)) Q E { s with heap := s.heap.push { cls := .type "slice", data := .fields #[vl, vu, .none] } } :=
  kms_slice_lit F N hl pl pu (by rw [List.toList_toArray]) h hs ht (by rw [List.size_toArray, sizeLine_eq]; omega)
theorem len_led (hl : s.heap.IsList l vs.toArray) (hz : vs.length ≤ 16384) (h : ∀ t' k, Q (.int (vs.length : Nat) t') { s with toks := k }) : wpAny (model prog w) A (call (.builtin "len") [.ref l]) Q E s :=
  kun_lenL hl rfl (by rw [List.size_toArray]; omega) (by rw [List.size_toArray]; exact h _ _)
end

section
variable {prog : Program} {w : World} {A : Around} {E : Value → Shared → Prop} {Q : Flow → Shared → Prop} {s : Shared} {env : Env} {h₀ : Heap} {L : Addr} {σ : Type}
def WhEnd (h₀ : Heap) (L : Addr) (m₀ : Str → Option Value) (cst : List (Addr × Obj)) (ps : σ → List (Str × Value)) (P : σ → Prop) (μ : σ → Nat) (n : Nat) (s s₃ : Shared) : Prop :=
  ∃ c' h' tk' m', s₃ = { s with heap := h', toks := tk' } ∧ Fr h₀ L h' m' ∧ News h₀ L h' cst ∧ μ c' < n ∧ (∀ z, m' z = ov (ps c') m₀ z) ∧ P c'
theorem while_gen {test : PySem.Expr} {body : List Stmt} {pos : Pos} {m₀ : Str → Option Value} {cst : List (Addr × Obj)} (ps : σ → List (Str × Value)) (P : σ → Prop) (μ : σ → Nat) (c₀ : σ)
    (F : Fr h₀ L s.heap m₀) (N : News h₀ L s.heap cst) (hm₀ : ∀ p ∈ ps c₀, m₀ p.1 = some p.2) (hP : P c₀)
    (turn : ∀ c h tk, P c → Fr h₀ L h (ov (ps c) m₀) → News h₀ L h cst →
      wpAny (model prog w) A (isTrue test env (eval test env)) (fun b s₂ => if b = true then wpAny (model prog w) A (execs body env) (fun f s₃ => Stop (f = .next ∧ WhEnd h₀ L m₀ cst ps P μ (μ c) s s₃)) E s₂ else Stop (Q .next s₂)) E { s with heap := h, toks := tk })
    (hE : PassesOwn (model prog w) A env E := by passes_own) :
    wpAny (model prog w) A (exec (.While test body [] pos) env) Q E s := by
  refine While_inv (fun n m nx => nx = cst ∧ ∃ c, μ c = n ∧ (∀ z, m z = ov (ps c) m₀ z) ∧ P c) F N ⟨rfl, c₀, rfl, fun z => (ov_same hm₀ z).symm, hP⟩ ?_ hE
  rintro n m₁ nx h tk F₁ N₁ ⟨rfl, c, hn, hz, hp⟩
  refine wpAny_mono (turn c h tk hp (Mine.Fr.cong F₁ hz) N₁) (fun b s₂ p => ?_) fun _ _ x => x
  cases b with
  | false =>
    simp only [Bool.false_eq_true, if_false] at p ⊢
    exact p
  | true =>
    simp only [if_true] at p ⊢
    refine wpAny_mono p (fun f s₃ q => ?_) fun _ _ x => x
    obtain ⟨hf, c', h', tk', m', e, F', N', hlt, hz', hp'⟩ := q
    exact ⟨hf, h', tk', m', _, μ c', e, F', N', hn ▸ hlt, rfl, c', rfl, hz', hp'⟩
end

structure WhSt where
  a : Int
  b : Int
  ta : Tok
  tb : Tok
theorem pick_mul {l : List Value} {g : Nat} {n : Nat} (hg : 0 < g) (hn : n ≤ 15) : (kms_pick l none (some (g : Int))).length * (Int.fdiv (n : Nat) (g : Nat)).toNat ≤ 256 := by
  have h1 : (kms_pick l none (some (g : Int))).length ≤ g := by
    unfold kms_pick kms_lo kms_hi
    dsimp only
    rw [List.length_take, if_neg (by omega)]
    omega
  have h2 : (Int.fdiv (n : Nat) (g : Nat)).toNat = n / g := by
    rw [Int.fdiv_eq_ediv_of_nonneg _ (by omega)]
    show ((n / g : Nat) : Int).toNat = n / g
    rfl
  rw [h2]
  have h3 : g * (n / g) ≤ n := Nat.mul_div_le n g
  have h4 := Nat.mul_le_mul_right (n / g) h1
  omega
def oneWord (xs ys : List Str) : Bool :=
  if Nat.gcd xs.length ys.length = 0 then true else
  decide (xs = (List.replicate (Int.fdiv (xs.length : Nat) ((Nat.gcd xs.length ys.length : Nat) : Int)).toNat (pickL (xs ++ ys) none (some ((Nat.gcd xs.length ys.length : Nat) : Int)))).flatten) &&
  decide (ys = (List.replicate (Int.fdiv (ys.length : Nat) ((Nat.gcd xs.length ys.length : Nat) : Int)).toNat (pickL (xs ++ ys) none (some ((Nat.gcd xs.length ys.length : Nat) : Int)))).flatten)
theorem fmod_nat (m n : Nat) : Int.fmod (m : Int) (n : Int) = ((m % n : Nat) : Int) := by
  rw [Int.fmod_eq_emod_of_nonneg _ (by omega)]
  rfl

theorem wh_end {σ : Type} {s : Shared} {h₀ h' : Heap} {L : Addr} {m₀ m' : Str → Option Value} {cst news' : List (Addr × Obj)} {ps : σ → List (Str × Value)} {P : σ → Prop} {μ : σ → Nat} {n tk : Nat} (c' : σ)
    (F : Fr h₀ L h' m') (N : News h₀ L h' news') (hs : ∀ p ∈ cst, p ∈ news') (hz : ∀ z, m' z = ov (ps c') m₀ z) (hlt : μ c' < n) (hp : P c') : WhEnd h₀ L m₀ cst ps P μ n s { s with heap := h', toks := tk } :=
  ⟨c', h', tk, m', rfl, F, fun p hp => N p (hs p hp), hlt, hz, hp⟩

theorem fdiv_bound (n g : Nat) : 0 ≤ Int.fdiv (n : Int) (g : Int) ∧ Int.fdiv (n : Int) (g : Int) ≤ n := by
  rw [Int.fdiv_eq_ediv_of_nonneg _ (by omega)]
  have h : ((n / g : Nat) : Int) ≤ n := by have := Nat.div_le_self n g; omega
  exact ⟨Int.natCast_nonneg (n / g), h⟩
end Mine
end

section
open PySem PySem.W PyProof.Rows PySem.Calls
namespace Mine
local macro_rules | `(tactic| walk_at "own pad0") => `(tactic| skip)
local macro_rules | `(tactic| walk_at "call builtin:issubclass") => `(tactic| (k_here; k_dflt (refine' issub_str ?k1 ?k2 ?_; (case k1 => k_asm); (case k2 => k_mem); k_whole; intro _)))
local macro_rules | `(tactic| walk_at "call builtin:issubclass") => `(tactic| (k_here; k_dflt (refine' issub_bytes ?k1 ?k2 ?_; (case k1 => k_asm); (case k2 => k_mem); k_whole; intro _)))
local macro_rules | `(tactic| walk_at "call type:type") => `(tactic| (k_here; (with_reducible show wpAny _ _ (call (Value.type "type") [Value.bytes _ _]) _ _ _); k_dflt (refine' call_type_of (Tx := "bytes") ?k1 ?k2 ?_; (case k1 => exact rfl); (case k2 => decide +kernel); k_whole)))
theorem con_get_sep_str {w mean mg mb} (x : Str) (t : Tok) : Con w mean mg mb 108 450 200 [.str x t] (fun _ => True) (fun _ v _ => ∃ t', v = .str (Str.ofString "/") t') := by
  unfold Con
  k_fill
  w_top off
  intro cn cs a ccd cl outer A₀ base h₀ L m s Q E B F X T hk hp hret
  refine wpAny_call ?_
  k_dflt (((refine' con_def (binds := [(Str.ofString "path", .str x t)]) ?k1 ?k2 ?k3 ?k5 ?kA ?kF ?kK ?k6 ?k7 ?k8 ?k9 ?kB ?_ ?c2 ?c3 ?c4 ?c5; (case kA => exact rfl); (case kF => exact rfl); (case kK => assumption); (case k1 => k_asm); (case k2 => k_asm); (case k3 => k_asm); (case k5 => k_asm); (case k6 => k_is); (case k7 => k_is); (case k8 => exact Nat.le_of_ble_eq_true rfl); (case k9 => exact BindsTo.of_eq rfl); (case c5 => decide); (case kB => exact locs rfl); (case c2 => exact rfl); (case c3 => exact rfl); (case c4 => exact rfl); k_whole; intro L' h' F' N' B' X' T'; (try dsimp only); (try k_fold))))
  k_steps
  (((try dsimp only); refine hret _ _ _ (Fr.keep (by assumption)) ?_))
  exact ⟨_, rfl⟩
theorem con_get_sep_bytes {w mean mg mb} (x : Array UInt8) (t : Tok) : Con w mean mg mb 108 450 200 [.bytes x t] (fun _ => True) (fun _ v _ => ∃ t', v = .bytes #[47] t') := by
  unfold Con
  k_fill
  w_top off
  intro cn cs a ccd cl outer A₀ base h₀ L m s Q E B F X T hk hp hret
  refine wpAny_call ?_
  k_dflt (((refine' con_def (binds := [(Str.ofString "path", .bytes x t)]) ?k1 ?k2 ?k3 ?k5 ?kA ?kF ?kK ?k6 ?k7 ?k8 ?k9 ?kB ?_ ?c2 ?c3 ?c4 ?c5; (case kA => exact rfl); (case kF => exact rfl); (case kK => assumption); (case k1 => k_asm); (case k2 => k_asm); (case k3 => k_asm); (case k5 => k_asm); (case k6 => k_is); (case k7 => k_is); (case k8 => exact Nat.le_of_ble_eq_true rfl); (case k9 => exact BindsTo.of_eq rfl); (case c5 => decide); (case kB => exact locs rfl); (case c2 => exact rfl); (case c3 => exact rfl); (case c4 => exact rfl); k_whole; intro L' h' F' N' B' X' T'; (try dsimp only); (try k_fold))))
  k_steps
  (((try dsimp only); refine hret _ _ _ (Fr.keep (by assumption)) ?_))
  exact ⟨_, rfl⟩
theorem con_fspath_str {w mean mg mb} (x : Str) (t : Tok) : Con w mean mg mb 94 450 200 [.str x t] (fun _ => True) (fun _ v _ => ∃ t', v = .str x t') := by
  unfold Con
  k_fill
  w_top off
  intro cn cs a ccd cl outer A₀ base h₀ L m s Q E B F X T hk hp hret
  refine wpAny_call ?_
  k_dflt (((refine' con_def (binds := [(Str.ofString "path", .str x t)]) ?k1 ?k2 ?k3 ?k5 ?kA ?kF ?kK ?k6 ?k7 ?k8 ?k9 ?kB ?_ ?c2 ?c3 ?c4 ?c5; (case kA => exact rfl); (case kF => exact rfl); (case kK => assumption); (case k1 => k_asm); (case k2 => k_asm); (case k3 => k_asm); (case k5 => k_asm); (case k6 => k_is); (case k7 => k_is); (case k8 => exact Nat.le_of_ble_eq_true rfl); (case k9 => exact BindsTo.of_eq rfl); (case c5 => decide); (case kB => exact locs rfl); (case c2 => exact rfl); (case c3 => exact rfl); (case c4 => exact rfl); k_whole; intro L' h' F' N' B' X' T'; (try dsimp only); (try k_fold))))
  k_steps
  (((try dsimp only); refine hret _ _ _ (Fr.keep (by assumption)) ?_))
  exact ⟨_, rfl⟩
theorem con_fspath_bytes {w mean mg mb} (x : Array UInt8) (t : Tok) : Con w mean mg mb 94 450 200 [.bytes x t] (fun _ => True) (fun _ v _ => ∃ t', v = .bytes x t') := by
  unfold Con
  k_fill
  w_top off
  intro cn cs a ccd cl outer A₀ base h₀ L m s Q E B F X T hk hp hret
  refine wpAny_call ?_
  k_dflt (((refine' con_def (binds := [(Str.ofString "path", .bytes x t)]) ?k1 ?k2 ?k3 ?k5 ?kA ?kF ?kK ?k6 ?k7 ?k8 ?k9 ?kB ?_ ?c2 ?c3 ?c4 ?c5; (case kA => exact rfl); (case kF => exact rfl); (case kK => assumption); (case k1 => k_asm); (case k2 => k_asm); (case k3 => k_asm); (case k5 => k_asm); (case k6 => k_is); (case k7 => k_is); (case k8 => exact Nat.le_of_ble_eq_true rfl); (case k9 => exact BindsTo.of_eq rfl); (case c5 => decide); (case kB => exact locs rfl); (case c2 => exact rfl); (case c3 => exact rfl); (case c4 => exact rfl); k_whole; intro L' h' F' N' B' X' T'; (try dsimp only); (try k_fold))))
  k_steps
  (((try dsimp only); refine hret _ _ _ (Fr.keep (by assumption)) ?_))
  exact ⟨_, rfl⟩
end Mine
end

section
open PySem PySem.W PyProof.Rows PySem.Calls
namespace Mine
local macro_rules | `(tactic| walk_at "own pad0") => `(tactic| skip)
local macro_rules | `(tactic| walk_at "own pad1") => `(tactic| skip)
local macro_rules | `(tactic| walk_at "call ref") => `(tactic| (k_here; (with_reducible show wpAny _ _ (call (Value.ref 94) [Value.str _ _]) _ _ _); k_dflt (((refine' Con.use (con_fspath_str _ _) ?kb ?kf ?kx ?kn ?kt ?kd ?ku ?kh ?ka ?kk ?kp ?_; (case kb => k_asm); (case kf => k_asm); (case kx => k_asm); (case kn => k_asm); (case kt => k_asm); (case kd => exact Nat.le_of_ble_eq_true rfl); (case ku => exact Nat.le_of_ble_eq_true rfl); (case kh => exact rfl); (case ka => exact rfl); (case kk => first | exact rfl | assumption))); (case kp => exact trivial); k_whole; intro v9 h9 tk9 F9 N9 K9 P9; obtain ⟨t9, e9⟩ := P9; subst e9; (try dsimp only); (try k_fold))))
local macro_rules | `(tactic| walk_at "call ref") => `(tactic| (k_here; (with_reducible show wpAny _ _ (call (Value.ref 94) [Value.bytes _ _]) _ _ _); k_dflt (((refine' Con.use (con_fspath_bytes _ _) ?kb ?kf ?kx ?kn ?kt ?kd ?ku ?kh ?ka ?kk ?kp ?_; (case kb => k_asm); (case kf => k_asm); (case kx => k_asm); (case kn => k_asm); (case kt => k_asm); (case kd => exact Nat.le_of_ble_eq_true rfl); (case ku => exact Nat.le_of_ble_eq_true rfl); (case kh => exact rfl); (case ka => exact rfl); (case kk => first | exact rfl | assumption))); (case kp => exact trivial); k_whole; intro v9 h9 tk9 F9 N9 K9 P9; obtain ⟨t9, e9⟩ := P9; subst e9; (try dsimp only); (try k_fold))))
section
variable {prog : Program} {w : World} {A : Around} {E : Value → Shared → Prop} {s : Shared} {value slice : PySem.Expr} {b : Array UInt8} {t : Tok} {h₀ : Heap} {L : Addr} {m : PySem.Str → Option Value} {news : List (Addr × Obj)} {l u : Value} {lo hi : Option Int} {Q : Value → Shared → Prop}
theorem bslice (hF : Fr h₀ L s.heap m) (hN : News h₀ L s.heap news) (hz : b.size ≤ 16777216) (hl : IsPart l lo) (hu : IsPart u hi)
    (h : ∀ h' t' k, Fr h₀ L h' m → News h₀ L h' news → (KBy.picked b lo hi).size ≤ b.size → Q (.bytes (KBy.picked b lo hi) t') { s with heap := h', toks := k })
    (hs : subscripted slice false (.bytes b t) (.ref s.heap.objs.size) = operate [.ref s.heap.objs.size, .bytes b t] (getItem (.bytes b t) (.ref s.heap.objs.size)) := by with_unfolding_all rfl)
    (ht : ∀ r, letTemporaryGo value (.bytes b t) r = pure () := by intro _; with_unfolding_all rfl) :
    wpAny (model prog w) A (subscriptTail value slice (.bytes b t) (.ref s.heap.objs.size)) Q E { s with heap := s.heap.push { cls := .type "slice", data := .fields #[l, u, .none] } } :=
  KBc.slice_K hF hN rfl hl hu (by rw [KBw.ints_length]; exact hz) (fun h' t' k F N _ => h h' t' k F N (KBc.size_picked_le b lo hi)) hs ht
end
local macro_rules | `(tactic| walk_at "subscriptTail") => `(tactic| (k_here; (with_reducible show wpAny _ _ (subscriptTail _ (Expr.Slice _ _ none _) (Value.bytes _ _) (Value.ref _)) _ _ _); (with_reducible rename Fr _ _ _ _ => F'); (with_reducible rename News _ _ _ _ => N'); (refine bslice (s := ⟨_, _, _, _, _⟩) F' N' (by omega) (by constructor) (by constructor) ?_); intro _ _ _ _ _ _))
def rootS (x : Str) : Str × Str := if (Txt.slice x none (some 1) != Str.ofString "/") = true then (Str.ofString "", x) else
  if (Txt.slice x (some 1) (some 2) != Str.ofString "/") = true then (Str.ofString "/", Txt.slice x (some 1) none) else
  if (Txt.slice x (some 2) (some 3) == Str.ofString "/") = true then (Str.ofString "/", Txt.slice x (some 1) none) else (Txt.slice x none (some 2), Txt.slice x (some 2) none)
theorem con_splitroot_str {w mean mg mb} (x : Str) (t : Tok) (hx : x.length ≤ 1000) : Con w mean mg mb 122 440 150 [.str x t] (fun _ => True)
    (fun h v h' => ∃ D t1 t2 t3, v = .ref D ∧ Made h h' D { cls := .type "tuple", data := .seq #[.str (Str.ofString "") t1, .str (rootS x).1 t2, .str (rootS x).2 t3] }) := by
  unfold Con
  k_fill
  w_top off
  intro cn cs a ccd cl outer A₀ base h₀ L m s Q E B F X T hk hp hret
  refine wpAny_call ?_
  k_dflt (((refine' con_def (binds := [(Str.ofString "p", .str x t)]) ?k1 ?k2 ?k3 ?k5 ?kA ?kF ?kK ?k6 ?k7 ?k8 ?k9 ?kB ?_ ?c2 ?c3 ?c4 ?c5; (case kA => exact rfl); (case kF => exact rfl); (case kK => assumption); (case k1 => k_asm); (case k2 => k_asm); (case k3 => k_asm); (case k5 => k_asm); (case k6 => k_is); (case k7 => k_is); (case k8 => exact Nat.le_of_ble_eq_true rfl); (case k9 => exact BindsTo.of_eq rfl); (case c5 => decide); (case kB => exact locs rfl); (case c2 => exact rfl); (case c3 => exact rfl); (case c4 => exact rfl); k_whole; intro L' h' F' N' B' X' T'; (try dsimp only); (try k_fold))))
  k_steps
  all_goals ((((try dsimp only); refine hret _ _ _ (Fr.keep (by assumption)) ?_)); (rename News _ _ _ _ => N9); have hm9 := News.made N9 (.head _); simp (config := { failIfUnchanged := false }) only [rootS, *, if_true, Bool.false_eq_true, if_false]; exact ⟨_, _, _, _, rfl, hm9⟩)
def rootB (x : Array UInt8) : Array UInt8 × Array UInt8 := if ((KBy.picked x none (some 1)).toList != #[47].toList) = true then (#[], x) else
  if ((KBy.picked x (some 1) (some 2)).toList != #[47].toList) = true then (#[47], KBy.picked x (some 1) none) else
  if ((KBy.picked x (some 2) (some 3)).toList == #[47].toList) = true then (#[47], KBy.picked x (some 1) none) else (KBy.picked x none (some 2), KBy.picked x (some 2) none)
theorem con_splitroot_bytes {w mean mg mb} (x : Array UInt8) (t : Tok) (hx : x.size ≤ 1000) : Con w mean mg mb 122 440 150 [.bytes x t] (fun _ => True)
    (fun h v h' => ∃ (D : Addr) (t1 t2 t3 : Tok), v = .ref D ∧ Made h h' D { cls := .type "tuple", data := .seq #[.bytes #[] t1, .bytes (rootB x).1 t2, .bytes (rootB x).2 t3] }) := by
  unfold Con
  k_fill
  w_top off
  intro cn cs a ccd cl outer A₀ base h₀ L m s Q E B F X T hk hp hret
  refine wpAny_call ?_
  k_dflt (((refine' con_def (binds := [(Str.ofString "p", .bytes x t)]) ?k1 ?k2 ?k3 ?k5 ?kA ?kF ?kK ?k6 ?k7 ?k8 ?k9 ?kB ?_ ?c2 ?c3 ?c4 ?c5; (case kA => exact rfl); (case kF => exact rfl); (case kK => assumption); (case k1 => k_asm); (case k2 => k_asm); (case k3 => k_asm); (case k5 => k_asm); (case k6 => k_is); (case k7 => k_is); (case k8 => exact Nat.le_of_ble_eq_true rfl); (case k9 => exact BindsTo.of_eq rfl); (case c5 => decide); (case kB => exact locs rfl); (case c2 => exact rfl); (case c3 => exact rfl); (case c4 => exact rfl); k_whole; intro L' h' F' N' B' X' T'; (try dsimp only); (try k_fold))))
  k_steps
  all_goals ((((try dsimp only); refine hret _ _ _ (Fr.keep (by assumption)) ?_)); (rename News _ _ _ _ => N9); have hm9 := News.made N9 (.head _); simp (config := { failIfUnchanged := false }) only [rootB, *, if_true, Bool.false_eq_true, if_false]; exact ⟨_, _, _, _, rfl, hm9⟩)
end Mine
end

section
open PySem PySem.W PyProof.Rows PySem.Calls
namespace Mine
local macro_rules | `(tactic| walk_at "own pad0") => `(tactic| skip)
local macro_rules | `(tactic| walk_at "own my_steps") => `(tactic| repeat' (first | (k_unfold; (try dsimp only)) | walk1 | (dsimp only; walk1) | (leave1; (try dsimp only)) | fail "no step"))

theorem rootS_le (x : Str) : (rootS x).2.length ≤ x.length ∧ (rootS x).1.length ≤ x.length + 1 := by
  unfold rootS
  have h1 := PyProof.Txt.length_slice_le x none (some 1)
  have h2 := PyProof.Txt.length_slice_le x (some 1) none
  have h3 := PyProof.Txt.length_slice_le x none (some 2)
  have h4 := PyProof.Txt.length_slice_le x (some 2) none
  have e1 : (Str.ofString "").length = 0 := by decide
  have e2 : (Str.ofString "/").length = 1 := by decide
  repeat' split
  all_goals (dsimp only; constructor <;> omega)
local macro_rules | `(tactic| walk_at "call ref") => `(tactic| (k_here; (with_reducible show wpAny _ _ (call (Value.ref 94) [Value.str _ _]) _ _ _); k_dflt (((refine' Con.use (con_fspath_str _ _) ?kb ?kf ?kx ?kn ?kt ?kd ?ku ?kh ?ka ?kk ?kp ?_; (case kb => k_asm); (case kf => k_asm); (case kx => k_asm); (case kn => k_asm); (case kt => k_asm); (case kd => exact Nat.le_of_ble_eq_true rfl); (case ku => exact Nat.le_of_ble_eq_true rfl); (case kh => exact rfl); (case ka => exact rfl); (case kk => first | exact rfl | assumption))); (case kp => exact trivial); k_whole; intro v9 h9 tk9 F9 N9 K9 P9; obtain ⟨t9, e9⟩ := P9; subst e9; (try dsimp only); (try k_fold))))
local macro_rules | `(tactic| walk_at "call ref") => `(tactic| (k_here; (with_reducible show wpAny _ _ (call (Value.ref 122) [Value.str _ _]) _ _ _); k_dflt (((refine' Con.use (con_splitroot_str _ _ (by assumption)) ?kb ?kf ?kx ?kn ?kt ?kd ?ku ?kh ?ka ?kk ?kp ?_; (case kb => k_asm); (case kf => k_asm); (case kx => k_asm); (case kn => k_asm); (case kt => k_asm); (case kd => exact Nat.le_of_ble_eq_true rfl); (case ku => exact Nat.le_of_ble_eq_true rfl); (case kh => exact rfl); (case ka => exact rfl); (case kk => first | exact rfl | assumption))); (case kp => exact trivial); k_whole; intro v9 h9 tk9 F9 N9 K9 P9; obtain ⟨D9, t91, t92, t93, e9, M9⟩ := P9; subst e9; (rename Fr _ _ _ _ => Fa); (replace N9 := News.add (by assumption) N9 M9); (try dsimp only); (try k_fold))))
local macro_rules | `(tactic| walk_at "call builtin:str.split") => `(tactic| (k_here; (with_reducible show wpAny _ _ (call (Value.builtin "str.split") _) _ _ _); (refine KSpl.split1 (by k_asm) (by k_asm) (by decide) ?_ (by rw [sizeLine_eq]; omega)); intro D' l' h' k' e' a' F' N' l1; (try k_lt l1)))
local macro_rules | `(tactic| walk_at "truthy ref") => `(tactic| (k_here; (with_reducible show wpAny _ _ (truthy (Value.ref _)) _ _ _); k_dflt (refine' truthy_nil ?k1 ?k2 ?_; (case k1 => k_asm); (case k2 => k_mem); k_whole; intro _)))
local macro_rules | `(tactic| walk_at "truthy ref") => `(tactic| (k_here; (with_reducible show wpAny _ _ (truthy (Value.ref _)) _ _ _); k_dflt (refine' truthy_snoc ?k1 ?k2 ?k3 ?_; (case k1 => k_asm); (case k2 => k_mem); (case k3 => omega); k_whole; intro _)))
local macro_rules | `(tactic| walk_at "binaryOp Add str str") => `(tactic| (k_here; (with_reducible show wpAny _ _ (binaryOp Operator.Add (Value.str _ _) (Value.str _ _)) _ _ _); (refine add_str (hsz := ?hsz) ?_); (case hsz => (rw [sizeLine_eq]; omega)); intro _ _))
local macro_rules | `(tactic| walk_at "subscriptTail Name UnaryOp ref int") => `(tactic| (k_here; (with_reducible show wpAny _ _ (subscriptTail _ _ (Value.ref _) (Value.int (-1) _)) _ _ _); k_dflt (refine' last_item ?k1 ?k2 ?_; (case k1 => k_asm); (case k2 => k_mem); k_whole)))
local macro_rules | `(tactic| walk_at "call builtin:list.append") => `(tactic| (k_here; (with_reducible show wpAny _ _ (call (Value.builtin _) [Value.ref _, _]) _ _ _); k_dflt (refine' append_led ?k1 ?k2 ?k3 ?k4 ?_; (case k1 => k_asm); (case k2 => k_asm); (case k3 => k_asm); (case k4 => omega); k_whole; intro _ _ _)))
local macro_rules | `(tactic| walk_at "call builtin:list.pop") => `(tactic| (k_here; (with_reducible show wpAny _ _ (call (Value.builtin _) [Value.ref _]) _ _ _); k_dflt (refine' pop_led ?k1 ?k2 ?k3 ?k4 ?_; (case k1 => k_asm); (case k2 => k_asm); (case k3 => k_asm); (case k4 => omega); k_whole; intro _ _ _)))
local macro_rules | `(tactic| walk_at "call builtin:str.join") => `(tactic| (k_here; (with_reducible show wpAny _ _ (call (Value.builtin _) [Value.str _ _, Value.ref _]) _ _ _); k_dflt (refine' join_led ?k1 ?k2 ?k3 ?k4 ?k5 ?k6 ?_; (case k1 => k_asm); (case k2 => k_mem); (case k3 => k_asm); (case k4 => decide); (case k5 => k_asm); (case k6 => k_asm); k_whole; intro _ _ _)))
local macro_rules | `(tactic| walk_at "pyIter ref") => `(tactic| (k_here; refine stopped ?_))
def normS (x : Str) : Str := if x.length = 0 then Str.ofString "." else
  let p := (rootS x).1 ++ Txt.join (Str.ofString "/") ((Txt.split (rootS x).2 (Str.ofString "/")).foldl (stepS (rootS x).1) [])
  if p.length = 0 then Str.ofString "." else p
theorem con_normpath_str {w mean mg mb} (x : Str) (t : Tok) (hx : x.length ≤ 1000) : Con w mean mg mb 129 430 100 [.str x t] (fun _ => True)
    (fun h v h' => ∃ t', v = .str (normS x) t') := by
  unfold Con
  k_fill
  w_top off
  intro cn cs a ccd cl outer A₀ base h₀ L m s Q E B F X T hk hp hret
  have hr := rootS_le x
  refine wpAny_call ?_
  k_dflt (((refine' con_def (binds := [(Str.ofString "path", .str x t)]) ?k1 ?k2 ?k3 ?k5 ?kA ?kF ?kK ?k6 ?k7 ?k8 ?k9 ?kB ?_ ?c2 ?c3 ?c4 ?c5; (case kA => exact rfl); (case kF => exact rfl); (case kK => assumption); (case k1 => k_asm); (case k2 => k_asm); (case k3 => k_asm); (case k5 => k_asm); (case k6 => k_is); (case k7 => k_is); (case k8 => exact Nat.le_of_ble_eq_true rfl); (case k9 => exact BindsTo.of_eq rfl); (case c5 => decide); (case kB => exact locs rfl); (case c2 => exact rfl); (case c3 => exact rfl); (case c4 => exact rfl); k_whole; intro L' h' F' N' B' X' T'; (try dsimp only); (try k_fold))))
  (walk_at "own my_steps")
  · unfold Stop
    rename_i D csv h3 k3 e1 a3 lt1 h2 NC h1 lt2 h0 F1 N1
    have hlen := len_le_of_split e1
    have hpart : ∀ y ∈ csv.map (·.1), y.length ≤ 1000 := fun y hy => by
      rw [e1] at hy
      have := part_short hy
      omega
    refine loop_news (σ := List Value × Nat) (fun c => [(NC, listOf c.1.toArray c.2)]) [NC] (fun i c => StrsAre c.1 (((csv.map (·.1)).take i).foldl (stepS (rootS x).1) [])) ([], 0) rfl (List.Mem.head _) F1 N1 (fun _ => rfl) .nil ?_ ?_
    · intro i v c h tk own hv hP1 hoff F N
      obtain ⟨us, n⟩ := c
      obtain ⟨c, tc, rfl, hc⟩ : ∃ c tc, v = .str c tc ∧ csv[i]? = some (c, tc) := by
        simp only [strValues, List.getElem?_map, Option.map_eq_some_iff] at hv
        obtain ⟨⟨c, tc⟩, h1, rfl⟩ := hv
        exact ⟨c, tc, rfl, h1⟩
      have hcl : c.length ≤ 1000 := hpart _ (List.mem_map.mpr ⟨_, List.mem_of_getElem? hc, rfl⟩)
      have hul : us.length ≤ 2000 := by
        have h5 := foldS_len (rootS x).1 ((csv.map (·.1)).take i) []
        have h6 := StrsAre.len_eq hP1
        have h7 : ((csv.map (·.1)).take i).length ≤ csv.length := by rw [List.length_take, List.length_map]; omega
        have h8 : ([] : List Str).length = 0 := rfl
        dsimp only at h6
        omega
      have hst : ((csv.map (·.1)).take (i + 1)).foldl (stepS (rootS x).1) [] = stepS (rootS x).1 (((csv.map (·.1)).take i).foldl (stepS (rootS x).1) []) c := by
        rw [List.take_add_one, List.getElem?_map, hc, List.foldl_append]; rfl
      have hne := ne_off hoff (by k_all)
      simp only [List.cons_append, List.nil_append] at N hne
      dsimp only at hP1
      try k_fold
      generalize ((csv.map (·.1)).take i).foldl (stepS (rootS x).1) [] = acc at hP1 hst
      rcases List.eq_nil_or_concat us with hus | ⟨p, q, hus⟩
      · subst hus
        cases hP1
        (walk_at "own my_steps")
        all_goals (refine turn_end (_, _) (by assumption) (by assumption) (List.Mem.head _) (fun _ => rfl) hoff (fun p hp => hp) (fun z hz => if_neg hz) ?_; rw [hst])
        all_goals (dsimp only; first | exact fin0 .nil (by assumption) | exact fin1 .nil (by assumption) (by assumption) | exact fin2 (us := []) .nil (by assumption) (by assumption) (by assumption) | exact fin3 (by assumption) (by assumption) (by assumption) (by assumption) | exact fin4 (by assumption) (by assumption) (by assumption) (by assumption))
      · rw [List.concat_eq_append] at hus
        subst hus
        obtain ⟨zs, y, ty, rfl, hzs, hP3⟩ := strsAre_snoc hP1
        subst hzs
        have hul2 : p.length ≤ 2000 := by simp at hul; omega
        (walk_at "own my_steps")
        all_goals (refine turn_end (_, _) (by assumption) (by assumption) (List.Mem.head _) (fun _ => rfl) hoff (fun p hp => hp) (fun z hz => if_neg hz) ?_; rw [hst])
        all_goals (dsimp only; first | exact fin0 hP1 (by assumption) | exact fin1 hP1 (by assumption) (by assumption) | exact fin2 hP1 (by assumption) (by assumption) (by assumption) | exact fin5 hP1 (by assumption) (by assumption) (by assumption) (by assumption) | exact fin6 hP3 (by assumption) (by assumption) (by assumption) (by assumption))
    · intro c h tk u hP F N
      obtain ⟨us, n⟩ := c
      have hP2 : StrsAre us ((Txt.split (rootS x).2 (Str.ofString "/")).foldl (stepS (rootS x).1) []) := by
        have e5 : (strValues csv).length = (csv.map (·.1)).length := by simp [strValues]
        rw [e5, List.take_length, e1] at hP
        exact hP
      simp only [List.cons_append, List.nil_append] at N
      generalize hacc : (Txt.split (rootS x).2 (Str.ofString "/")).foldl (stepS (rootS x).1) [] = acc at hP2
      have hB : ∀ y ∈ acc, y.length ≤ 1000 := by
        intro y hy
        rw [← hacc] at hy
        rcases foldS_mem _ _ hy with h | h
        · cases h
        · rw [← e1] at h; exact hpart y h
      have hn : acc.length ≤ 1002 := by
        have h5 := foldS_len (rootS x).1 (Txt.split (rootS x).2 (Str.ofString "/")) []
        rw [hacc, ← e1, List.length_map] at h5
        simp at h5
        omega
      dsimp only
      (walk_at "own my_steps")
      all_goals ((((try dsimp only); refine hret _ _ _ (Fr.keep (by assumption)) ?_)); refine ⟨_, congrArg (Value.str · _) (Eq.symm ?_)⟩; unfold normS; rw [if_neg (by omega)]; dsimp only; rw [hacc]; first | (rw [if_pos (by omega)]; done) | (rw [if_neg (by omega)]; done))
  · (((try dsimp only); refine hret _ _ _ (Fr.keep (by assumption)) ?_))
    exact ⟨_, congrArg (Value.str · _) (Eq.symm (by unfold normS; rw [if_pos (by omega)]))⟩
end Mine
end

section
open PySem PySem.W PyProof.Rows PySem.Calls
namespace Mine
local macro_rules | `(tactic| walk_at "own pad0") => `(tactic| skip)
open PySem.Builtin
local macro_rules | `(tactic| walk_at "own my_steps") => `(tactic| repeat' (first | (k_unfold; (try dsimp only)) | walk1 | (dsimp only; walk1) | (leave1; (try dsimp only)) | fail "no step"))


theorem rootB_le (x : Array UInt8) : (rootB x).2.size ≤ x.size ∧ (rootB x).1.size ≤ x.size + 1 := by
  unfold rootB
  have h1 := KBc.size_picked_le x none (some 1)
  have h2 := KBc.size_picked_le x (some 1) none
  have h3 := KBc.size_picked_le x none (some 2)
  have h4 := KBc.size_picked_le x (some 2) none
  repeat' split
  all_goals (constructor <;> first | (simp; done) | (simp; omega) | omega)
local macro_rules | `(tactic| walk_at "call ref") => `(tactic| (k_here; (with_reducible show wpAny _ _ (call (Value.ref 94) [Value.bytes _ _]) _ _ _); k_dflt (((refine' Con.use (con_fspath_bytes _ _) ?kb ?kf ?kx ?kn ?kt ?kd ?ku ?kh ?ka ?kk ?kp ?_; (case kb => k_asm); (case kf => k_asm); (case kx => k_asm); (case kn => k_asm); (case kt => k_asm); (case kd => exact Nat.le_of_ble_eq_true rfl); (case ku => exact Nat.le_of_ble_eq_true rfl); (case kh => exact rfl); (case ka => exact rfl); (case kk => first | exact rfl | assumption))); (case kp => exact trivial); k_whole; intro v9 h9 tk9 F9 N9 K9 P9; obtain ⟨t9, e9⟩ := P9; subst e9; (try dsimp only); (try k_fold))))
local macro_rules | `(tactic| walk_at "call ref") => `(tactic| (k_here; (with_reducible show wpAny _ _ (call (Value.ref 122) [Value.bytes _ _]) _ _ _); k_dflt (((refine' Con.use (con_splitroot_bytes _ _ (by assumption)) ?kb ?kf ?kx ?kn ?kt ?kd ?ku ?kh ?ka ?kk ?kp ?_; (case kb => k_asm); (case kf => k_asm); (case kx => k_asm); (case kn => k_asm); (case kt => k_asm); (case kd => exact Nat.le_of_ble_eq_true rfl); (case ku => exact Nat.le_of_ble_eq_true rfl); (case kh => exact rfl); (case ka => exact rfl); (case kk => first | exact rfl | assumption))); (case kp => exact trivial); k_whole; intro v9 h9 tk9 F9 N9 K9 P9; obtain ⟨D9, t91, t92, t93, e9, M9⟩ := P9; subst e9; (rename Fr _ _ _ _ => Fa); (replace N9 := News.add (by assumption) N9 M9); (try dsimp only); (try k_fold))))
local macro_rules | `(tactic| walk_at "getMethod bytes") => `(tactic| (k_here; with_reducible first | refine getm_split ?_ | refine getm_join ?_ | refine getm_sw ?_ | refine getm_ew ?_))
local macro_rules | `(tactic| walk_at "call builtin:bytes.split") => `(tactic| (k_here; (refine call_bsplit (by k_asm) (by k_asm) (by decide) (fun p hp => Nat.le_trans ((splitB_size _ _).1 p hp) (by omega)) (Nat.le_trans (splitB_size _ _).2 (by omega)) ?_); intro D' l' h' k' e' F' N' l1; (try k_lt l1)))
local macro_rules | `(tactic| walk_at "call builtin:bytes.join") => `(tactic| (k_here; k_dflt (refine' bjoin_led ?k1 ?k2 ?k3 ?k4 ?k5 ?k6 ?_; (case k1 => k_asm); (case k2 => k_mem); (case k3 => k_asm); (case k4 => decide); (case k5 => k_asm); (case k6 => k_asm); k_whole; intro _ _ _)))
local macro_rules | `(tactic| walk_at "truthy bytes") => `(tactic| (k_here; (refine truthy_bytes (by first | omega | (simp only [Array.size_append]; omega)) ?_)))
local macro_rules | `(tactic| walk_at "binaryOp Add bytes bytes") => `(tactic| (k_here; (refine KBy.add_bytes (by omega) ?_); intro _ _))
local macro_rules | `(tactic| walk_at "truthy ref") => `(tactic| (k_here; (with_reducible show wpAny _ _ (truthy (Value.ref _)) _ _ _); k_dflt (refine' truthy_nil ?k1 ?k2 ?_; (case k1 => k_asm); (case k2 => k_mem); k_whole; intro _)))
local macro_rules | `(tactic| walk_at "truthy ref") => `(tactic| (k_here; (with_reducible show wpAny _ _ (truthy (Value.ref _)) _ _ _); k_dflt (refine' truthy_snoc ?k1 ?k2 ?k3 ?_; (case k1 => k_asm); (case k2 => k_mem); (case k3 => omega); k_whole; intro _)))
local macro_rules | `(tactic| walk_at "subscriptTail Name UnaryOp ref int") => `(tactic| (k_here; (with_reducible show wpAny _ _ (subscriptTail _ _ (Value.ref _) (Value.int (-1) _)) _ _ _); k_dflt (refine' last_item ?k1 ?k2 ?_; (case k1 => k_asm); (case k2 => k_mem); k_whole)))
local macro_rules | `(tactic| walk_at "call builtin:list.append") => `(tactic| (k_here; (with_reducible show wpAny _ _ (call (Value.builtin _) [Value.ref _, _]) _ _ _); k_dflt (refine' append_led ?k1 ?k2 ?k3 ?k4 ?_; (case k1 => k_asm); (case k2 => k_asm); (case k3 => k_asm); (case k4 => omega); k_whole; intro _ _ _)))
local macro_rules | `(tactic| walk_at "call builtin:list.pop") => `(tactic| (k_here; (with_reducible show wpAny _ _ (call (Value.builtin _) [Value.ref _]) _ _ _); k_dflt (refine' pop_led ?k1 ?k2 ?k3 ?k4 ?_; (case k1 => k_asm); (case k2 => k_asm); (case k3 => k_asm); (case k4 => omega); k_whole; intro _ _ _)))
local macro_rules | `(tactic| walk_at "pyIter ref") => `(tactic| (k_here; refine stopped ?_))
def normB (x : Array UInt8) : Array UInt8 := if x.size = 0 then #[46] else
  let p := (rootB x).1 ++ Bytes.joined #[47] ((splitB (rootB x).2 #[47]).foldl (stepB (rootB x).1) [])
  if p.size = 0 then #[46] else p
theorem con_normpath_bytes {w mean mg mb} (x : Array UInt8) (t : Tok) (hx : x.size ≤ 1000) : Con w mean mg mb 129 430 100 [.bytes x t] (fun _ => True)
    (fun h v h' => ∃ t', v = .bytes (normB x) t') := by
  unfold Con
  k_fill
  w_top off
  intro cn cs a ccd cl outer A₀ base h₀ L m s Q E B F X T hk hp hret
  have hr := rootB_le x
  refine wpAny_call ?_
  k_dflt (((refine' con_def (binds := [(Str.ofString "path", .bytes x t)]) ?k1 ?k2 ?k3 ?k5 ?kA ?kF ?kK ?k6 ?k7 ?k8 ?k9 ?kB ?_ ?c2 ?c3 ?c4 ?c5; (case kA => exact rfl); (case kF => exact rfl); (case kK => assumption); (case k1 => k_asm); (case k2 => k_asm); (case k3 => k_asm); (case k5 => k_asm); (case k6 => k_is); (case k7 => k_is); (case k8 => exact Nat.le_of_ble_eq_true rfl); (case k9 => exact BindsTo.of_eq rfl); (case c5 => decide); (case kB => exact locs rfl); (case c2 => exact rfl); (case c3 => exact rfl); (case c4 => exact rfl); k_whole; intro L' h' F' N' B' X' T'; (try dsimp only); (try k_fold))))
  (walk_at "own my_steps")
  · unfold Stop
    rename_i D csv h3 k3 e1 lt1 h2 NC h1 lt2 h0 F1 N1
    have hlen : csv.length ≤ (rootB x).2.size + 2 := by
      rw [← List.length_map (f := fun p => p.1), e1]; exact (splitB_size _ _).2
    have hpart : ∀ y ∈ csv.map (·.1), y.size ≤ 1000 := fun y hy => by
      rw [e1] at hy
      have := (splitB_size _ _).1 y hy
      omega
    refine loop_news (σ := List Value × Nat) (fun c => [(NC, listOf c.1.toArray c.2)]) [NC] (fun i c => BytesAre c.1 (((csv.map (·.1)).take i).foldl (stepB (rootB x).1) [])) ([], 0) rfl (List.Mem.head _) F1 N1 (fun _ => rfl) .nil ?_ ?_
    · intro i v c h tk own hv hP1 hoff F N
      obtain ⟨us, n⟩ := c
      obtain ⟨c, tc, rfl, hc⟩ : ∃ c tc, v = .bytes c tc ∧ csv[i]? = some (c, tc) := by
        simp only [bytesValues, List.getElem?_map, Option.map_eq_some_iff] at hv
        obtain ⟨⟨c, tc⟩, h1, rfl⟩ := hv
        exact ⟨c, tc, rfl, h1⟩
      have hcl : c.size ≤ 1000 := hpart _ (List.mem_map.mpr ⟨_, List.mem_of_getElem? hc, rfl⟩)
      have hul : us.length ≤ 2000 := by
        have h5 := foldB_len (rootB x).1 ((csv.map (·.1)).take i) []
        have h6 := BytesAre.len_eq hP1
        have h7 : ((csv.map (·.1)).take i).length ≤ csv.length := by rw [List.length_take, List.length_map]; omega
        have h8 : ([] : List (Array UInt8)).length = 0 := rfl
        dsimp only at h6
        omega
      have hst : ((csv.map (·.1)).take (i + 1)).foldl (stepB (rootB x).1) [] = stepB (rootB x).1 (((csv.map (·.1)).take i).foldl (stepB (rootB x).1) []) c := by
        rw [List.take_add_one, List.getElem?_map, hc, List.foldl_append]; rfl
      have hne := ne_off hoff (by k_all)
      simp only [List.cons_append, List.nil_append] at N hne
      dsimp only at hP1
      try k_fold
      generalize ((csv.map (·.1)).take i).foldl (stepB (rootB x).1) [] = acc at hP1 hst
      rcases List.eq_nil_or_concat us with hus | ⟨p, q, hus⟩
      · subst hus
        cases hP1
        (walk_at "own my_steps")
        all_goals (refine turn_end (_, _) (by assumption) (by assumption) (List.Mem.head _) (fun _ => rfl) hoff (fun p hp => hp) (fun z hz => if_neg hz) ?_; rw [hst])
        all_goals (dsimp only; first | exact bfin0 .nil (by omega) | exact bfin1 .nil (by omega) (by assumption) | exact bfin2 (us := []) .nil (by omega) (by assumption) (by assumption) | exact bfin3 (by omega) (by assumption) (by assumption) (by omega) | exact bfin4 (by omega) (by assumption) (by assumption) (by omega))
      · rw [List.concat_eq_append] at hus
        subst hus
        obtain ⟨zs, y, ty, rfl, hzs, hP3⟩ := hP1.snoc
        subst hzs
        have hul2 : p.length ≤ 2000 := by simp at hul; omega
        (walk_at "own my_steps")
        all_goals (refine turn_end (_, _) (by assumption) (by assumption) (List.Mem.head _) (fun _ => rfl) hoff (fun p hp => hp) (fun z hz => if_neg hz) ?_; rw [hst])
        all_goals (dsimp only; first | exact bfin0 hP1 (by omega) | exact bfin1 hP1 (by omega) (by assumption) | exact bfin2 hP1 (by omega) (by assumption) (by assumption) | exact bfin5 hP1 (by omega) (by assumption) (by assumption) (by assumption) | exact bfin6 hP3 (by omega) (by assumption) (by assumption) (by assumption))
    · intro c h tk u hP F N
      obtain ⟨us, n⟩ := c
      have hP2 : BytesAre us ((splitB (rootB x).2 #[47]).foldl (stepB (rootB x).1) []) := by
        have e5 : (bytesValues csv).length = (csv.map (·.1)).length := by simp [bytesValues]
        rw [e5, List.take_length, e1] at hP
        exact hP
      simp only [List.cons_append, List.nil_append] at N
      generalize hacc : (splitB (rootB x).2 #[47]).foldl (stepB (rootB x).1) [] = acc at hP2
      have hB : ∀ y ∈ acc, y.size ≤ 1000 := by
        intro y hy
        rw [← hacc] at hy
        rcases foldB_mem _ _ hy with h | h
        · cases h
        · rw [← e1] at h; exact hpart y h
      have hn : acc.length ≤ 1002 := by
        have h5 := foldB_len (rootB x).1 (splitB (rootB x).2 #[47]) []
        rw [hacc, ← e1, List.length_map] at h5
        simp at h5
        omega
      dsimp only
      (walk_at "own my_steps")
      all_goals ((((try dsimp only); refine hret _ _ _ (Fr.keep (by assumption)) ?_)); refine ⟨_, congrArg (Value.bytes · _) (Eq.symm ?_)⟩; unfold normB; rw [if_neg (by omega)]; dsimp only; rw [hacc]; first | (rw [if_pos (by omega)]; done) | (rw [if_neg (by omega)]; done))
  · (((try dsimp only); refine hret _ _ _ (Fr.keep (by assumption)) ?_))
    exact ⟨_, congrArg (Value.bytes · _) (Eq.symm (by unfold normB; rw [if_pos (by omega)]))⟩
end Mine
end

section
open PySem PySem.W PyProof.Rows PySem.Calls
namespace Mine
local macro_rules | `(tactic| walk_at "own pad0") => `(tactic| skip)
local macro_rules | `(tactic| walk_at "own my_steps") => `(tactic| repeat' (first | (k_unfold; (try dsimp only)) | walk1 | (dsimp only; walk1) | (leave1; (try dsimp only)) | fail "no step"))
open PySem.Builtin
local macro_rules | `(tactic| walk_at "own con_enterR") => `(tactic| (refine' con_rest ?k1 ?k2 ?k3 ?k5 ?kA ?kF ?kK ?k6 ?k7 ?k8 ?kP ?kG ?kB ?_ ?c2 ?c3 ?c4 ?c5; (case kA => exact rfl); (case kF => exact rfl); (case kK => assumption); (case k1 => k_asm); (case k2 => k_asm); (case k3 => k_asm); (case k5 => k_asm); (case k6 => k_is); (case k7 => k_is); (case k8 => exact Nat.le_of_ble_eq_true rfl); (case kP => exact rfl); (case kG => exact fun _ => rfl); (case kB => exact fun _ => locs rfl); (case c5 => decide); (case c2 => exact rfl); (case c3 => exact rfl); (case c4 => exact rfl); k_whole; intro D' L' h' F' N' B' X' T'; (try dsimp only); (try k_fold)))
local macro_rules | `(tactic| walk_at "call ref") => `(tactic| (k_here; (with_reducible show wpAny _ _ (call (Value.ref 94) [Value.str _ _]) _ _ _); k_dflt (((refine' Con.use (con_fspath_str _ _) ?kb ?kf ?kx ?kn ?kt ?kd ?ku ?kh ?ka ?kk ?kp ?_; (case kb => k_asm); (case kf => k_asm); (case kx => k_asm); (case kn => k_asm); (case kt => k_asm); (case kd => exact Nat.le_of_ble_eq_true rfl); (case ku => exact Nat.le_of_ble_eq_true rfl); (case kh => exact rfl); (case ka => exact rfl); (case kk => first | exact rfl | assumption))); (case kp => exact trivial); k_whole; intro v9 h9 tk9 F9 N9 K9 P9; obtain ⟨t9, e9⟩ := P9; subst e9; (try dsimp only); (try k_fold))))
local macro_rules | `(tactic| walk_at "call ref") => `(tactic| (k_here; (with_reducible show wpAny _ _ (call (Value.ref 108) [Value.str _ _]) _ _ _); k_dflt (((refine' Con.use (con_get_sep_str _ _) ?kb ?kf ?kx ?kn ?kt ?kd ?ku ?kh ?ka ?kk ?kp ?_; (case kb => k_asm); (case kf => k_asm); (case kx => k_asm); (case kn => k_asm); (case kt => k_asm); (case kd => exact Nat.le_of_ble_eq_true rfl); (case ku => exact Nat.le_of_ble_eq_true rfl); (case kh => exact rfl); (case ka => exact rfl); (case kk => first | exact rfl | assumption))); (case kp => exact trivial); k_whole; intro v9 h9 tk9 F9 N9 K9 P9; obtain ⟨t9, e9⟩ := P9; subst e9; (try dsimp only); (try k_fold))))
local macro_rules | `(tactic| walk_at "binaryOp Add str str") => `(tactic| (k_here; (with_reducible show wpAny _ _ (binaryOp Operator.Add (Value.str _ _) (Value.str _ _)) _ _ _); (refine add_str (hsz := ?hsz) ?_); (case hsz => (rw [sizeLine_eq]; omega)); intro _ _))
local macro_rules | `(tactic| walk_at "call ref") => `(tactic| (k_here; (with_reducible show wpAny _ _ (call (Value.ref 94) [Value.bytes _ _]) _ _ _); k_dflt (((refine' Con.use (con_fspath_bytes _ _) ?kb ?kf ?kx ?kn ?kt ?kd ?ku ?kh ?ka ?kk ?kp ?_; (case kb => k_asm); (case kf => k_asm); (case kx => k_asm); (case kn => k_asm); (case kt => k_asm); (case kd => exact Nat.le_of_ble_eq_true rfl); (case ku => exact Nat.le_of_ble_eq_true rfl); (case kh => exact rfl); (case ka => exact rfl); (case kk => first | exact rfl | assumption))); (case kp => exact trivial); k_whole; intro v9 h9 tk9 F9 N9 K9 P9; obtain ⟨t9, e9⟩ := P9; subst e9; (try dsimp only); (try k_fold))))
local macro_rules | `(tactic| walk_at "call ref") => `(tactic| (k_here; (with_reducible show wpAny _ _ (call (Value.ref 108) [Value.bytes _ _]) _ _ _); k_dflt (((refine' Con.use (con_get_sep_bytes _ _) ?kb ?kf ?kx ?kn ?kt ?kd ?ku ?kh ?ka ?kk ?kp ?_; (case kb => k_asm); (case kf => k_asm); (case kx => k_asm); (case kn => k_asm); (case kt => k_asm); (case kd => exact Nat.le_of_ble_eq_true rfl); (case ku => exact Nat.le_of_ble_eq_true rfl); (case kh => exact rfl); (case ka => exact rfl); (case kk => first | exact rfl | assumption))); (case kp => exact trivial); k_whole; intro v9 h9 tk9 F9 N9 K9 P9; obtain ⟨t9, e9⟩ := P9; subst e9; (try dsimp only); (try k_fold))))
local macro_rules | `(tactic| walk_at "getMethod bytes") => `(tactic| (k_here; with_reducible first | refine getm_sw ?_ | refine getm_ew ?_))
local macro_rules | `(tactic| walk_at "call builtin:bytes.startswith") => `(tactic| (k_here; refine call_bsw ?_))
local macro_rules | `(tactic| walk_at "call builtin:bytes.endswith") => `(tactic| (k_here; refine call_bew ?_))
local macro_rules | `(tactic| walk_at "truthy bytes") => `(tactic| (k_here; (refine truthy_bytes (by omega) ?_)))
local macro_rules | `(tactic| walk_at "binaryOp Add bytes bytes") => `(tactic| (k_here; (refine KBy.add_bytes (by first | omega | (simp only [Array.size_append, List.size_toArray, List.length_cons, List.length_nil]; omega)) ?_); intro _ _))
local macro_rules | `(tactic| walk_at "inplaceOp Add bytes bytes") => `(tactic| (k_here; (refine iadd_bytes (by first | omega | (simp only [Array.size_append, List.size_toArray, List.length_cons, List.length_nil]; omega)) ?_); intro _ _))
def joinS (x y : Str) : Str := if Txt.startswith y (Str.ofString "/") = true then y else if (x.length : Int) = 0 then y else if Txt.endswith x (Str.ofString "/") = true then x ++ y else x ++ (Str.ofString "/" ++ y)
theorem con_join_str {w mean mg mb} (x y : Str) (t u : Tok) (hx : x.length ≤ 400) (hy : y.length ≤ 400) : Con w mean mg mb 115 430 100 [.str x t, .str y u] (fun _ => True)
    (fun h v h' => ∃ t', v = .str (joinS x y) t') := by
  unfold Con
  k_fill
  w_top off
  intro cn cs a ccd cl outer A₀ base h₀ L m s Q E B F X T hk hp hret
  refine wpAny_call ?_
  k_dflt (walk_at "own con_enterR")
  (walk_at "own my_steps")
  all_goals ((((try dsimp only); refine hret _ _ _ (Fr.keep (by assumption)) ?_)); refine ⟨_, congrArg (Value.str · _) (Eq.symm ?_)⟩; unfold joinS)
  · rw [if_pos (by assumption)]
  · rw [if_neg (by simp only [*]; decide), if_neg (by assumption), if_pos (by assumption)]
  · rw [if_neg (by simp only [*]; decide), if_neg (by assumption), if_neg (by simp only [*]; decide)]
  · rw [if_neg (by simp only [*]; decide), if_pos (by assumption)]
def joinB (x y : Array UInt8) : Array UInt8 := if swB y #[47] = true then y else if (x.size : Int) = 0 then y else if ewB x #[47] = true then x ++ y else x ++ (#[47] ++ y)
theorem con_join_bytes {w mean mg mb} (x y : Array UInt8) (t u : Tok) (hx : x.size ≤ 400) (hy : y.size ≤ 400) : Con w mean mg mb 115 430 100 [.bytes x t, .bytes y u] (fun _ => True)
    (fun h v h' => ∃ t', v = .bytes (joinB x y) t') := by
  unfold Con
  k_fill
  w_top off
  intro cn cs a ccd cl outer A₀ base h₀ L m s Q E B F X T hk hp hret
  refine wpAny_call ?_
  k_dflt (walk_at "own con_enterR")
  (walk_at "own my_steps")
  all_goals ((((try dsimp only); refine hret _ _ _ (Fr.keep (by assumption)) ?_)); refine ⟨_, congrArg (Value.bytes · _) (Eq.symm ?_)⟩; unfold joinB)
  · rw [if_pos (by assumption)]
  · rw [if_neg (by simp only [*]; decide), if_neg (by assumption), if_pos (by assumption)]
  · rw [if_neg (by simp only [*]; decide), if_neg (by assumption), if_neg (by simp only [*]; decide)]
  · rw [if_neg (by simp only [*]; decide), if_pos (by assumption)]
end Mine
end

section
open PySem PySem.W PyProof.Rows PySem.Calls
namespace Mine
local macro_rules | `(tactic| walk_at "own pad0") => `(tactic| skip)
local macro_rules | `(tactic| walk_at "own my_steps") => `(tactic| repeat' (first | (k_unfold; (try dsimp only)) | walk1 | (dsimp only; walk1) | (leave1; (try dsimp only)) | fail "no step"))
open PySem.Builtin
def nameS (x : Int) : Str :=
  if x.fmod 7 = 0 then Str.ofString "a" else if x.fmod 7 = 1 then Str.ofString "b" else if x.fmod 7 = 2 then Str.ofString "ab" else if x.fmod 7 = 3 then Str.ofString "a.b" else
  if x.fmod 7 = 4 then Str.ofString "a-" else if x.fmod 7 = 5 then Str.ofString "c" else
  if ((⟨#[((x.fdiv 7).fmod 256).toNat]⟩ : Str) == Str.ofString "/") = true then Str.ofString "ac" else Str.ofString "a" ++ ⟨#[((x.fdiv 7).fmod 256).toNat]⟩
theorem con_name {w mean mg mb} (x : Int) (t : Tok) : Con w mean mg mb 136 430 100 [.int x t] (fun _ => True)
    (fun h v h' => ∃ t', v = .str (nameS x) t') := by
  unfold Con
  k_fill
  w_top off
  intro cn cs a ccd cl outer A₀ base h₀ L m s Q E B F X T hk hp hret
  refine wpAny_call ?_
  k_dflt (((refine' con_def (binds := [(Str.ofString "x", .int x t)]) ?k1 ?k2 ?k3 ?k5 ?kA ?kF ?kK ?k6 ?k7 ?k8 ?k9 ?kB ?_ ?c2 ?c3 ?c4 ?c5; (case kA => exact rfl); (case kF => exact rfl); (case kK => assumption); (case k1 => k_asm); (case k2 => k_asm); (case k3 => k_asm); (case k5 => k_asm); (case k6 => k_is); (case k7 => k_is); (case k8 => exact Nat.le_of_ble_eq_true rfl); (case k9 => exact BindsTo.of_eq rfl); (case c5 => decide); (case kB => exact locs rfl); (case c2 => exact rfl); (case c3 => exact rfl); (case c4 => exact rfl); k_whole; intro L' h' F' N' B' X' T'; (try dsimp only); (try k_fold))))
  (walk_at "own my_steps")
  all_goals ((((try dsimp only); refine hret _ _ _ (Fr.keep (by assumption)) ?_)); refine ⟨_, congrArg (Value.str · _) (Eq.symm ?_)⟩; unfold nameS; simp only [*, if_true, if_false, reduceCtorEq, Bool.false_eq_true]; try rfl)
end Mine
end

section
open PySem PySem.W PyProof.Rows PySem.Calls
namespace Mine
local macro_rules | `(tactic| walk_at "own pad0") => `(tactic| skip)
local macro_rules | `(tactic| walk_at "own my_steps") => `(tactic| repeat' (first | (k_unfold; (try dsimp only)) | walk1 | (dsimp only; walk1) | (leave1; (try dsimp only)) | fail "no step"))
local macro_rules | `(tactic| walk_at "own led_sub") => `(tactic| first | exact List.forall_mem_nil _ | (refine List.forall_mem_cons.mpr ⟨?_, ?_⟩; (focus k_mem); (walk_at "own led_sub")))
local macro_rules | `(tactic| walk_at "exec For Name Name cons nil") => `(tactic| (k_here; (rename Fr _ _ _ _ => lF'); (with_unfolding_all refine' For_invVF lF' ?k1 ?k2 ?_; (case k1 => exact rfl); (case k2 => exact rfl); k_whole)))
local macro_rules | `(tactic| walk_at "binaryOp Add ref ref") => `(tactic| (k_here; (with_reducible show wpAny _ _ (binaryOp Operator.Add (Value.ref _) (Value.ref _)) _ _ _); k_dflt (refine' cat_led ?F ?N ?a ?b ?z ?_; (case F => k_asm); (case N => k_asm); (case a => kmk_list); (case b => kmk_list); (case z => (simp only [List.length_append, List.length_cons, List.length_nil]; omega)); k_whole); intro D' h' F' N' l1; (try k_lt l1)))
local macro_rules | `(tactic| walk_at "binaryOp Mult ref int") => `(tactic| (k_here; (with_reducible show wpAny _ _ (binaryOp Operator.Mult (Value.ref _) (Value.int _ _)) _ _ _); k_dflt (refine' KMa.mul ?F ?N ?l ?lo ?hi ?z ?e ?_; (case F => k_asm); (case N => k_asm); (case l => kmk_list); (case lo => omega); (case hi => omega); (case z => (simp only [List.length_cons, List.length_nil]; omega)); (case e => exact rfl); k_whole); intro D' h' F' N' l1; (try k_lt l1)))
local macro_rules | `(tactic| walk_at "pyIter ref") => `(tactic| (k_here; refine stopped ?_))
open PySem.Builtin
local macro_rules | `(tactic| walk_at "call builtin:str.join") => `(tactic| (k_here; (with_reducible show wpAny _ _ (call (Value.builtin _) [Value.str _ _, Value.ref _]) _ _ _); k_dflt (refine' join_led ?k1 ?k2 ?k3 ?k4 ?k5 ?k6 ?_; (case k1 => k_asm); (case k2 => k_mem); (case k3 => k_asm); (case k4 => decide); (case k5 => k_asm); (case k6 => k_asm); k_whole; intro _ _ _)))
local macro_rules | `(tactic| walk_at "binaryOp Add str str") => `(tactic| (k_here; (with_reducible show wpAny _ _ (binaryOp Operator.Add (Value.str _ _) (Value.str _ _)) _ _ _); (refine add_str (hsz := ?hsz) ?_); (case hsz => (rw [sizeLine_eq]; first | omega | ((have hsl : (Str.ofString "/").length = 1 := by decide); omega))); intro _ _))
local macro_rules | `(tactic| walk_at "own spell_fin") => `(tactic| (
      refine' turn_fin ⟨_, _, _, (Int.fdiv _ 4), _⟩ ?kF ?kN ?ks ?kne ?kz ?kp
      (case kF => assumption)
      (case kN => assumption)
      (case ks => (dsimp only [List.cons_append, List.nil_append]; (walk_at "own led_sub")))
      (case kz => (intro z hz; dsimp only [ov]; by_cases hz1 : z = Str.ofString "pieces"; (focus (subst hz1; rfl)); by_cases hz2 : z = Str.ofString "noise"; (focus (subst hz2; rfl)); simp only [if_neg hz, if_neg hz1, if_neg hz2]))
      (case kne => (dsimp only [List.cons_append, List.nil_append]; k_all))))
theorem con_spell {w mean mg mb} (W l : Addr) (ups noise : Int) (tu tn : Tok) (us : List Value) (names : List Str) (hu0 : -1 ≤ ups) (hu1 : ups ≤ 10) (hus : TextsAre us names) (hnl : names.length ≤ 10) (hnm : ∀ y ∈ names, y.length ≤ 3) :
    Con w mean mg mb 143 430 100 [.ref W, .int noise tn] (fun h => IsTup h W #[.int ups tu, .ref l] ∧ h.IsList l us.toArray)
    (fun h v h' => ∃ t', v = .str (spellS ups names noise) t') := by
  unfold Con
  k_fill
  w_top off
  intro cn cs a ccd cl outer A₀ base h₀ L m s Q E B F X T hk hp hret
  obtain ⟨hW, hL⟩ := hp
  refine wpAny_call ?_
  k_dflt (((refine' con_def (binds := [(Str.ofString "walk", .ref W), (Str.ofString "noise", .int noise tn)]) ?k1 ?k2 ?k3 ?k5 ?kA ?kF ?kK ?k6 ?k7 ?k8 ?k9 ?kB ?_ ?c2 ?c3 ?c4 ?c5; (case kA => exact rfl); (case kF => exact rfl); (case kK => assumption); (case k1 => k_asm); (case k2 => k_asm); (case k3 => k_asm); (case k5 => k_asm); (case k6 => k_is); (case k7 => k_is); (case k8 => exact Nat.le_of_ble_eq_true rfl); (case k9 => exact BindsTo.of_eq rfl); (case c5 => decide); (case kB => exact locs rfl); (case c2 => exact rfl); (case c3 => exact rfl); (case c4 => exact rfl); k_whole; intro L' h' F' N' B' X' T'; (try dsimp only); (try k_fold))))
  (walk_at "own my_steps")
  unfold Stop
  rename_i tk1 h6 h5 h4 lt h3 l1a h2 tk0 D h1' l1 h0 F1 N1
  have hunat : (if 0 > ups then 0 else ups).toNat ≤ 10 := by split <;> omega
  refine loop_gen (σ := SpSt) (fun c => [(c.P, listOf c.us.toArray c.k)]) (fun c => [(Str.ofString "pieces", .ref c.P), (Str.ofString "noise", .int c.n c.t)])
    (fun i c => TextsAre c.us (spGo (if 0 > ups then 0 else ups).toNat noise (names.take i)).1 ∧ c.n = (spGo (if 0 > ups then 0 else ups).toNat noise (names.take i)).2)
    ⟨D, _, 0, noise, tn⟩ rfl (.inr hL) F1 N1 ?_ ⟨texts_rep _ _ _, rfl⟩ ?_ ?_
  · intro p hp
    rcases List.mem_cons.mp hp with rfl | hp
    · rfl
    · rcases List.mem_cons.mp hp with rfl | hp
      · rfl
      · cases hp
  · intro i v c h tk I oI hv hP hne F N
    obtain ⟨P', us', k', n', t'⟩ := c
    obtain ⟨hP1, hP2⟩ := hP
    obtain ⟨y, ty, rfl, hy⟩ := hus.at hv
    have hsn := spGo_snoc (u := (if 0 > ups then 0 else ups).toNat) (noise := noise) hy
    have hlen := hP1.len
    have hbound := (spGo_small (u := (if 0 > ups then 0 else ups).toNat) (noise := noise) (l := names.take i) (fun z hz => hnm z (List.mem_of_mem_take hz))).2
    have htl : (names.take i).length ≤ 10 := by rw [List.length_take]; omega
    dsimp only [ov] at F hP1 hP2 hlen N hne
    simp only [List.cons_append, List.nil_append] at N hne
    have hus' : us'.length ≤ 50 := by omega
    have hl1 : P' ≠ I := hne _ (.head _)
    have hl2 : lt ≠ I := hne _ (.tail _ (.head _))
    clear hne
    try k_fold
    (walk_at "own my_steps")
    all_goals (
      rename Int.fmod _ 4 = _ => hmod
      (walk_at "own spell_fin")
      rw [hsn]
      refine ⟨?_, by rw [hP2]; rfl⟩
      show TextsAre _ (_ ++ [y] ++ extraS _)
      rw [← hP2, hmod])
    · exact (hP1.add y ty).append .nil
    · exact (hP1.add y ty).append (.cons _ _ .nil)
    · exact (hP1.add y ty).append (.cons _ _ .nil)
    · exact (hP1.add y ty).append (.cons _ _ (.cons _ _ .nil))
  · intro c h tk u hP F N
    obtain ⟨P', us', k', n', t'⟩ := c
    obtain ⟨hP1, hP2⟩ := hP
    have hS : StrsAre us' (spGo (if 0 > ups then 0 else ups).toNat noise names).1 := by
      have e : names.take us.length = names := by rw [hus.len]; exact List.take_length
      rw [e] at hP1
      exact hP1
    clear hP1 hP2
    have hsm := spGo_small (u := (if 0 > ups then 0 else ups).toNat) (noise := noise) hnm
    dsimp only [ov] at F N
    simp only [List.cons_append, List.nil_append] at N
    generalize hys : (spGo (if 0 > ups then 0 else ups).toNat noise names).1 = ys at hS hsm
    have hB : ∀ y ∈ ys, y.length ≤ 1000 := fun y hy => Nat.le_trans (hsm.1 y hy) (by decide)
    have hn : ys.length ≤ 1002 := by have := hsm.2; omega
    dsimp only
    (walk_at "own my_steps")
    all_goals ((((try dsimp only); refine hret _ _ _ (Fr.keep (by assumption)) ?_)); refine ⟨_, congrArg (Value.str · _) (Eq.symm ?_)⟩; unfold spellS; rw [hys])
    all_goals first
      | (rw [if_pos (by omega)]; done)
      | (rw [if_neg (by omega), if_pos (by omega)]; done)
      | (rw [if_neg (by omega), if_neg (by omega)]; done)
end Mine
end

section
open PySem PySem.W PyProof.Rows PySem.Calls
namespace Mine
local macro_rules | `(tactic| walk_at "own pad0") => `(tactic| skip)
local macro_rules | `(tactic| walk_at "own my_steps") => `(tactic| repeat' (first | (k_unfold; (try dsimp only)) | walk1 | (dsimp only; walk1) | (leave1; (try dsimp only)) | fail "no step"))
local macro_rules | `(tactic| walk_at "own led_sub") => `(tactic| first | exact List.forall_mem_nil _ | (refine List.forall_mem_cons.mpr ⟨?_, ?_⟩; (focus k_mem); (walk_at "own led_sub")))
local macro_rules | `(tactic| walk_at "exec For Name Name cons nil") => `(tactic| (k_here; (rename Fr _ _ _ _ => lF'); (with_unfolding_all refine' For_invVF lF' ?k1 ?k2 ?_; (case k1 => exact rfl); (case k2 => exact rfl); k_whole)))
local macro_rules | `(tactic| walk_at "binaryOp Add ref ref") => `(tactic| (k_here; (with_reducible show wpAny _ _ (binaryOp Operator.Add (Value.ref _) (Value.ref _)) _ _ _); k_dflt (refine' cat_led ?F ?N ?a ?b ?z ?_; (case F => k_asm); (case N => k_asm); (case a => kmk_list); (case b => kmk_list); (case z => (simp only [List.length_append, List.length_cons, List.length_nil]; omega)); k_whole); intro D' h' F' N' l1; (try k_lt l1)))
local macro_rules | `(tactic| walk_at "binaryOp Mult ref int") => `(tactic| (k_here; (with_reducible show wpAny _ _ (binaryOp Operator.Mult (Value.ref _) (Value.int _ _)) _ _ _); k_dflt (refine' KMa.mul ?F ?N ?l ?lo ?hi ?z ?e ?_; (case F => k_asm); (case N => k_asm); (case l => kmk_list); (case lo => omega); (case hi => omega); (case z => first | assumption | (simp only [List.length_cons, List.length_nil]; omega)); (case e => exact rfl); k_whole); intro D' h' F' N' l1; (try k_lt l1)))
local macro_rules | `(tactic| walk_at "pyIter ref") => `(tactic| (k_here; refine stopped ?_))
local macro_rules | `(tactic| walk_at "own my_len") => `(tactic| first | omega | (simp only [List.length_append, List.length_cons, List.length_nil]; omega))
local macro_rules | `(tactic| walk_at "own texts") => `(tactic| first | assumption | exact TextsAre.nil | (apply TextsAre.append <;> (walk_at "own texts")) | (apply TextsAre.pick; (walk_at "own texts")) | (apply TextsAre.rep; (walk_at "own texts")) | (apply TextsAre.cons; (walk_at "own texts")))
local macro_rules | `(tactic| walk_at "own txoks") => `(tactic| first | assumption | exact TxOk.nil | (apply TxOk.append <;> (walk_at "own txoks")) | (apply TxOk.pick; (walk_at "own txoks")) | (apply TxOk.rep; (walk_at "own txoks")))
local macro_rules | `(tactic| walk_at "subscriptTail Name Slice ref ref") => `(tactic| (k_here; (with_reducible show wpAny _ _ (subscriptTail _ (PySem.Expr.Slice _ _ none _) (Value.ref _) (Value.ref _)) _ _ _); k_dflt (refine' slice_led ?F ?N ?l ?p ?q ?z ?_ ?s ?t; (case F => k_asm); (case N => k_asm); (case l => kmk_list); (case p => kmk_part); (case q => kmk_part); (case z => (walk_at "own my_len")); (case s => with_unfolding_all rfl); (case t => kmk_pure)); intro D' h' F' N' l1; (try k_lt l1)))
local macro_rules | `(tactic| walk_at "subscriptTail BinOp Slice ref ref") => `(tactic| (k_here; (with_reducible show wpAny _ _ (subscriptTail _ (PySem.Expr.Slice _ _ none _) (Value.ref _) (Value.ref _)) _ _ _); k_dflt (refine' slice_led ?F ?N ?l ?p ?q ?z ?_ ?s ?t; (case F => k_asm); (case N => k_asm); (case l => kmk_list); (case p => kmk_part); (case q => kmk_part); (case z => (walk_at "own my_len")); (case s => with_unfolding_all rfl); (case t => kmk_pure)); intro D' h' F' N' l1; (try k_lt l1)))
local macro_rules | `(tactic| walk_at "call builtin:len") => `(tactic| (k_here; (with_reducible show wpAny _ _ (call (Value.builtin _) [Value.ref _]) _ _ _); k_dflt (refine' len_led ?l ?z ?_; (case l => kmk_list); (case z => (walk_at "own my_len")); k_whole; intro _ _)))
local macro_rules | `(tactic| walk_at "compareOp Eq ref ref") => `(tactic| (k_here; (with_reducible show wpAny _ _ (compareOp CmpOp.Eq (Value.ref _) (Value.ref _)) _ _ _); k_dflt (refine' eq_texts ?a ?b ?i ?j ?oi ?oj ?u ?_; (case a => kmk_list); (case b => kmk_list); (case i => (walk_at "own texts")); (case j => (walk_at "own texts")); (case oi => (walk_at "own txoks")); (case oj => (walk_at "own txoks")); (case u => exact Nat.le_of_ble_eq_true rfl); k_whole)))
local macro_rules | `(tactic| walk_at "exec While") => `(tactic| (k_here; refine stopped ?_))
local macro_rules | `(tactic| walk_at "exec While Compare cons nil") => `(tactic| (k_here; refine stopped ?_))
open PySem.Builtin
theorem con_one_word {w mean mg mb} (a b : Addr) (us vs : List Value) (xs ys : List Str) (hx : TextsAre us xs) (hy : TextsAre vs ys) (ox : TxOk xs) (oy : TxOk ys) (hxl : us.length ≤ 15) (hyl : vs.length ≤ 15) :
    Con w mean mg mb 150 440 150 [.ref a, .ref b] (fun h => h.IsList a us.toArray ∧ h.IsList b vs.toArray)
    (fun h v h' => v = .bool (oneWord xs ys)) := by
  unfold Con
  k_fill
  w_top off
  intro cn cs ca ccd cl outer A₀ base h₀ L m s Q E B F X T hk hp hret
  obtain ⟨hA, hB⟩ := hp
  have ex := hx.len
  have ey := hy.len
  refine wpAny_call ?_
  k_dflt (((refine' con_def (binds := [(Str.ofString "u", .ref a), (Str.ofString "v", .ref b)]) ?k1 ?k2 ?k3 ?k5 ?kA ?kF ?kK ?k6 ?k7 ?k8 ?k9 ?kB ?_ ?c2 ?c3 ?c4 ?c5; (case kA => exact rfl); (case kF => exact rfl); (case kK => assumption); (case k1 => k_asm); (case k2 => k_asm); (case k3 => k_asm); (case k5 => k_asm); (case k6 => k_is); (case k7 => k_is); (case k8 => exact Nat.le_of_ble_eq_true rfl); (case k9 => exact BindsTo.of_eq rfl); (case c5 => decide); (case kB => exact locs rfl); (case c2 => exact rfl); (case c3 => exact rfl); (case c4 => exact rfl); k_whole; intro L' h' F' N' B' X' T'; (try dsimp only); (try k_fold))))
  (walk_at "own my_steps")
  unfold Stop
  rename_i t1 k1 t2 k2 D hh3 l1 hh2 hh1 hh0 F1 N1
  refine while_gen (σ := WhSt) (fun c => [(Str.ofString "size", .int c.a c.ta), (Str.ofString "other", .int c.b c.tb)])
    (fun c => ∃ p q : Nat, c.a = p ∧ c.b = q ∧ Nat.gcd p q = Nat.gcd us.length vs.length ∧ p ≤ 15 ∧ q ≤ 15) (fun c => c.b.toNat) ⟨_, _, t1, t2⟩ F1 N1 ?_ ⟨us.length, vs.length, rfl, rfl, rfl, hxl, hyl⟩ ?_
  · intro p hp
    rcases List.mem_cons.mp hp with rfl | hp
    · rfl
    · rcases List.mem_cons.mp hp with rfl | hp
      · rfl
      · cases hp
  · intro c h tk hP F N
    obtain ⟨ca', cb', ta', tb'⟩ := c
    obtain ⟨p, q, e1, e2, hg, hp15, hq15⟩ := hP
    dsimp only at e1 e2
    subst e1 e2
    dsimp only [ov] at F ⊢
    try k_fold
    (walk_at "own my_steps")
    · unfold Stop
      refine ⟨rfl, ?_⟩
      refine' wh_end ⟨q, Int.fmod p q, _, _⟩ ?kF ?kN ?ks ?kz ?kl ?kp
      case kF => assumption
      case kN => assumption
      case ks => (walk_at "own led_sub")
      case kz =>
        intro z
        dsimp only [ov]
        by_cases h1 : z = Str.ofString "size"
        · subst h1; rfl
        · by_cases h2 : z = Str.ofString "other"
          · subst h2; rfl
          · simp only [if_neg h1, if_neg h2]
      case kl =>
        have hq : 0 < q := by omega
        have := Nat.mod_lt p hq
        dsimp only
        rw [fmod_nat]
        omega
      case kp =>
        refine ⟨q, p % q, rfl, fmod_nat p q, ?_, hq15, ?_⟩
        · rw [← hg, Nat.gcd_comm q, ← Nat.gcd_rec, Nat.gcd_comm]
        · have := Nat.mod_le p q; omega
    · unfold Stop
      have hq0 : q = 0 := by omega
      subst hq0
      rw [Nat.gcd_zero_right] at hg
      have hgx : xs.length.gcd ys.length = p := by rw [← ex, ← ey]; exact hg.symm
      try dsimp only
      by_cases hp0 : p = 0
      · subst hp0
        (walk_at "own my_steps")
        (((try dsimp only); refine hret _ _ _ (Fr.keep (by assumption)) ?_))
        show Value.bool true = .bool (oneWord xs ys)
        unfold oneWord
        rw [if_pos hgx]
      · have hm1 := pick_mul (l := us ++ vs) (g := p) (n := us.length) (by omega) hxl
        have hm2 := pick_mul (l := us ++ vs) (g := p) (n := vs.length) (by omega) hyl
        have hd1 := fdiv_bound us.length p
        have hd2 := fdiv_bound vs.length p
        (walk_at "own my_steps")
        · exfalso; omega
        all_goals ((((try dsimp only); refine hret _ _ _ (Fr.keep (by assumption)) ?_)))
        all_goals (
          show Value.bool _ = .bool (oneWord xs ys)
          unfold oneWord
          rw [if_neg (by rw [hgx]; exact hp0), hgx, ← ex, ← ey])
        · rename (xs = List.flatten _) => hd
          exact congrArg Value.bool (by rw [decide_eq_true hd, Bool.true_and])
        · rename_i hd
          exact congrArg Value.bool (by rw [decide_eq_false hd]; rfl)
end Mine
end

section
open PySem PySem.W PyProof.Rows PySem.Calls
namespace Mine
local macro_rules | `(tactic| walk_at "own pad0") => `(tactic| skip)
local macro_rules | `(tactic| walk_at "own pad1") => `(tactic| skip)
local macro_rules | `(tactic| walk_at "own my_steps") => `(tactic| repeat' (first | (k_unfold; (try dsimp only)) | walk1 | (dsimp only; walk1) | (leave1; (try dsimp only)) | fail "no step"))
local macro_rules | `(tactic| walk_at "own led_sub") => `(tactic| first | exact List.forall_mem_nil _ | (refine List.forall_mem_cons.mpr ⟨?_, ?_⟩; (focus k_mem); (walk_at "own led_sub")))
local macro_rules | `(tactic| walk_at "exec For Name Name cons nil") => `(tactic| (k_here; (rename Fr _ _ _ _ => lF'); (with_unfolding_all refine' For_invVF lF' ?k1 ?k2 ?_; (case k1 => exact rfl); (case k2 => exact rfl); k_whole)))
local macro_rules | `(tactic| walk_at "binaryOp Add ref ref") => `(tactic| (k_here; (with_reducible show wpAny _ _ (binaryOp Operator.Add (Value.ref _) (Value.ref _)) _ _ _); k_dflt (refine' cat_led ?F ?N ?a ?b ?z ?_; (case F => k_asm); (case N => k_asm); (case a => kmk_list); (case b => kmk_list); (case z => (simp only [List.length_append, List.length_cons, List.length_nil]; omega)); k_whole); intro D' h' F' N' l1; (try k_lt l1)))
local macro_rules | `(tactic| walk_at "binaryOp Mult ref int") => `(tactic| (k_here; (with_reducible show wpAny _ _ (binaryOp Operator.Mult (Value.ref _) (Value.int _ _)) _ _ _); k_dflt (refine' KMa.mul ?F ?N ?l ?lo ?hi ?z ?e ?_; (case F => k_asm); (case N => k_asm); (case l => kmk_list); (case lo => omega); (case hi => omega); (case z => first | assumption | (simp only [List.length_cons, List.length_nil]; omega)); (case e => exact rfl); k_whole); intro D' h' F' N' l1; (try k_lt l1)))
local macro_rules | `(tactic| walk_at "pyIter ref") => `(tactic| (k_here; refine stopped ?_))
local macro_rules | `(tactic| walk_at "own my_len") => `(tactic| first | omega | (simp only [List.length_append, List.length_cons, List.length_nil]; omega))
local macro_rules | `(tactic| walk_at "own texts") => `(tactic| first | assumption | exact TextsAre.nil | (apply TextsAre.append <;> (walk_at "own texts")) | (apply TextsAre.pick; (walk_at "own texts")) | (apply TextsAre.rep; (walk_at "own texts")) | (apply TextsAre.cons; (walk_at "own texts")))
local macro_rules | `(tactic| walk_at "own txoks") => `(tactic| first | assumption | exact TxOk.nil | (apply TxOk.append <;> (walk_at "own txoks")) | (apply TxOk.pick; (walk_at "own txoks")) | (apply TxOk.rep; (walk_at "own txoks")))
local macro_rules | `(tactic| walk_at "subscriptTail Name Slice ref ref") => `(tactic| (k_here; (with_reducible show wpAny _ _ (subscriptTail _ (PySem.Expr.Slice _ _ none _) (Value.ref _) (Value.ref _)) _ _ _); k_dflt (refine' slice_led ?F ?N ?l ?p ?q ?z ?_ ?s ?t; (case F => k_asm); (case N => k_asm); (case l => kmk_list); (case p => kmk_part); (case q => kmk_part); (case z => (walk_at "own my_len")); (case s => with_unfolding_all rfl); (case t => kmk_pure)); intro D' h' F' N' l1; (try k_lt l1)))
local macro_rules | `(tactic| walk_at "subscriptTail BinOp Slice ref ref") => `(tactic| (k_here; (with_reducible show wpAny _ _ (subscriptTail _ (PySem.Expr.Slice _ _ none _) (Value.ref _) (Value.ref _)) _ _ _); k_dflt (refine' slice_led ?F ?N ?l ?p ?q ?z ?_ ?s ?t; (case F => k_asm); (case N => k_asm); (case l => kmk_list); (case p => kmk_part); (case q => kmk_part); (case z => (walk_at "own my_len")); (case s => with_unfolding_all rfl); (case t => kmk_pure)); intro D' h' F' N' l1; (try k_lt l1)))
local macro_rules | `(tactic| walk_at "call builtin:len") => `(tactic| (k_here; (with_reducible show wpAny _ _ (call (Value.builtin _) [Value.ref _]) _ _ _); k_dflt (refine' len_led ?l ?z ?_; (case l => kmk_list); (case z => (walk_at "own my_len")); k_whole; intro _ _)))
local macro_rules | `(tactic| walk_at "compareOp Eq ref ref") => `(tactic| (k_here; (with_reducible show wpAny _ _ (compareOp CmpOp.Eq (Value.ref _) (Value.ref _)) _ _ _); k_dflt (refine' eq_texts ?a ?b ?i ?j ?oi ?oj ?u ?_; (case a => kmk_list); (case b => kmk_list); (case i => (walk_at "own texts")); (case j => (walk_at "own texts")); (case oi => (walk_at "own txoks")); (case oj => (walk_at "own txoks")); (case u => exact Nat.le_of_ble_eq_true rfl); k_whole)))
local macro_rules | `(tactic| walk_at "exec While") => `(tactic| (k_here; refine stopped ?_))
local macro_rules | `(tactic| walk_at "exec While Compare cons nil") => `(tactic| (k_here; refine stopped ?_))
open PySem.Builtin
def keepsL (xs : List Str) (b : Int) (ys : List Str) : Bool :=
  if b ≤ xs.length then decide ((ys.length : Int) = b) && decide (pickL xs (some (xs.length - b)) none = ys) else decide (ys = xs)
theorem con_keeps {w mean mg mb} (p W y : Addr) (b : Int) (tb : Tok) (us vs : List Value) (xs ys : List Str) (hx : TextsAre us xs) (hy : TextsAre vs ys) (ox : TxOk xs) (oy : TxOk ys) (hxl : us.length ≤ 15) (hyl : vs.length ≤ 15) :
    Con w mean mg mb 157 440 150 [.ref p, .ref W] (fun h => h.IsList p us.toArray ∧ IsTup h W #[.int b tb, .ref y] ∧ h.IsList y vs.toArray)
    (fun h v h' => v = .bool (keepsL xs b ys)) := by
  unfold Con
  k_fill
  w_top off
  intro cn cs ca ccd cl outer A₀ base h₀ L m s Q E B F X T hk hp hret
  obtain ⟨hA, hW, hB⟩ := hp
  have ex := hx.len
  have ey := hy.len
  refine wpAny_call ?_
  k_dflt (((refine' con_def (binds := [(Str.ofString "place", .ref p), (Str.ofString "walk", .ref W)]) ?k1 ?k2 ?k3 ?k5 ?kA ?kF ?kK ?k6 ?k7 ?k8 ?k9 ?kB ?_ ?c2 ?c3 ?c4 ?c5; (case kA => exact rfl); (case kF => exact rfl); (case kK => assumption); (case k1 => k_asm); (case k2 => k_asm); (case k3 => k_asm); (case k5 => k_asm); (case k6 => k_is); (case k7 => k_is); (case k8 => exact Nat.le_of_ble_eq_true rfl); (case k9 => exact BindsTo.of_eq rfl); (case c5 => decide); (case kB => exact locs rfl); (case c2 => exact rfl); (case c3 => exact rfl); (case c4 => exact rfl); k_whole; intro L' h' F' N' B' X' T'; (try dsimp only); (try k_fold))))
  (walk_at "own my_steps")
  all_goals (((try dsimp only); refine hret _ _ _ (Fr.keep (by assumption)) ?_))
  all_goals (refine congrArg Value.bool ?_; unfold keepsL; rw [← ex, ← ey])
  · rw [if_pos (by omega), decide_eq_true (p := (vs.length : Int) = b) (by omega), Bool.true_and]
  · rw [if_pos (by omega), decide_eq_false (p := (vs.length : Int) = b) (by omega), Bool.false_and]
    exact beq_false_of_ne (by omega)
  · rw [if_neg (by omega)]
def dueL (a : Int) (xs : List Str) (b : Int) (ys : List Str) : Bool :=
  if a < 0 ∨ b < 0 then (if a < 0 ∧ b < 0 then decide (xs = ys) else if a < 0 then keepsL xs b ys else keepsL ys a xs)
  else if b ≤ xs.length ∧ a ≤ ys.length then decide (a = b) && (decide (pickL xs (some (xs.length - a)) none = pickL ys (some (ys.length - a)) none) && oneWord (pickL xs none (some (xs.length - a))) (pickL ys none (some (ys.length - a))))
  else if b > xs.length ∧ a > ys.length then decide (xs = ys)
  else if a > ys.length then decide (b = ys.length) && decide (pickL xs (some (xs.length - b)) none = ys)
  else decide (a = xs.length) && decide (pickL ys (some (ys.length - a)) none = xs)
local macro_rules | `(tactic| walk_at "own my_tup") => `(tactic| first | assumption | exact News.isTup (by k_asm) (by k_mem) | exact Fr.tup (by k_asm) (by assumption))
local macro_rules | `(tactic| walk_at "call ref") => `(tactic| (k_here; (with_reducible show wpAny _ _ (call (Value.ref 157) [Value.ref _, Value.ref _]) _ _ _); k_dflt (((refine' Con.use (con_keeps _ _ _ _ _ _ _ _ _ ?qa ?qb ?qc ?qd ?qe ?qf) ?kb ?kf ?kx ?kn ?kt ?kd ?ku ?kh ?ka ?kk ?kp ?_; (case kb => k_asm); (case kf => k_asm); (case kx => k_asm); (case kn => k_asm); (case kt => k_asm); (case kd => exact Nat.le_of_ble_eq_true rfl); (case ku => exact Nat.le_of_ble_eq_true rfl); (case kh => exact rfl); (case ka => exact rfl); (case kk => first | exact rfl | assumption))); (case kp => exact ⟨by kmk_list, by (walk_at "own my_tup"), by kmk_list⟩); (case qa => assumption); (case qb => assumption); (case qc => assumption); (case qd => assumption); (case qe => assumption); (case qf => assumption); k_whole; intro v9 h9 tk9 F9 N9 K9 P9; subst P9; (try dsimp only); (try k_fold))))
local macro_rules | `(tactic| walk_at "call ref") => `(tactic| (k_here; (with_reducible show wpAny _ _ (call (Value.ref 150) [Value.ref _, Value.ref _]) _ _ _); refine stopped ?_))
theorem con_due {w mean mg mb} (U V x y : Addr) (a b : Int) (ta tb : Tok) (us vs : List Value) (xs ys : List Str) (hx : TextsAre us xs) (hy : TextsAre vs ys) (ox : TxOk xs) (oy : TxOk ys) (hxl : us.length ≤ 15) (hyl : vs.length ≤ 15) :
    Con w mean mg mb 164 430 100 [.ref U, .ref V] (fun h => (IsTup h U #[.int a ta, .ref x] ∧ h.IsList x us.toArray) ∧ IsTup h V #[.int b tb, .ref y] ∧ h.IsList y vs.toArray)
    (fun h v h' => v = .bool (dueL a xs b ys)) := by
  unfold Con
  k_fill
  w_top off
  intro cn cs ca ccd cl outer A₀ base h₀ L m s Q E B F X T hk hp hret
  obtain ⟨⟨hU, hA⟩, hV, hB⟩ := hp
  have ex := hx.len
  have ey := hy.len
  refine wpAny_call ?_
  k_dflt (((refine' con_def (binds := [(Str.ofString "first", .ref U), (Str.ofString "second", .ref V)]) ?k1 ?k2 ?k3 ?k5 ?kA ?kF ?kK ?k6 ?k7 ?k8 ?k9 ?kB ?_ ?c2 ?c3 ?c4 ?c5; (case kA => exact rfl); (case kF => exact rfl); (case kK => assumption); (case k1 => k_asm); (case k2 => k_asm); (case k3 => k_asm); (case k5 => k_asm); (case k6 => k_is); (case k7 => k_is); (case k8 => exact Nat.le_of_ble_eq_true rfl); (case k9 => exact BindsTo.of_eq rfl); (case c5 => decide); (case kB => exact locs rfl); (case c2 => exact rfl); (case c3 => exact rfl); (case c4 => exact rfl); k_whole; intro L' h' F' N' B' X' T'; (try dsimp only); (try k_fold))))
  (walk_at "own my_steps")
  all_goals (try (((try dsimp only); refine hret _ _ _ (Fr.keep (by assumption)) ?_)))
  all_goals try (refine congrArg Value.bool ?_; unfold dueL; rw [← ex, ← ey])
  rotate_left 3
  · unfold Stop
    k_dflt (((refine' Con.use (con_one_word _ _ _ _ _ _ (hx.pick none (some (us.length - a))) (hy.pick none (some (vs.length - a))) (ox.pick _ _) (oy.pick _ _) (Nat.le_trans (pick_len _ _ _) hxl) (Nat.le_trans (pick_len _ _ _) hyl)) ?kb ?kf ?kx ?kn ?kt ?kd ?ku ?kh ?ka ?kk ?kp ?_; (case kb => k_asm); (case kf => k_asm); (case kx => k_asm); (case kn => k_asm); (case kt => k_asm); (case kd => exact Nat.le_of_ble_eq_true rfl); (case ku => exact Nat.le_of_ble_eq_true rfl); (case kh => exact rfl); (case ka => exact rfl); (case kk => first | exact rfl | assumption))))
    case kp => exact ⟨by kmk_list, by kmk_list⟩
    k_whole
    intro v9 h9 tk9 F9 N9 K9 P9
    subst P9
    (try dsimp only)
    (try k_fold)
    (walk_at "own my_steps")
    all_goals (try (((try dsimp only); refine hret _ _ _ (Fr.keep (by assumption)) ?_)))
    all_goals try (refine congrArg Value.bool ?_; unfold dueL; rw [← ex, ← ey])
    · rename (pickL _ _ _ = pickL _ _ _) => hd
      rw [if_neg (by omega), if_pos (by omega), decide_eq_true (p := a = b) (by omega), decide_eq_true hd, Bool.true_and, Bool.true_and]
  all_goals (first
    | (rw [if_pos (by omega), if_pos (by omega)]; done)
    | (rw [if_pos (by omega), if_neg (by omega), if_pos (by omega)]; done)
    | (rw [if_pos (by omega), if_neg (by omega), if_neg (by omega)]; done)
    | (rename (¬ pickL _ _ _ = pickL _ _ _) => hd; rw [if_neg (by omega), if_pos (by omega), decide_eq_true (p := a = b) (by omega), decide_eq_false hd]; rfl)
    | (rw [if_neg (by omega), if_pos (by omega), decide_eq_false (p := a = b) (by omega), Bool.false_and]; exact beq_false_of_ne (by omega))
    | (rw [if_neg (by omega), if_neg (by omega), if_pos (by omega)]; done)
    | (rw [if_neg (by omega), if_neg (by omega), if_neg (by omega), if_pos (by omega), decide_eq_true (p := b = (vs.length : Int)) (by omega), Bool.true_and]; done)
    | (rw [if_neg (by omega), if_neg (by omega), if_neg (by omega), if_pos (by omega), decide_eq_false (p := b = (vs.length : Int)) (by omega), Bool.false_and]; exact beq_false_of_ne (by omega))
    | (rw [if_neg (by omega), if_neg (by omega), if_neg (by omega), if_neg (by omega), decide_eq_true (p := a = (us.length : Int)) (by omega), Bool.true_and]; done)
    | (rw [if_neg (by omega), if_neg (by omega), if_neg (by omega), if_neg (by omega), decide_eq_false (p := a = (us.length : Int)) (by omega), Bool.false_and]; exact beq_false_of_ne (by omega)))
end Mine
end

section
open PySem PySem.W PyProof.Rows PySem.Calls
namespace Mine

section
variable {prog : Program} {w : World} {A : Around} {E : Value → Shared → Prop} {s : Shared} {env : Env} {h₀ : Heap} {x : Str} {body : List Stmt} {Q : Flow → Shared → Prop} {σ : Type}

def TurnEndM (h₀ : Heap) (L : Addr) (x : Str) (Led : σ → List (Addr × Obj)) (cst : List (Addr × Obj)) (M : σ → Str → Option Value) (P : σ → Prop) (I : Addr) (oI : Obj) (s₁ s₂ : Shared) : Prop :=
  ∃ c' h' tk' m', s₂ = { s₁ with heap := h', toks := tk' } ∧ Fr h₀ L h' m' ∧ News h₀ L h' (Led c' ++ (cst ++ [(I, oI)])) ∧ (∀ p ∈ Led c' ++ cst, p.1 ≠ I) ∧ (∀ z, z ≠ x → m' z = M c' z) ∧ P c'
def TurnPostM (h₀ : Heap) (L : Addr) (x : Str) (Led : σ → List (Addr × Obj)) (cst : List (Addr × Obj)) (M : σ → Str → Option Value) (P : σ → Prop) (I : Addr) (oI : Obj) (s₁ : Shared) (Q : Flow → Shared → Prop) (f : Flow) (s₂ : Shared) : Prop :=
  match f with
  | .ret v => Q (.ret v) s₂
  | .brk => Q .next s₂
  | _ => TurnEndM h₀ L x Led cst M P I oI s₁ s₂

theorem range_gen {r : Addr} {a₀ b₀ : Int} {t₀ u₀ v₀ : Tok} {n : Nat} {cst : List (Addr × Obj)} (Led : σ → List (Addr × Obj)) (M : σ → Str → Option Value) (P : Nat → σ → Prop) (c₀ : σ)
    (hh : A.handled = none) (hr : IsRange s.heap r a₀ b₀ 1 t₀ u₀ v₀) (hsmall : Builtin.Range.small a₀ b₀ 1 = true) (hn : Builtin.Range.rangeSize a₀ b₀ 1 = (n : Int))
    (F : Fr h₀ env.locals s.heap (M c₀)) (N : News h₀ env.locals s.heap (Led c₀ ++ cst)) (hP : P 0 c₀)
    (turn : ∀ i t c h tk I oI, i < n → P i c → (∀ p ∈ Led c ++ cst, p.1 ≠ I) → Fr h₀ env.locals h (fun y => if y = x then some (.int (a₀ + (i : Nat)) t) else M c y) → News h₀ env.locals h (Led c ++ (cst ++ [(I, oI)])) →
      wpAny (model prog w) A (execs body env) (fun f s₂ => Stop (TurnPostM h₀ env.locals x Led cst M (P (i + 1)) I oI { s with heap := h, toks := tk } Q f s₂)) E { s with heap := h, toks := tk })
    (done : ∀ c h tk u, P n c → Fr h₀ env.locals h (fun y => if y = x then u else M c y) → News h₀ env.locals h (Led c ++ cst) → Q .next { s with heap := h, toks := tk }) :
    wpAny (model prog w) A (pyIter (.ref r)) (fun it s₂ => LoopAtV prog w A h₀ env x body Q E it s₂) E s := by
  have hI0 : h₀.get? s.heap.objs.size = none := next_is_new F
  refine wpAny_pyIter_range hr hsmall ?_
  have W := Walks.range (prog := prog) (w := w) hh s.heap.objs.size a₀ 1 n
  refine ⟨_, _, _, n, _, _, M c₀, Led c₀ ++ cst, (fun i m nx => ∃ c, nx = Led c ++ cst ∧ (∀ z, z ≠ x → m z = M c z) ∧ P i c), rfl, W, ?_, ?_, ?_,
    (by show IsRangeIter _ _ _ _ _; rw [hn]; simpa using Heap.get?_push_size _ rfl), F.push _, (fun p hp => ⟨Heap.get?_push_of_some _ (N p hp).1, (N p hp).2⟩), ⟨c₀, rfl, fun _ _ => rfl, hP⟩, ?_, ?_⟩
  · intro hm
    exact Nat.lt_irrefl _ ((List.mem_singleton.mp hm) ▸ F.ns.lt)
  · intro b hb
    rw [List.mem_singleton.mp hb]; exact hI0
  · intro p hp hI
    exact Nat.lt_irrefl _ ((List.mem_singleton.mp hI) ▸ Heap.lt_size (N p hp).1)
  · rintro i v m₁ news₁ s₁ own ⟨hh', tk', rfl⟩ hi ⟨t, rfl⟩ ⟨c, rfl, hz, hp⟩ hoff hown hget hfp hst F₁ N₁
    obtain ⟨oI, hoI⟩ : ∃ oI, hh'.get? s.heap.objs.size = some oI := ⟨_, hst⟩
    have hIown := hfp s.heap.objs.size (.head _) hI0 _ hoI
    have hneI : ∀ p ∈ Led c ++ cst, p.1 ≠ s.heap.objs.size := fun p hp e => hoff p hp (e ▸ .head _)
    have N₂ : News h₀ env.locals hh' (Led c ++ (cst ++ [(s.heap.objs.size, oI)])) := by
      intro p hp
      rw [← List.append_assoc] at hp
      rcases List.mem_append.mp hp with hp | hp
      · exact N₁ p (List.mem_append_right _ hp)
      · rw [List.mem_singleton.mp hp]; exact N₁ _ (List.mem_append_left _ hIown)
    have F₂ : Fr h₀ env.locals hh' (fun y => if y = x then some (.int (a₀ + (i : Nat)) t) else M c y) := by
      refine Mine.Fr.cong F₁ fun z => ?_
      by_cases e : z = x
      · simp [e]
      · simp only [if_neg e]; exact hz z e
    refine wpAny_mono (turn i t c hh' tk' _ oI hi hp hneI F₂ N₂) (fun f s₂ p => ?_) fun _ _ e => e
    have fin : TurnEndM h₀ env.locals x Led cst M (P (i + 1)) s.heap.objs.size oI { s with heap := hh', toks := tk' } s₂ → LoopStepU h₀ env.locals [s.heap.objs.size] own (fun m nx => ∃ c, nx = Led c ++ cst ∧ (∀ z, z ≠ x → m z = M c z) ∧ P (i + 1) c) { s with heap := hh', toks := tk' } .next s₂ := by
      rintro ⟨c', h', tk'', m', e, F', N', hne', hz', hp'⟩
      refine ⟨rfl, h', tk'', m', Led c' ++ cst, e, F', fun p hp => ?_, fun p hp hq => hne' p hp (List.mem_singleton.mp hq), c', rfl, hz', hp'⟩
      rcases List.mem_append.mp hp with hp | hp
      · have g1 : hh'.get? p.1 = some p.2 := hget p hp
        have e1 := List.mem_singleton.mp (hown p hp)
        have e2 : p = (s.heap.objs.size, oI) := by
          rw [e1] at g1
          exact Prod.ext e1 (Option.some.inj (g1.symm.trans hoI))
        rw [e2]
        exact N' _ (List.mem_append_right _ (List.mem_append_right _ (.head _)))
      · refine N' p ?_
        rw [← List.append_assoc]
        exact List.mem_append_left _ hp
    cases f with
    | ret v => exact .ret p
    | brk => exact .brk p
    | next => exact .next (fin p)
    | cont => exact .cont (fin p)
  · rintro h' tk m' news' F' N' _ ⟨c, rfl, hz, hp⟩
    refine done c h' tk (m' x) hp (Mine.Fr.cong F' fun z => ?_) N'
    by_cases e : z = x
    · simp [e]
    · simp only [if_neg e]; exact hz z e

theorem turn_finM {m' : Str → Option Value} {cst : List (Addr × Obj)} {Led : σ → List (Addr × Obj)} {M : σ → Str → Option Value} {P : σ → Prop} {I : Addr} {oI : Obj} {h' : Heap} {L : Addr} {tk : Nat} {s₁ : Shared} {news' : List (Addr × Obj)} (c : σ)
    (F : Fr h₀ L h' m') (N : News h₀ L h' news') (hs : ∀ p ∈ Led c ++ (cst ++ [(I, oI)]), p ∈ news') (hne : ∀ p ∈ Led c ++ cst, p.1 ≠ I) (hz : ∀ z, z ≠ x → m' z = M c z) (hp : P c) :
    TurnEndM h₀ L x Led cst M P I oI s₁ { s₁ with heap := h', toks := tk } := ⟨c, h', tk, m', rfl, F, fun p hp => N p (hs p hp), hne, hz, hp⟩
end

section
variable {prog : Program} {w : World} {A : Around} {h₀ : Heap} {L : Addr} {m : Str → Option Value} {env : Env} {elt : PySem.Expr} {x : Str} {scope : Scope} {cl : List (Str × Addr)} {s : Shared} {S : List (Addr × Obj) → Prop} {Fin : List Value → List (Addr × Obj) → Prop} {news : List (Addr × Obj)}
/-- a comprehension over a list of ints, whose element is a text by a function -/
theorem comp_texts {vs : List Value} {ns : List Int} (g : Int → Str) (n₉ : Nat) (hi : IntsAre vs ns) (hS : S news) (hn : vs.length ≤ n₉)
    (turn : ∀ k t I oI C oC D m₂ ys h tk (E' : Value → Shared → Prop), LCg.NsObj oC m₂ → m₂ x = some (.int k t) → Fr h₀ L h m → News h₀ L h ((I, oI) :: (C, oC) :: (D, LCg.lst ys) :: news) → LCg.Off3 I C D news → ((@Ne Nat I C) ∧ (@Ne Nat I D) ∧ (@Ne Nat C D)) →
      wpAny (model prog w) A (eval elt (compEnvC scope cl C env)) (fun y s' => Stop (∃ h' tk' t', s' = { s with heap := h', toks := tk' } ∧ Fr h₀ L h' m ∧ News h₀ L h' ((I, oI) :: (C, oC) :: (D, LCg.lst ys) :: news) ∧ y = .str (g k) t')) E' { s with heap := h, toks := tk })
    (fin : ∀ ys, TextsAre ys (ns.map g) → ys.length ≤ n₉ → Fin ys news) : LCg.CompRest prog w A h₀ L m env elt x scope cl s S (fun i v => vs.toArray[i]? = some v) Fin vs.toArray.size 0 [] news := by
  rw [List.size_toArray]
  have key : ∀ (j i : Nat) (ys : List Value), i + j = vs.length → TextsAre ys ((ns.take i).map g) → LCg.CompRest prog w A h₀ L m env elt x scope cl s S (fun i v => vs.toArray[i]? = some v) Fin j i ys news := by
    intro j
    induction j with
    | zero =>
      intro i ys hi' hy
      have e : i = ns.length := by rw [← hi.length]; omega
      subst e
      rw [List.take_length] at hy
      exact LCg.CompRest.zero (fin ys hy (by rw [hy.len, List.length_map, ← hi.length]; exact hn))
    | succ j ih =>
      intro i ys hi' hy
      refine LCg.CompRest.succ ?_
      intro v I oI C oC D m₂ h tk E' hv hC hx F N off ne
      obtain ⟨k, t, hk, hv'⟩ := IntsAre.at hi i v (by simpa using hv)
      rw [hk] at hx
      refine wpAny_mono (turn k t I oI C oC D m₂ ys h tk E' hC hx F N off ne) (fun y s₂ hq => ?_) fun _ _ e => e
      obtain ⟨h', tk', t', e, F', N', hy'⟩ := hq
      refine ⟨h', tk', news, e, F', N', off, hS, ?_⟩
      rw [hy']
      refine ih (i + 1) _ (by omega) ?_
      rw [List.take_add_one, hv']
      have := hy.add (g k) t'
      simpa using this
  exact key vs.length 0 [] (by omega) (by simpa using TextsAre.nil)
end

section
variable {prog : Program} {w : World} {A : Around} {E : Value → Shared → Prop} {s : Shared}
theorem item_val {value slice : PySem.Expr} {l : Addr} {vs : List Value} {k : Int} {u : Tok} {v : Value} {Q : Value → Shared → Prop} (hl : s.heap.IsList l vs.toArray) (hv : vs[k.toNat]? = some v)
    (h0 : 0 ≤ k) (hfit : k < 2 ^ 63) (h : Q v s)
    (hs : subscripted slice false (.ref l) (.int k u) = operate [.ref l, .int k u] (getItem (.ref l) (.int k u)) := by with_unfolding_all rfl) :
    wpAny (model prog w) A (subscriptTail value slice (.ref l) (.int k u)) Q E s :=
  tail_any hl.typeIs slot_list_getitem.lookup (wpAny_getItem_list hl h0 hfit (by simpa using hv) h) hs
end
end Mine
end

section
open PySem PySem.W PyProof.Rows PySem.Calls
namespace Mine
/-- a walk of the law's, in a ledger -/
def WalkAt (cst : List (Addr × Obj)) (v : Value) (u : Int) (nm : List Str) : Prop :=
  ∃ W l t us n, v = .ref W ∧ (W, ({ cls := .type "tuple", data := .seq #[.int u t, .ref l] } : Obj)) ∈ cst ∧ (l, listOf us.toArray n) ∈ cst ∧ TextsAre us nm ∧ us.length ≤ 10
def WalksIn (cst : List (Addr × Obj)) : List Value → List (Int × List Str) → Prop
  | [], [] => True
  | v :: vs, w :: ws => WalkAt cst v w.1 w.2 ∧ WalksIn cst vs ws
  | _, _ => False
theorem WalksIn.len {cst : List (Addr × Obj)} : ∀ {vs : List Value} {ws : List (Int × List Str)}, WalksIn cst vs ws → vs.length = ws.length
  | [], [], _ => rfl
  | _ :: _, _ :: _, h => congrArg (· + 1) (WalksIn.len h.2)
  | [], _ :: _, h => h.elim
  | _ :: _, [], h => h.elim
theorem WalksIn.at {cst : List (Addr × Obj)} : ∀ {vs : List Value} {ws : List (Int × List Str)}, WalksIn cst vs ws → ∀ i (hi : i < ws.length), ∃ v, vs[i]? = some v ∧ WalkAt cst v ws[i].1 ws[i].2
  | [], [], _, _, hi => absurd hi (Nat.not_lt_zero _)
  | v :: _, _ :: _, h, 0, _ => ⟨v, rfl, h.1⟩
  | _ :: _, _ :: _, h, i + 1, hi => WalksIn.at h.2 i (Nat.lt_of_succ_lt_succ hi)
  | [], _ :: _, h, _, _ => h.elim
  | _ :: _, [], h, _, _ => h.elim
def wordL (ns : List Int) : List Str := (List.take (Min.min (3 + (ns.getD 0 0).fmod 3).toNat ns.length - 2) (List.drop 2 ns)).map nameS
def tailL (ns : List Int) : List Str := (List.take (Min.min (5 + (ns.getD 1 0).fmod 3).toNat ns.length - 5) (List.drop 5 ns)).map nameS
def moreL (ns : List Int) : List Str := (List.take (Min.min (8 + ((ns.getD 7 0).fdiv 3).fmod 4).toNat ns.length - 8) (List.drop 8 ns)).map nameS
def walksS (ns : List Int) : List (Int × List Str) :=
  [((ns.getD 1 0).fmod 3, tailL ns), ((ns.getD 1 0).fmod 3, wordL ns ++ tailL ns), ((ns.getD 1 0).fmod 3, wordL ns ++ wordL ns ++ tailL ns),
   ((ns.getD 1 0).fmod 3, pickL (wordL ns ++ tailL ns) none (some (-1)) ++ [Str.ofString "zz"]),
   (((wordL ns ++ tailL ns).length : Nat) + 1, wordL ns ++ tailL ns), (((wordL ns ++ tailL ns).length : Nat) + 1 + 1 + (ns.getD 6 0).fmod 2, wordL ns ++ tailL ns),
   ((ns.getD 7 0).fmod 3, moreL ns), (-1, wordL ns ++ tailL ns), (-1, tailL ns), ((ns.getD 9 0).fmod 3, [])]
theorem fr_three {h₀ h : Heap} {L : Addr} {m : Str → Option Value} (F : Fr h₀ L h m) {x1 x2 x3 : Str} {v1 v2 v3 : Value} (e1 : m x1 = some v1) (e2 : m x2 = some v2) (e3 : m x3 = some v3) :
    Fr h₀ L h (fun y => if y = x1 then some v1 else if y = x2 then some v2 else if y = x3 then some v3 else m y) := by
  refine Mine.Fr.cong F fun z => ?_
  by_cases h1 : z = x1
  · subst h1; simp [e1]
  · by_cases h2 : z = x2
    · subst h2; simp [h1, e2]
    · by_cases h3 : z = x3
      · subst h3; simp [h1, h2, e3]
      · simp [h1, h2, h3]
theorem news_more {h₀ h : Heap} {L : Addr} {all : List (Addr × Obj)} {p q : Addr × Obj} (N : News h₀ L h all) (hp : p ∈ all) (hq : q ∈ all) : News h₀ L h (p :: q :: all) := by
  intro r hr
  rcases List.mem_cons.mp hr with rfl | hr
  · exact N _ hp
  · rcases List.mem_cons.mp hr with rfl | hr
    · exact N _ hq
    · exact N _ hr
end Mine
end

section
open PySem PySem.W PyProof.Rows PySem.Calls
namespace Mine
def spelled (ns : List Int) (i : Nat) : Str := spellS ((walksS ns).getD i (0, [])).1 ((walksS ns).getD i (0, [])).2 ((ns.getD i 0).fdiv 5)
def textV (b : Bool) (x : Str) (t : Tok) : Value := match b with | true => .bytes (latin x) t | false => .str x t
def TextAt (b : Bool) (v : Value) (x : Str) : Prop := ∃ t, v = textV b x t
structure LpSt where
  us : List Value
  k : Nat
  u : Option Value
def TextsOf (b : Bool) (ns : List Int) (us : List Value) : Prop := ∀ j v, us[j]? = some v → TextAt b v (spelled ns j)
theorem TextsOf.nil {b : Bool} {ns : List Int} : TextsOf b ns [] := fun j v h => by simp at h
theorem TextsOf.add {b : Bool} {ns : List Int} {us : List Value} {v : Value} (h : TextsOf b ns us) (hv : TextAt b v (spelled ns us.length)) : TextsOf b ns (us ++ [v]) := by
  intro j w hj
  rcases Nat.lt_trichotomy j us.length with hlt | he | hgt
  · rw [List.getElem?_append_left hlt] at hj
    exact h j w hj
  · subst he
    rw [List.getElem?_concat_length] at hj
    rw [← Option.some.inj hj]; exact hv
  · rw [List.getElem?_eq_none (by simp; omega)] at hj
    cases hj
theorem getm_enc {M : Model} {A : Around} {E : Value → Shared → Prop} {s : Shared} {x : Str} {t : Tok} {pl : Sem Bool} {Q : Value × List Value → Shared → Prop} (h : Q (.builtin "str.encode", [.str x t]) s) : wpAny M A (getMethod (.str x t) (Str.ofString "encode") pl) Q E s := by
  with_reducible exact GM.of (.str x t) (typeIs_str _ _ _) PySem.F.slot_str_encode PySem.F.type_str_encode GM.noRef h
theorem WalksIn.getD {cst : List (Addr × Obj)} {vs : List Value} {ws : List (Int × List Str)} (h : WalksIn cst vs ws) (i : Nat) (hi : i < ws.length) : ∃ v, vs[i]? = some v ∧ WalkAt cst v (ws.getD i (0, [])).1 (ws.getD i (0, [])).2 := by
  obtain ⟨v, h1, h2⟩ := h.at i hi
  have e : ws.getD i (0, []) = ws[i] := by simp [List.getD, hi]
  rw [e]
  exact ⟨v, h1, h2⟩
end Mine
end

section
open PySem PySem.W PyProof.Rows PySem.Calls
namespace Mine
structure CtSt where
  n : Int
  t : Tok
  u : Str → Option Value
def mapC (Dt Dw : Addr) (c : CtSt) : Str → Option Value := fun y => if y = Str.ofString "both" then some (.int c.n c.t) else if y = Str.ofString "texts" then some (.ref Dt) else if y = Str.ofString "walks" then some (.ref Dw) else c.u y
def eqP (ns : List Int) (i j : Nat) : Bool := normS (joinS (spelled ns i) (spelled ns j)) == normS (joinS (spelled ns j) (spelled ns i))
def innerN (f : Nat → Nat → Bool) (i : Nat) : Nat → Int
  | 0 => 0
  | j + 1 => innerN f i j + if f i (i + 1 + j) = true then 1 else 0
def totalN (f : Nat → Nat → Bool) : Nat → Int
  | 0 => 0
  | i + 1 => totalN f i + innerN f i (9 - i)
theorem mapC_self {Dt Dw : Addr} {m : Str → Option Value} {n : Int} {t : Tok} (hb : m (Str.ofString "both") = some (.int n t)) (ht : m (Str.ofString "texts") = some (.ref Dt)) (hw : m (Str.ofString "walks") = some (.ref Dw)) (z : Str) : m z = mapC Dt Dw ⟨n, t, m⟩ z := by
  unfold mapC
  by_cases h1 : z = Str.ofString "both"
  · rw [if_pos h1, h1, hb]
  · by_cases h2 : z = Str.ofString "texts"
    · rw [if_neg h1, if_pos h2, h2, ht]
    · by_cases h3 : z = Str.ofString "walks"
      · rw [if_neg h1, if_neg h2, if_pos h3, h3, hw]
      · rw [if_neg h1, if_neg h2, if_neg h3]
theorem mapC_i {Dt Dw : Addr} {m : Str → Option Value} {n : Int} {t : Tok} {v : Value} (hi : m (Str.ofString "i") = some v) (hb : m (Str.ofString "both") = some (.int n t)) (ht : m (Str.ofString "texts") = some (.ref Dt)) (hw : m (Str.ofString "walks") = some (.ref Dw)) (z : Str) :
    m z = if z = Str.ofString "i" then some v else mapC Dt Dw ⟨n, t, m⟩ z := by
  by_cases h1 : z = Str.ofString "i"
  · rw [if_pos h1, h1, hi]
  · rw [if_neg h1]; exact mapC_self hb ht hw z
theorem turn_finI {h₀ h' : Heap} {L : Addr} {x : Str} {m' : Str → Option Value} {cst : List (Addr × Obj)} {P : CtSt → Prop} {I : Addr} {oI : Obj} {tk : Nat} {s₁ : Shared} {news' : List (Addr × Obj)} {Dt Dw : Addr} {v : Value} {n : Int} {t : Tok}
    (F : Fr h₀ L h' m') (N : News h₀ L h' news') (hs : ∀ p ∈ cst ++ [(I, oI)], p ∈ news') (hne : ∀ p ∈ cst, p.1 ≠ I)
    (hi : m' (Str.ofString "i") = some v) (hb : m' (Str.ofString "both") = some (.int n t)) (ht : m' (Str.ofString "texts") = some (.ref Dt)) (hw : m' (Str.ofString "walks") = some (.ref Dw)) (hp : P ⟨n, t, m'⟩) :
    TurnEndM h₀ L x (fun _ => []) cst (fun c => fun y => if y = Str.ofString "i" then some v else mapC Dt Dw c y) P I oI s₁ { s₁ with heap := h', toks := tk } :=
  turn_finM ⟨n, t, m'⟩ F N hs hne (fun z _ => mapC_i hi hb ht hw z) hp
theorem turn_finO {h₀ h' : Heap} {L : Addr} {x : Str} {m' : Str → Option Value} {cst : List (Addr × Obj)} {P : CtSt → Prop} {I : Addr} {oI : Obj} {tk : Nat} {s₁ : Shared} {news' : List (Addr × Obj)} {Dt Dw : Addr} {n : Int} {t : Tok}
    (F : Fr h₀ L h' m') (N : News h₀ L h' news') (hs : ∀ p ∈ cst ++ [(I, oI)], p ∈ news') (hne : ∀ p ∈ cst, p.1 ≠ I)
    (hb : m' (Str.ofString "both") = some (.int n t)) (ht : m' (Str.ofString "texts") = some (.ref Dt)) (hw : m' (Str.ofString "walks") = some (.ref Dw)) (hp : P ⟨n, t, m'⟩) :
    TurnEndM h₀ L x (fun _ => []) cst (mapC Dt Dw) P I oI s₁ { s₁ with heap := h', toks := tk } :=
  turn_finM ⟨n, t, m'⟩ F N hs hne (fun z _ => mapC_self hb ht hw z) hp
theorem rng_ok : ∀ i, i < 10 → Builtin.Range.small (0 + ((i : Nat) : Int) + 1) ((10 : Nat) : Int) 1 = true ∧ Builtin.Range.rangeSize (0 + ((i : Nat) : Int) + 1) ((10 : Nat) : Int) 1 = ((9 - i : Nat) : Int) := by decide
end Mine
end

section
namespace Mine
section
variable {α : Type} [DecidableEq α] {sl dot : α}

def splitG (sl : α) : List α → List (List α)
  | [] => [[]]
  | c :: r => if c = sl then [] :: splitG sl r else match splitG sl r with
    | [] => [[c]]
    | p :: ps => (c :: p) :: ps
theorem splitG_ne : ∀ l : List α, splitG sl l ≠ []
  | [] => by simp [splitG]
  | c :: r => by
    unfold splitG
    split
    · simp
    · split <;> simp
theorem splitG_append : ∀ (p r : List α), splitG sl (p ++ sl :: r) = splitG sl p ++ splitG sl r
  | [], r => by simp [splitG]
  | c :: p, r => by
    have ih := splitG_append p r
    by_cases e : c = sl
    · simp only [List.cons_append, splitG, if_pos e, ih]
    · simp only [List.cons_append, splitG, if_neg e, ih]
      cases h : splitG sl p with
      | nil => exact absurd h (splitG_ne p)
      | cons q qs => simp
theorem splitG_free : ∀ {p : List α}, sl ∉ p → splitG sl p = [p]
  | [], _ => rfl
  | c :: p, h => by
    have h1 : c ≠ sl := fun e => h (e ▸ List.mem_cons_self)
    have h2 : sl ∉ p := fun e => h (List.mem_cons_of_mem _ e)
    simp only [splitG, if_neg h1, splitG_free h2]
theorem joinL_cons (s : List α) (x y : List α) (r : List (List α)) : joinL s (x :: y :: r) = x ++ (s ++ joinL s (y :: r)) := by
  simp [joinL]
theorem splitG_join : ∀ {ps : List (List α)}, ps ≠ [] → (∀ p ∈ ps, sl ∉ p) → splitG sl (joinL [sl] ps) = ps
  | [], h, _ => absurd rfl h
  | [p], _, h => by simp only [joinL, List.flatMap_nil, List.append_nil]; exact splitG_free (h p (.head _))
  | p :: q :: r, _, h => by
    rw [joinL_cons, List.singleton_append, splitG_append, splitG_free (h p (.head _)), splitG_join (by simp) (fun x hx => h x (.tail _ hx))]
    rfl

def stepG (dot : α) (r : Bool) (acc : List (List α)) (c : List α) : List (List α) :=
  if c = [] then acc else if c = [dot] then acc else if c ≠ [dot, dot] then acc ++ [c] else
  match acc.getLast? with
  | none => if r then [] else [c]
  | some y => if y = [dot, dot] then acc ++ [c] else acc.dropLast
def foldG (dot : α) (r : Bool) (acc : List (List α)) (ps : List (List α)) : List (List α) := ps.foldl (stepG dot r) acc
theorem foldG_append (r : Bool) (acc : List (List α)) (ps qs : List (List α)) : foldG dot r acc (ps ++ qs) = foldG dot r (foldG dot r acc ps) qs := List.foldl_append
theorem foldG_cons (r : Bool) (acc : List (List α)) (p : List α) (qs : List (List α)) : foldG dot r acc (p :: qs) = foldG dot r (stepG dot r acc p) qs := rfl
theorem stepG_nil (r : Bool) (acc : List (List α)) : stepG dot r acc [] = acc := by simp [stepG]
theorem stepG_dot (r : Bool) (acc : List (List α)) : stepG dot r acc [dot] = acc := by simp [stepG]
/-- a name that stands for itself -/
def Nm (sl dot : α) (n : List α) : Prop := n ≠ [] ∧ n ≠ [dot] ∧ n ≠ [dot, dot] ∧ sl ∉ n
theorem stepG_name {r : Bool} {acc : List (List α)} {n : List α} (h : Nm sl dot n) : stepG dot r acc n = acc ++ [n] := by
  simp [stepG, h.1, h.2.1, h.2.2.1]
theorem stepG_up {r : Bool} {acc : List (List α)} {n : List α} (h : n ≠ [dot, dot]) : stepG dot r (acc ++ [n]) [dot, dot] = acc := by
  simp [stepG, h]

/-- what may stand behind a name -/
def Ext (sl dot : α) (e : List (List α)) : Prop := e = [] ∨ e = [[dot]] ∨ e = [[]] ∨ ∃ q, Nm sl dot q ∧ e = [q, [dot, dot]]
inductive Rows (sl dot : α) : List (List α) → List (List α) → Prop
  | nil : Rows sl dot [] []
  | cons {n : List α} {e ns ps : List (List α)} (hn : Nm sl dot n) (he : Ext sl dot e) (h : Rows sl dot ns ps) : Rows sl dot (n :: ns) (n :: (e ++ ps))
theorem Rows.fold {ns ps : List (List α)} (h : Rows sl dot ns ps) (r : Bool) : ∀ acc, foldG dot r acc ps = acc ++ ns := by
  induction h with
  | nil => intro acc; simp [foldG]
  | @cons n e ns ps hn he _ ih =>
    intro acc
    rw [foldG_cons, stepG_name hn, foldG_append]
    have hx : foldG dot r (acc ++ [n]) e = acc ++ [n] := by
      rcases he with rfl | rfl | rfl | ⟨q, hq, rfl⟩
      · rfl
      · rw [foldG_cons, stepG_dot]; rfl
      · rw [foldG_cons, stepG_nil]; rfl
      · rw [foldG_cons, stepG_name hq, foldG_cons, stepG_up hq.2.2.1]; rfl
    rw [hx, ih]; simp
theorem Rows.names {ns ps : List (List α)} (h : Rows sl dot ns ps) : ∀ n ∈ ns, Nm sl dot n := by
  induction h with
  | nil => intro n hn; cases hn
  | cons hn _ _ ih =>
    intro n hm
    rcases List.mem_cons.mp hm with rfl | hm
    · exact hn
    · exact ih n hm
theorem Rows.free {ns ps : List (List α)} (h : Rows sl dot ns ps) (hd : dot ≠ sl) : ∀ p ∈ ps, sl ∉ p := by
  induction h with
  | nil => intro n hn; cases hn
  | cons hn he _ ih =>
    intro p hm
    rcases List.mem_cons.mp hm with rfl | hm
    · exact hn.2.2.2
    · rcases List.mem_append.mp hm with hm | hm
      · rcases he with rfl | rfl | rfl | ⟨q, hq, rfl⟩
        · cases hm
        · rw [List.mem_singleton.mp hm]; simpa using hd.symm
        · rw [List.mem_singleton.mp hm]; simp
        · rcases List.mem_cons.mp hm with rfl | hm
          · exact hq.2.2.2
          · rw [List.mem_singleton.mp hm]; simpa using hd.symm
      · exact ih p hm

theorem fold_ups_root : ∀ (b : Nat) (x : List (List α)), (∀ n ∈ x, n ≠ [dot, dot]) → foldG dot true x (List.replicate b [dot, dot]) = x.take (x.length - b)
  | 0, x, _ => by simp [foldG]
  | b + 1, x, h => by
    rw [List.replicate_succ, foldG_cons]
    rcases List.eq_nil_or_concat x with rfl | ⟨x', l, rfl⟩
    · have e : stepG dot true ([] : List (List α)) [dot, dot] = [] := by simp [stepG]
      rw [e, fold_ups_root b [] (fun n hn => by cases hn)]; simp
    · rw [List.concat_eq_append] at h ⊢
      rw [stepG_up (h l (by simp)), fold_ups_root b x' (fun n hn => h n (by simp [hn]))]
      rw [List.length_append, List.length_singleton, List.take_append_of_le_length (by omega)]
      congr 1; omega
theorem fold_ups : ∀ (b a : Nat) (x : List (List α)), (∀ n ∈ x, n ≠ [dot, dot]) → foldG dot false (List.replicate a [dot, dot] ++ x) (List.replicate b [dot, dot]) =
    if b ≤ x.length then List.replicate a [dot, dot] ++ x.take (x.length - b) else List.replicate (a + b - x.length) [dot, dot]
  | 0, a, x, _ => by simp [foldG]
  | b + 1, a, x, h => by
    rw [List.replicate_succ, foldG_cons]
    rcases List.eq_nil_or_concat x with rfl | ⟨x', l, rfl⟩
    · have e : stepG dot false (List.replicate a [dot, dot] ++ []) [dot, dot] = List.replicate (a + 1) [dot, dot] ++ [] := by
        rw [List.append_nil, List.append_nil]
        cases a with
        | zero => simp [stepG]
        | succ a => simp [stepG, List.getLast?_replicate, List.replicate_succ']
      rw [e, fold_ups b (a + 1) [] (fun n hn => by cases hn)]
      cases b with
      | zero => simp
      | succ b => rw [if_neg (by simp), if_neg (by simp)]; congr 1; simp only [List.length_nil]; omega
    · rw [List.concat_eq_append] at h ⊢
      rw [← List.append_assoc, stepG_up (h l (by simp)), fold_ups b a x' (fun n hn => h n (by simp [hn]))]
      rw [List.length_append, List.length_singleton]
      by_cases hb : b ≤ x'.length
      · rw [if_pos hb, if_pos (by omega), List.take_append_of_le_length (by omega)]
        congr 2; omega
      · rw [if_neg hb, if_neg (by omega)]
        congr 1; omega
end
end Mine
end

section
namespace Mine
section
variable {α : Type} [DecidableEq α] {sl dot : α}
def rootG (sl : α) (t : List α) : List α × List α :=
  if t.take 1 ≠ [sl] then ([], t) else if (t.drop 1).take 1 ≠ [sl] then ([sl], t.drop 1) else if (t.drop 2).take 1 = [sl] then ([sl], t.drop 1) else (t.take 2, t.drop 2)
def normG (sl dot : α) (t : List α) : List α := if t = [] then [dot] else
  let p := (rootG sl t).1 ++ joinL [sl] (foldG dot (decide ((rootG sl t).1 ≠ [])) [] (splitG sl (rootG sl t).2))
  if p = [] then [dot] else p
def joinG (sl : α) (x y : List α) : List α := if y.take 1 = [sl] then y else if x = [] then y else if x.getLast? = some sl then x ++ y else x ++ (sl :: y)
/-- the written form of a root mark and a row of pieces -/
def finG (sl dot : α) (r : Bool) (L : List (List α)) : List α := if r = true then sl :: joinL [sl] L else if L = [] then [dot] else joinL [sl] L

theorem joinL_nil {s : List α} : joinL s ([] : List (List α)) = [] := rfl
theorem joinL_ne {s : List α} {c : List α} {L : List (List α)} (h : c ≠ []) : joinL s (c :: L) ≠ [] := by
  cases c with
  | nil => exact absurd rfl h
  | cons a c => simp [joinL]
theorem normG_eq {t : List α} {r : Bool} {L : List (List α)} (h0 : t ≠ []) (h2 : t.take 2 ≠ [sl, sl]) (hr : r = decide (t.take 1 = [sl])) (hL : foldG dot r [] (splitG sl t) = L) (hne : ∀ c ∈ L, c ≠ []) : normG sl dot t = finG sl dot r L := by
  unfold normG
  rw [if_neg h0]
  by_cases h1 : t.take 1 = [sl]
  · have hr' : r = true := by rw [hr]; exact decide_eq_true h1
    subst hr'
    obtain ⟨w, rfl⟩ : ∃ w, t = sl :: w := by
      cases t with
      | nil => exact absurd rfl h0
      | cons a w => simp at h1; exact ⟨w, by rw [h1]⟩
    have hw : w.take 1 ≠ [sl] := by
      intro e
      apply h2
      cases w with
      | nil => simp at e
      | cons b w => simp at e; simp [e]
    have hroot : rootG sl (sl :: w) = ([sl], w) := by
      unfold rootG
      rw [if_neg (by simp), if_pos (by simpa using hw)]; rfl
    rw [hroot]
    dsimp only
    have hs : splitG sl (sl :: w) = [] :: splitG sl w := by simp [splitG]
    rw [hs, foldG_cons, stepG_nil] at hL
    rw [show decide (([sl] : List α) ≠ []) = true from decide_eq_true (by simp), hL, if_neg (by simp)]
    simp [finG]
  · have hr' : r = false := by rw [hr]; exact decide_eq_false h1
    subst hr'
    have hroot : rootG sl t = ([], t) := by unfold rootG; rw [if_pos h1]
    rw [hroot]
    dsimp only
    rw [show decide (([] : List α) ≠ []) = false from decide_eq_false (by simp), hL, List.nil_append]
    cases L with
    | nil => simp [joinL, finG]
    | cons c L =>
      rw [if_neg (joinL_ne (hne c (.head _)))]
      simp [finG]

theorem fold_join {r : Bool} {acc : List (List α)} {x y : List α} (hx : x ≠ []) (hy : y.take 1 ≠ [sl]) : foldG dot r acc (splitG sl (joinG sl x y)) = foldG dot r (foldG dot r acc (splitG sl x)) (splitG sl y) := by
  unfold joinG
  rw [if_neg hy, if_neg hx]
  by_cases h : x.getLast? = some sl
  · rw [if_pos h]
    obtain ⟨x', rfl⟩ : ∃ x', x = x' ++ [sl] := by
      rcases List.eq_nil_or_concat x with rfl | ⟨x', l, rfl⟩
      · exact absurd rfl hx
      · rw [List.concat_eq_append] at h ⊢
        rw [List.getLast?_append] at h
        simp at h
        exact ⟨x', by rw [h]⟩
    rw [List.append_assoc, List.singleton_append, splitG_append, splitG_append, foldG_append, foldG_append]
    rw [show splitG sl ([] : List α) = [[]] from rfl, foldG_cons, stepG_nil]
    rfl
  · rw [if_neg h, splitG_append, foldG_append]

theorem finG_take1 {r : Bool} {L : List (List α)} (hd : dot ≠ sl) (hL : ∀ c ∈ L, c ≠ [] ∧ sl ∉ c) : ((finG sl dot r L).take 1 = [sl]) ↔ r = true := by
  unfold finG
  cases r with
  | true => simp
  | false =>
    rw [if_neg (by simp)]
    cases L with
    | nil => simp [hd]
    | cons c L =>
      rw [if_neg (by simp)]
      obtain ⟨h1, h2⟩ := hL c (.head _)
      cases c with
      | nil => exact absurd rfl h1
      | cons a c =>
        have : a ≠ sl := fun e => h2 (by rw [e]; exact .head _)
        simp [joinL, this]
theorem joinL_inj {L L' : List (List α)} (hL : ∀ c ∈ L, c ≠ [] ∧ sl ∉ c) (hL' : ∀ c ∈ L', c ≠ [] ∧ sl ∉ c) (h : joinL [sl] L = joinL [sl] L') : L = L' := by
  cases L with
  | nil =>
    cases L' with
    | nil => rfl
    | cons c L' => exact absurd h.symm (joinL_ne (hL' c (.head _)).1)
  | cons c L =>
    cases L' with
    | nil => exact absurd h (joinL_ne (hL c (.head _)).1)
    | cons c' L' =>
      have h1 := splitG_join (sl := sl) (ps := c :: L) (by simp) (fun p hp => (hL p hp).2)
      have h2 := splitG_join (sl := sl) (ps := c' :: L') (by simp) (fun p hp => (hL' p hp).2)
      rw [← h1, ← h2, h]
theorem finG_inj {r r' : Bool} {L L' : List (List α)} (hd : dot ≠ sl) (hL : ∀ c ∈ L, c ≠ [] ∧ c ≠ [dot] ∧ sl ∉ c) (hL' : ∀ c ∈ L', c ≠ [] ∧ c ≠ [dot] ∧ sl ∉ c) :
    finG sl dot r L = finG sl dot r' L' ↔ r = r' ∧ L = L' := by
  constructor
  · intro h
    have a1 := finG_take1 (r := r) hd (fun c hc => ⟨(hL c hc).1, (hL c hc).2.2⟩)
    have a2 := finG_take1 (r := r') hd (fun c hc => ⟨(hL' c hc).1, (hL' c hc).2.2⟩)
    rw [h] at a1
    have hr : r = r' := by
      have := a1.symm.trans a2
      cases r <;> cases r' <;> simp_all
    subst hr
    refine ⟨rfl, ?_⟩
    have inj := joinL_inj (sl := sl) (L := L) (L' := L') (fun c hc => ⟨(hL c hc).1, (hL c hc).2.2⟩) (fun c hc => ⟨(hL' c hc).1, (hL' c hc).2.2⟩)
    unfold finG at h
    cases r with
    | true => simp at h; exact inj h
    | false =>
      simp only [Bool.false_eq_true, if_false] at h
      cases L with
      | nil =>
        cases L' with
        | nil => rfl
        | cons c L' =>
          simp only [if_true] at h
          rw [if_neg (by simp)] at h
          have h1 := splitG_join (sl := sl) (ps := c :: L') (by simp) (fun p hp => (hL' p hp).2.2)
          rw [← h, splitG_free (by simpa using hd.symm)] at h1
          injection h1 with h1 h2
          exact absurd h1.symm (hL' c (.head _)).2.1
      | cons c L =>
        rw [if_neg (by simp)] at h
        cases L' with
        | nil =>
          simp only [if_true] at h
          have h1 := splitG_join (sl := sl) (ps := c :: L) (by simp) (fun p hp => (hL p hp).2.2)
          rw [h, splitG_free (by simpa using hd.symm)] at h1
          injection h1 with h1 h2
          exact absurd h1.symm (hL c (.head _)).2.1
        | cons c' L' =>
          rw [if_neg (by simp)] at h
          exact inj h
  · rintro ⟨rfl, rfl⟩; rfl
end

section
variable {α β : Type} [DecidableEq α] [DecidableEq β] {g : α → β}
theorem map_eq_one (hg : ∀ a b, g a = g b → a = b) {c : List α} {d : α} : (c.map g = [g d]) ↔ c = [d] := by
  constructor
  · intro h
    match c, h with
    | [], h => simp at h
    | [a], h => simp at h; rw [hg _ _ h]
    | _ :: _ :: _, h => simp at h
  · rintro rfl; rfl
theorem map_eq_two (hg : ∀ a b, g a = g b → a = b) {c : List α} {d e : α} : (c.map g = [g d, g e]) ↔ c = [d, e] := by
  constructor
  · intro h
    match c, h with
    | [], h => simp at h
    | [_], h => simp at h
    | [a, b], h => simp at h; rw [hg _ _ h.1, hg _ _ h.2]
    | _ :: _ :: _ :: _, h => simp at h
  · rintro rfl; rfl
theorem splitG_map (hg : ∀ a b, g a = g b → a = b) (sl : α) : ∀ l : List α, splitG (g sl) (l.map g) = (splitG sl l).map (List.map g)
  | [] => rfl
  | c :: r => by
    have ih := splitG_map hg sl r
    rw [List.map_cons]
    unfold splitG
    by_cases e : c = sl
    · subst e; rw [if_pos rfl, if_pos rfl, ih]; rfl
    · rw [if_neg (fun h => e (hg _ _ h)), if_neg e, ih]
      cases splitG sl r with
      | nil => rfl
      | cons p ps => rfl
theorem stepG_map (hg : ∀ a b, g a = g b → a = b) (dot : α) (r : Bool) (acc : List (List α)) (c : List α) : stepG (g dot) r (acc.map (List.map g)) (c.map g) = (stepG dot r acc c).map (List.map g) := by
  unfold stepG
  by_cases h1 : c = []
  · subst h1; simp
  · rw [if_neg (by simpa using h1), if_neg h1]
    by_cases h2 : c = [dot]
    · rw [if_pos ((map_eq_one hg).mpr h2), if_pos h2]
    · rw [if_neg (fun h => h2 ((map_eq_one hg).mp h)), if_neg h2]
      by_cases h3 : c = [dot, dot]
      · rw [if_neg (show ¬ (c.map g ≠ [g dot, g dot]) from fun h => h ((map_eq_two hg).mpr h3)), if_neg (show ¬ (c ≠ [dot, dot]) from fun h => h h3), List.getLast?_map]
        cases acc.getLast? with
        | none => cases r <;> rfl
        | some y =>
          show (if y.map g = [g dot, g dot] then _ else _) = List.map (List.map g) (if y = [dot, dot] then _ else _)
          by_cases h4 : y = [dot, dot]
          · rw [if_pos ((map_eq_two hg).mpr h4), if_pos h4]; simp
          · rw [if_neg (fun h => h4 ((map_eq_two hg).mp h)), if_neg h4, List.map_dropLast]
      · rw [if_pos (show c.map g ≠ [g dot, g dot] from fun h => h3 ((map_eq_two hg).mp h)), if_pos h3]; simp
theorem foldG_map (hg : ∀ a b, g a = g b → a = b) (dot : α) (r : Bool) : ∀ (ps acc : List (List α)), foldG (g dot) r (acc.map (List.map g)) (ps.map (List.map g)) = (foldG dot r acc ps).map (List.map g)
  | [], _ => rfl
  | p :: ps, acc => by rw [List.map_cons, foldG_cons, foldG_cons, stepG_map hg, foldG_map hg dot r ps]
theorem joinL_map (s : List α) : ∀ ps : List (List α), joinL (s.map g) (ps.map (List.map g)) = (joinL s ps).map g
  | [] => rfl
  | p :: ps => by
    unfold joinL
    simp [List.flatMap_map, List.map_flatMap]
theorem rootG_map (hg : ∀ a b, g a = g b → a = b) (sl : α) (t : List α) : rootG (g sl) (t.map g) = ((rootG sl t).1.map g, (rootG sl t).2.map g) := by
  unfold rootG
  simp only [← List.map_take, ← List.map_drop, ne_eq, map_eq_one hg]
  repeat' split
  all_goals simp
theorem normG_map (hg : ∀ a b, g a = g b → a = b) (sl dot : α) (t : List α) : normG (g sl) (g dot) (t.map g) = (normG sl dot t).map g := by
  unfold normG
  by_cases h : t = []
  · subst h; rfl
  · rw [if_neg (by simpa using h), if_neg h, rootG_map hg]
    dsimp only
    have e : (decide ((rootG sl t).1.map g ≠ [])) = decide ((rootG sl t).1 ≠ []) := by simp
    rw [e, splitG_map hg]
    have h2 := foldG_map hg dot (decide ((rootG sl t).1 ≠ [])) (splitG sl (rootG sl t).2) []
    rw [List.map_nil] at h2
    rw [h2, show [g sl] = [sl].map g from rfl, joinL_map, ← List.map_append]
    by_cases h3 : (rootG sl t).1 ++ joinL [sl] (foldG dot (decide ((rootG sl t).1 ≠ [])) [] (splitG sl (rootG sl t).2)) = []
    · rw [h3]; simp
    · rw [if_neg (by simpa using h3), if_neg h3]
theorem joinG_map (hg : ∀ a b, g a = g b → a = b) (sl : α) (x y : List α) : joinG (g sl) (x.map g) (y.map g) = (joinG sl x y).map g := by
  unfold joinG
  rw [← List.map_take, List.getLast?_map]
  have e : (Option.map g x.getLast? = some (g sl)) ↔ x.getLast? = some sl := by
    cases x.getLast? with
    | none => simp
    | some a => simp; exact ⟨hg _ _, fun h => by rw [h]⟩
  simp only [map_eq_one hg, e, List.map_eq_nil_iff]
  repeat' split
  all_goals simp
end
end Mine
end

section
namespace Mine
section
variable {β : Type}
/-- one move after another -/
def compo (a : Int) (x : List β) (b : Int) (y : List β) : Int × List β :=
  if b < 0 then (-1, y) else if a < 0 then (-1, x.take (x.length - b.toNat) ++ y) else if b.toNat ≤ x.length then (a, x.take (x.length - b.toNat) ++ y) else (a + b - x.length, y)
theorem compo_map {γ : Type} (f : β → γ) (a : Int) (x : List β) (b : Int) (y : List β) : compo a (x.map f) b (y.map f) = ((compo a x b y).1, (compo a x b y).2.map f) := by
  unfold compo
  simp only [List.length_map]
  repeat' split
  all_goals simp
theorem compo_mem {a b : Int} {x y : List β} {n : β} (h : n ∈ (compo a x b y).2) : n ∈ x ∨ n ∈ y := by
  unfold compo at h
  repeat' split at h
  all_goals dsimp only at h
  · exact .inr h
  · exact (List.mem_append.mp h).imp List.mem_of_mem_take id
  · exact (List.mem_append.mp h).imp List.mem_of_mem_take id
  · exact .inr h
theorem compo_sign {a b : Int} {x y : List β} (ha : -1 ≤ a) : -1 ≤ (compo a x b y).1 := by
  unfold compo
  repeat' split
  all_goals dsimp only
  all_goals omega
end
section
variable {α : Type} [DecidableEq α] {sl dot : α}
def Spells (sl dot : α) (u : Int) (x : List (List α)) (t : List α) : Prop :=
  ∃ R, Rows sl dot x R ∧ t = (if u < 0 then sl :: joinL [sl] R else finG sl dot false (List.replicate u.toNat [dot, dot] ++ R))
def cano (sl dot : α) (p : Int × List (List α)) : List α := finG sl dot (decide (p.1 < 0)) (List.replicate p.1.toNat [dot, dot] ++ p.2)

theorem Rows.ne {ns ps : List (List α)} (h : Rows sl dot ns ps) : ps = [] ∨ ∃ n r, ps = n :: r ∧ n ≠ [] ∧ sl ∉ n := by
  cases h with
  | nil => exact .inl rfl
  | cons hn _ _ => exact .inr ⟨_, _, rfl, hn.1, hn.2.2.2⟩
theorem fold_pieces {r : Bool} {acc P : List (List α)} (hP : ∀ p ∈ P, sl ∉ p) : foldG dot r acc (splitG sl (joinL [sl] P)) = foldG dot r acc P := by
  cases P with
  | nil => rw [joinL_nil, show splitG sl ([] : List α) = [[]] from rfl, foldG_cons, stepG_nil]
  | cons p P => rw [splitG_join (by simp) hP]
theorem joinL_take1 {P : List (List α)} (hP : P = [] ∨ ∃ n r, P = n :: r ∧ n ≠ [] ∧ sl ∉ n) : (joinL [sl] P).take 1 ≠ [sl] := by
  rcases hP with rfl | ⟨n, r, rfl, h1, h2⟩
  · simp [joinL]
  · cases n with
    | nil => exact absurd rfl h1
    | cons a n =>
      have : a ≠ sl := fun e => h2 (by rw [e]; exact .head _)
      simp [joinL, this]
theorem up_free (hd : dot ≠ sl) {u : Nat} {P : List (List α)} (hP : ∀ p ∈ P, sl ∉ p) : ∀ p ∈ List.replicate u [dot, dot] ++ P, sl ∉ p := by
  intro p hp
  rcases List.mem_append.mp hp with h | h
  · rw [(List.mem_replicate.mp h).2]; simp [hd.symm]
  · exact hP p h
theorem up_head (hd : dot ≠ sl) {u : Nat} {P : List (List α)} (hP : P = [] ∨ ∃ n r, P = n :: r ∧ n ≠ [] ∧ sl ∉ n) : List.replicate u [dot, dot] ++ P = [] ∨ ∃ n r, List.replicate u [dot, dot] ++ P = n :: r ∧ n ≠ [] ∧ sl ∉ n := by
  cases u with
  | zero => simpa using hP
  | succ u => exact .inr ⟨[dot, dot], List.replicate u [dot, dot] ++ P, by rw [List.replicate_succ]; rfl, by simp, by simp [hd.symm]⟩

section
variable {u : Int} {x : List (List α)} {t : List α}
theorem Spells.root (h : Spells sl dot u x t) (hu : u < 0) : ∃ w, t = sl :: w ∧ w.take 1 ≠ [sl] := by
  obtain ⟨R, hR, rfl⟩ := h
  rw [if_pos hu]
  exact ⟨_, rfl, joinL_take1 hR.ne⟩
theorem Spells.rel (hd : dot ≠ sl) (h : Spells sl dot u x t) (hu : ¬ u < 0) : t ≠ [] ∧ t.take 1 ≠ [sl] := by
  obtain ⟨R, hR, rfl⟩ := h
  rw [if_neg hu]
  have h1 := up_head hd (u := u.toNat) hR.ne
  generalize List.replicate u.toNat [dot, dot] ++ R = P at h1
  rcases h1 with rfl | ⟨n, r, rfl, h2, h3⟩
  · simp [finG, hd]
  · unfold finG
    rw [if_neg (by simp), if_neg (by simp)]
    exact ⟨joinL_ne h2, joinL_take1 (.inr ⟨_, _, rfl, h2, h3⟩)⟩
theorem Spells.fold_root (hd : dot ≠ sl) (h : Spells sl dot u x t) (hu : u < 0) (r : Bool) (acc : List (List α)) : foldG dot r acc (splitG sl t) = acc ++ x := by
  obtain ⟨R, hR, rfl⟩ := h
  rw [if_pos hu, show splitG sl (sl :: joinL [sl] R) = [] :: splitG sl (joinL [sl] R) by simp [splitG], foldG_cons, stepG_nil, fold_pieces (hR.free hd), hR.fold]
theorem Spells.fold_rel (hd : dot ≠ sl) (h : Spells sl dot u x t) (hu : ¬ u < 0) (r : Bool) (acc : List (List α)) : foldG dot r acc (splitG sl t) = foldG dot r acc (List.replicate u.toNat [dot, dot]) ++ x := by
  obtain ⟨R, hR, rfl⟩ := h
  rw [if_neg hu]
  have h1 : foldG dot r acc (splitG sl (finG sl dot false (List.replicate u.toNat [dot, dot] ++ R))) = foldG dot r acc (List.replicate u.toNat [dot, dot] ++ R) := by
    have hf := up_free hd (u := u.toNat) (hR.free hd)
    generalize List.replicate u.toNat [dot, dot] ++ R = P at hf
    unfold finG
    rw [if_neg (by simp)]
    cases P with
    | nil => rw [if_pos rfl, splitG_free (by simpa using hd.symm), foldG_cons, stepG_dot]
    | cons p P => rw [if_neg (by simp), fold_pieces hf]
  rw [h1, foldG_append, hR.fold]
theorem Spells.names (h : Spells sl dot u x t) : ∀ n ∈ x, Nm sl dot n := by
  obtain ⟨R, hR, _⟩ := h
  exact hR.names
end
theorem take1_append {l m : List α} (h : l ≠ []) : (l ++ m).take 1 = l.take 1 := by
  cases l with
  | nil => exact absurd rfl h
  | cons a l => simp
theorem take2_of_take1 {l : List α} {a : α} (h : l.take 1 ≠ [a]) (b : α) : l.take 2 ≠ [a, b] := by
  match l with
  | [] => simp
  | [c] => simp
  | c :: d :: r => simp at h ⊢; exact fun e => absurd e h
theorem joinG_of {x y : List α} (hx : x ≠ []) (hy : y.take 1 ≠ [sl]) : ∃ z, joinG sl x y = x ++ z ∧ (x = [sl] → z = y) := by
  unfold joinG
  rw [if_neg hy, if_neg hx]
  split
  · exact ⟨_, rfl, fun _ => rfl⟩
  · rename_i h
    exact ⟨_, rfl, fun e => absurd (by rw [e]; rfl) h⟩
/-- what the two joined come to -/
theorem norm_join (hd : dot ≠ sl) {a b : Int} {x y : List (List α)} {t s : List α} (h1 : Spells sl dot a x t) (h2 : Spells sl dot b y s) : normG sl dot (joinG sl t s) = cano sl dot (compo a x b y) := by
  have nx : ∀ n ∈ x, n ≠ [dot, dot] := fun n hn => (h1.names n hn).2.2.1
  have ex : ∀ n ∈ x, n ≠ [] := fun n hn => (h1.names n hn).1
  have ey : ∀ n ∈ y, n ≠ [] := fun n hn => (h2.names n hn).1
  have eu : ∀ (k : Nat) (z : List (List α)), (∀ n ∈ z, n ≠ []) → ∀ n ∈ List.replicate k [dot, dot] ++ z, n ≠ [] := by
    intro k z hz n hn
    rcases List.mem_append.mp hn with h | h
    · rw [(List.mem_replicate.mp h).2]; simp
    · exact hz n h
  have exy : ∀ k, ∀ n ∈ x.take k ++ y, n ≠ [] := by
    intro k n hn
    rcases List.mem_append.mp hn with h | h
    · exact ex n (List.mem_of_mem_take h)
    · exact ey n h
  unfold compo cano
  by_cases hb : b < 0
  · rw [if_pos hb]
    obtain ⟨w, e, hw⟩ := h2.root hb
    have ej : joinG sl t s = s := by unfold joinG; rw [if_pos (by rw [e]; simp)]
    have hf := h2.fold_root hd hb true []
    rw [ej]
    refine normG_eq (by rw [e]; simp) ?_ ?_ hf ey
    · rw [e]
      intro hh
      apply hw
      cases w with
      | nil => simp at hh
      | cons c w => simp at hh; simp [hh]
    · rw [e]; simp
  · rw [if_neg hb]
    obtain ⟨s0, s1⟩ := h2.rel hd hb
    by_cases ha : a < 0
    · rw [if_pos ha]
      obtain ⟨w, e, hw⟩ := h1.root ha
      have t0 : t ≠ [] := by rw [e]; simp
      obtain ⟨z, ez, hz⟩ := joinG_of (sl := sl) t0 s1
      have hf : foldG dot true [] (splitG sl (joinG sl t s)) = x.take (x.length - b.toNat) ++ y := by
        rw [fold_join t0 s1, h1.fold_root hd ha, h2.fold_rel hd hb, List.nil_append, fold_ups_root _ _ nx]
      refine normG_eq (by rw [ez, e]; simp) ?_ ?_ hf (exy _)
      · rw [ez, e]
        rw [e] at hz
        cases w with
        | nil =>
          rw [hz rfl]
          intro hh
          apply s1
          cases s with
          | nil => exact absurd rfl s0
          | cons c s => simp at hh; simp [hh]
        | cons c w => simp at hw ⊢; exact hw
      · rw [ez, e]; simp
    · rw [if_neg ha]
      obtain ⟨t0, t1⟩ := h1.rel hd ha
      obtain ⟨z, ez, _⟩ := joinG_of (sl := sl) t0 s1
      have hu0 : foldG dot false [] (List.replicate a.toNat [dot, dot]) = List.replicate a.toNat [dot, dot] := by
        have h := fold_ups (dot := dot) a.toNat 0 [] (fun n hn => by cases hn)
        rw [List.replicate_zero, List.nil_append] at h
        rw [h]
        by_cases e0 : a.toNat ≤ ([] : List (List α)).length
        · rw [if_pos e0]; simp at e0; simp [e0]
        · rw [if_neg e0]; simp
      have hf : foldG dot false [] (splitG sl (joinG sl t s)) = (if b.toNat ≤ x.length then List.replicate a.toNat [dot, dot] ++ x.take (x.length - b.toNat) else List.replicate (a.toNat + b.toNat - x.length) [dot, dot]) ++ y := by
        rw [fold_join t0 s1, h1.fold_rel hd ha, h2.fold_rel hd hb, hu0, fold_ups _ _ _ nx]
      have hne : joinG sl t s ≠ [] := by rw [ez]; simp [t0]
      have htk : (joinG sl t s).take 1 ≠ [sl] := by rw [ez, take1_append t0]; exact t1
      by_cases hbx : b.toNat ≤ x.length
      · rw [if_pos hbx] at hf ⊢
        rw [List.append_assoc] at hf
        dsimp only
        rw [decide_eq_false ha]
        exact normG_eq hne (take2_of_take1 htk sl) (decide_eq_false htk).symm hf (eu _ _ (exy _))
      · rw [if_neg hbx] at hf ⊢
        dsimp only
        rw [decide_eq_false (p := a + b - x.length < 0) (by omega), show (a + b - (x.length : Int)).toNat = a.toNat + b.toNat - x.length by omega]
        exact normG_eq hne (take2_of_take1 htk sl) (decide_eq_false htk).symm hf (eu _ _ ey)
theorem cano_inj (hd : dot ≠ sl) {p q : Int × List (List α)} (hp : -1 ≤ p.1) (hq : -1 ≤ q.1) (np : ∀ n ∈ p.2, Nm sl dot n) (nq : ∀ n ∈ q.2, Nm sl dot n) : cano sl dot p = cano sl dot q ↔ p = q := by
  constructor
  · intro h
    have side : ∀ (k : Nat) (z : List (List α)), (∀ n ∈ z, Nm sl dot n) → ∀ c ∈ List.replicate k [dot, dot] ++ z, c ≠ [] ∧ c ≠ [dot] ∧ sl ∉ c := by
      intro k z hz c hc
      rcases List.mem_append.mp hc with h | h
      · rw [(List.mem_replicate.mp h).2]; simp [hd.symm]
      · exact ⟨(hz c h).1, (hz c h).2.1, (hz c h).2.2.2⟩
    unfold cano at h
    obtain ⟨h1, h2⟩ := (finG_inj hd (side _ _ np) (side _ _ nq)).mp h
    obtain ⟨a, x⟩ := p
    obtain ⟨b, y⟩ := q
    dsimp only at *
    have key : ∀ (k m : Nat) (z w : List (List α)), (∀ n ∈ z, n ≠ [dot, dot]) → (∀ n ∈ w, n ≠ [dot, dot]) → List.replicate k [dot, dot] ++ z = List.replicate m [dot, dot] ++ w → k = m ∧ z = w := by
      intro k
      induction k with
      | zero =>
        intro m z w hz hw h
        cases m with
        | zero => exact ⟨rfl, by simpa using h⟩
        | succ m =>
          rw [List.replicate_succ] at h
          simp at h
          exact absurd rfl (hz _ (by rw [h]; exact .head _))
      | succ k ih =>
        intro m z w hz hw h
        cases m with
        | zero =>
          rw [List.replicate_succ] at h
          simp at h
          exact absurd rfl (hw _ (by rw [← h]; exact .head _))
        | succ m =>
          rw [List.replicate_succ, List.replicate_succ] at h
          simp only [List.cons_append, List.cons.injEq, true_and] at h
          obtain ⟨e1, e2⟩ := ih m z w hz hw h
          exact ⟨by rw [e1], e2⟩
    obtain ⟨e1, e2⟩ := key _ _ _ _ (fun n hn => (np n hn).2.2.1) (fun n hn => (nq n hn).2.2.1) h2
    have h3 : a < 0 ↔ b < 0 := by simpa using h1
    subst e2
    have : a = b := by
      by_cases ha : a < 0
      · have := h3.mp ha; omega
      · have : ¬ b < 0 := fun h => ha (h3.mpr h)
        omega
    rw [this]
  · rintro rfl; rfl
end
end Mine
end

section
namespace Mine
open PySem PySem.W
section
variable {β : Type}
theorem rep_add (i j : Nat) (w : List β) : (List.replicate (i + j) w).flatten = (List.replicate i w).flatten ++ (List.replicate j w).flatten := by
  rw [← List.replicate_append_replicate, List.flatten_append]
theorem rep_len (k : Nat) (w : List β) : (List.replicate k w).flatten.length = k * w.length := by
  induction k with
  | zero => simp
  | succ k ih => rw [List.replicate_succ, List.flatten_cons, List.length_append, ih, Nat.succ_mul, Nat.add_comm]
theorem commute_pow : ∀ (n : Nat) (u v : List β), u.length + v.length ≤ n → u ++ v = v ++ u → ∃ w i j, u = (List.replicate i w).flatten ∧ v = (List.replicate j w).flatten ∧ w.length = Nat.gcd u.length v.length := by
  intro n
  induction n with
  | zero =>
    intro u v h _
    have hu : u = [] := List.eq_nil_of_length_eq_zero (by omega)
    have hv : v = [] := List.eq_nil_of_length_eq_zero (by omega)
    subst hu hv
    exact ⟨[], 0, 0, rfl, rfl, by simp⟩
  | succ n ih =>
    intro u v h e
    by_cases hu : u = []
    · subst hu; exact ⟨v, 0, 1, rfl, by simp, by simp⟩
    by_cases hv : v = []
    · subst hv; exact ⟨u, 1, 0, by simp, rfl, by simp⟩
    have hu' : 0 < u.length := List.length_pos_iff.mpr hu
    have hv' : 0 < v.length := List.length_pos_iff.mpr hv
    rcases Nat.le_total u.length v.length with hl | hl
    · obtain ⟨v', rfl⟩ : u <+: v := List.prefix_of_prefix_length_le (List.prefix_append u v) (by rw [e]; exact List.prefix_append v u) hl
      rw [List.append_assoc] at e
      have e' := List.append_cancel_left e
      rw [List.length_append] at h
      obtain ⟨w, i, j, e1, e2, e3⟩ := ih u v' (by omega) e'
      refine ⟨w, i, i + j, e1, ?_, ?_⟩
      · rw [rep_add, ← e1, ← e2]
      · rw [e3, List.length_append, Nat.gcd_self_add_right]
    · obtain ⟨u', rfl⟩ : v <+: u := List.prefix_of_prefix_length_le (List.prefix_append v u) (by rw [← e]; exact List.prefix_append u v) hl
      rw [List.append_assoc] at e
      have e' := List.append_cancel_left e
      rw [List.length_append] at h
      obtain ⟨w, i, j, e1, e2, e3⟩ := ih u' v (by omega) e'
      refine ⟨w, j + i, j, ?_, e2, ?_⟩
      · rw [rep_add, ← e1, ← e2]
      · rw [e3, List.length_append, Nat.gcd_self_add_left]
theorem pick_to (l : List β) {k : Int} (h : 0 ≤ k) : pickL l none (some k) = l.take k.toNat := by
  unfold pickL kms_lo kms_hi
  dsimp only
  rw [if_neg (by omega), List.drop_zero, Nat.sub_zero, List.take_eq_take_min (i := k.toNat)]
theorem pick_from (l : List β) {k : Int} (h : 0 ≤ k) (hk : k ≤ l.length) : pickL l (some k) none = l.drop k.toNat := by
  unfold pickL kms_lo kms_hi
  dsimp only
  rw [if_neg (by omega), Nat.min_eq_left (by omega)]
  exact List.take_of_length_le (by rw [List.length_drop]; omega)
theorem cut_iff {x y : List β} {k : Nat} : x.take k ++ y = x ↔ x.drop k = y := by
  constructor
  · intro h
    have h2 : x.take k ++ y = x.take k ++ x.drop k := by rw [h, List.take_append_drop]
    exact (List.append_cancel_left h2).symm
  · rintro rfl; exact List.take_append_drop k x
end
theorem oneWord_iff (u v : List Str) : oneWord u v = true ↔ u ++ v = v ++ u := by
  unfold oneWord
  by_cases hg : Nat.gcd u.length v.length = 0
  · rw [if_pos hg]
    obtain ⟨h1, h2⟩ := Nat.gcd_eq_zero_iff.mp hg
    have hu : u = [] := List.eq_nil_of_length_eq_zero h1
    have hv : v = [] := List.eq_nil_of_length_eq_zero h2
    subst hu hv; simp
  · rw [if_neg hg, Bool.and_eq_true, decide_eq_true_iff, decide_eq_true_iff]
    constructor
    · rintro ⟨h1, h2⟩
      generalize pickL (u ++ v) none (some ((Nat.gcd u.length v.length : Nat) : Int)) = W at h1 h2
      generalize (Int.fdiv (u.length : Nat) ((Nat.gcd u.length v.length : Nat) : Int)).toNat = p at h1
      generalize (Int.fdiv (v.length : Nat) ((Nat.gcd u.length v.length : Nat) : Int)).toNat = q at h2
      rw [h1, h2, ← rep_add, ← rep_add, Nat.add_comm]
    · intro h
      obtain ⟨w, i, j, e1, e2, e3⟩ := commute_pow _ u v (Nat.le_refl _) h
      rw [← e3]
      have hw : 0 < w.length := by omega
      have hW : pickL (u ++ v) none (some ((w.length : Nat) : Int)) = w := by
        rw [pick_to _ (by omega), Int.toNat_natCast]
        have e4 : u ++ v = (List.replicate (i + j) w).flatten := by rw [rep_add, ← e1, ← e2]
        rw [e4]
        cases hij : i + j with
        | zero =>
          have : i = 0 ∧ j = 0 := by omega
          obtain ⟨rfl, rfl⟩ := this
          simp at e1 e2
          subst e1 e2
          simp at e3
          subst e3
          simp at hw
        | succ m => rw [List.replicate_succ, List.flatten_cons, List.take_left]
      have hdiv : ∀ (l : List Str) (k : Nat), l = (List.replicate k w).flatten → (Int.fdiv (l.length : Nat) ((w.length : Nat) : Int)).toNat = k := by
        intro l k e
        rw [e, rep_len, Int.fdiv_eq_ediv_of_nonneg _ (by omega)]
        show (((k * w.length / w.length : Nat) : Int)).toNat = k
        rw [Nat.mul_div_cancel _ hw]; rfl
      rw [hW, hdiv u i e1, hdiv v j e2]
      exact ⟨e1, e2⟩
theorem keeps_iff {xs ys : List Str} {b : Int} (hb : 0 ≤ b) : keepsL xs b ys = true ↔ xs.take (xs.length - b.toNat) ++ ys = xs := by
  unfold keepsL
  by_cases h : b ≤ xs.length
  · rw [if_pos h, pick_from _ (by omega) (by omega), Bool.and_eq_true, decide_eq_true_iff, decide_eq_true_iff, cut_iff, show ((xs.length : Int) - b).toNat = xs.length - b.toNat by omega]
    constructor
    · exact fun e => e.2
    · intro e
      refine ⟨?_, e⟩
      rw [← e, List.length_drop]; omega
  · rw [if_neg h, decide_eq_true_iff, show xs.length - b.toNat = 0 by omega, List.take_zero, List.nil_append]
theorem due_compo {xs ys : List Str} {a b : Int} : dueL a xs b ys = true ↔ compo a xs b ys = compo b ys a xs := by
  unfold dueL
  by_cases a0 : a < 0
  · rw [if_pos (.inl a0)]
    by_cases b0 : b < 0
    · rw [if_pos ⟨a0, b0⟩, decide_eq_true_iff]
      unfold compo
      rw [if_pos b0, if_pos a0, Prod.mk.injEq]
      exact ⟨fun e => ⟨rfl, e.symm⟩, fun e => e.2.symm⟩
    · rw [if_neg (fun h => b0 h.2), if_pos a0, keeps_iff (by omega)]
      unfold compo
      rw [if_neg b0, if_pos a0, if_pos a0, Prod.mk.injEq]
      exact ⟨fun e => ⟨rfl, e⟩, fun e => e.2⟩
  · by_cases b0 : b < 0
    · rw [if_pos (.inr b0), if_neg (fun h => a0 h.1), if_neg a0, keeps_iff (by omega)]
      unfold compo
      rw [if_pos b0, if_neg a0, if_pos b0, Prod.mk.injEq]
      exact ⟨fun e => ⟨rfl, e.symm⟩, fun e => e.2.symm⟩
    · rw [if_neg (by omega)]
      unfold compo
      rw [if_neg b0, if_neg a0, if_neg a0, if_neg b0]
      by_cases h1 : b ≤ xs.length
      · rw [if_pos (show b.toNat ≤ xs.length by omega)]
        by_cases h2 : a ≤ ys.length
        · rw [if_pos ⟨h1, h2⟩, if_pos (show a.toNat ≤ ys.length by omega), Prod.mk.injEq, Bool.and_eq_true, Bool.and_eq_true, decide_eq_true_iff, decide_eq_true_iff]
          refine and_congr_right fun e => ?_
          subst e
          rw [oneWord_iff, pick_from _ (by omega) (by omega), pick_from _ (by omega) (by omega), pick_to _ (by omega), pick_to _ (by omega),
            show ((xs.length : Int) - a).toNat = xs.length - a.toNat by omega, show ((ys.length : Int) - a).toNat = ys.length - a.toNat by omega]
          have ex := List.take_append_drop (xs.length - a.toNat) xs
          have ey := List.take_append_drop (ys.length - a.toNat) ys
          have lx : (xs.drop (xs.length - a.toNat)).length = a.toNat := by rw [List.length_drop]; omega
          have ly : (ys.drop (ys.length - a.toNat)).length = a.toNat := by rw [List.length_drop]; omega
          generalize xs.take (xs.length - a.toNat) = u at *
          generalize ys.take (ys.length - a.toNat) = v at *
          generalize xs.drop (xs.length - a.toNat) = s at *
          generalize ys.drop (ys.length - a.toNat) = s' at *
          rw [← ex, ← ey, ← List.append_assoc, ← List.append_assoc]
          constructor
          · rintro ⟨rfl, h⟩; rw [h]
          · intro h
            obtain ⟨h3, h4⟩ := List.append_inj' h (by rw [lx, ly])
            exact ⟨h4.symm, h3⟩
        · rw [if_neg (fun h => h2 h.2), if_neg (by omega), if_pos (by omega), if_neg (show ¬ a.toNat ≤ ys.length by omega), Prod.mk.injEq, Bool.and_eq_true, decide_eq_true_iff, decide_eq_true_iff,
            pick_from _ (by omega) (by omega), cut_iff, show ((xs.length : Int) - b).toNat = xs.length - b.toNat by omega]
          exact ⟨fun e => ⟨by omega, e.2⟩, fun e => ⟨by omega, e.2⟩⟩
      · rw [if_neg (fun h => h1 h.1), if_neg (show ¬ b.toNat ≤ xs.length by omega)]
        by_cases h2 : a ≤ ys.length
        · rw [if_neg (by omega), if_neg (by omega), if_pos (show a.toNat ≤ ys.length by omega), Prod.mk.injEq, Bool.and_eq_true, decide_eq_true_iff, decide_eq_true_iff,
            pick_from _ (by omega) (by omega), show ((ys.length : Int) - a).toNat = ys.length - a.toNat by omega]
          constructor
          · rintro ⟨e1, e2⟩; exact ⟨by omega, (cut_iff.mpr e2).symm⟩
          · rintro ⟨e1, e2⟩; exact ⟨by omega, cut_iff.mp e2.symm⟩
        · rw [if_pos ⟨by omega, by omega⟩, if_neg (show ¬ a.toNat ≤ ys.length by omega), Prod.mk.injEq, decide_eq_true_iff]
          constructor
          · rintro rfl; exact ⟨by omega, rfl⟩
          · exact fun e => e.2.symm
end Mine
end

section
open PySem PySem.W PyProof.Rows PySem.Calls
namespace Mine
open PySem.Builtin PySem.Builtin.Str
theorem range_nat (l h : Nat) : sliceRange (l : Int) (h : Int) 1 = (List.range (h - l)).map (fun k => l + k) := by
  unfold sliceRange
  simp only [show ((1 : Int) > 0) = True from by simp, if_true]
  by_cases hlt : (l : Int) < h
  · rw [if_pos hlt]
    have e3 : (((h : Int) - l + 1 - 1) / 1).toNat = h - l := by first | omega | (simp; done) | (simp; omega)
    rw [e3]
    refine List.map_congr_left fun k _ => ?_
    omega
  · rw [if_neg hlt]
    have : h - l = 0 := by omega
    simp [this]
theorem hi_le (v : Option Int) (n : Nat) : kms_hi v n ≤ n := by
  unfold kms_hi
  cases v with
  | none => exact Nat.le_refl _
  | some y => dsimp only; split <;> omega
theorem picks_eq {α : Type} (l : List α) (lo hi : Option Int) : ((List.range (kms_hi hi l.length - kms_lo lo l.length)).map (fun k => kms_lo lo l.length + k)).filterMap (l[·]?) = pickL l lo hi := by
  unfold pickL
  have := hi_le hi l.length
  by_cases h : kms_lo lo l.length ≤ kms_hi hi l.length
  · exact StrLaws.picks l _ _ (by omega)
  · have e : kms_hi hi l.length - kms_lo lo l.length = 0 := by omega
    rw [e]; simp
theorem slice_pick (x : Str) (lo hi : Option Int) : (Txt.slice x lo hi).cps.toList = pickL x.cps.toList lo hi := by
  have hl : x.cps.toList.length = x.length := Array.length_toList
  have e : strSliceIndices lo hi 1 x.length = (List.range (kms_hi hi x.length - kms_lo lo x.length)).map (fun k => kms_lo lo x.length + k) := by
    rw [← range_nat]
    have hb := kms_bounds lo hi x.length
    have e1 : strSliceIndices lo hi 1 x.length = sliceRange (sliceBounds lo hi none x.length).1 (sliceBounds lo hi none x.length).2.1 1 := by
      cases lo <;> cases hi <;> rfl
    rw [e1, hb]
  unfold Txt.slice
  rw [e]
  split
  · rename_i h
    simp at h
    have := hi_le hi x.length
    have e0 : kms_lo lo x.length = 0 ∨ x.length = 0 := by omega
    unfold pickL
    rw [hl]
    rcases e0 with e0 | e0
    · rw [e0, List.drop_zero, List.take_of_length_le (by omega)]
    · have : x.cps.toList = [] := List.eq_nil_of_length_eq_zero (by omega)
      rw [this]; simp
  · have h2 := picks_eq x.cps.toList lo hi
    rw [hl] at h2
    rw [← h2]; simp
theorem bytes_pick (b : Array UInt8) (lo hi : Option Int) : (KBy.picked b lo hi).toList = pickL b.toList lo hi := by
  unfold KBy.picked Bytes.sliced
  rw [kms_bounds]
  dsimp only
  rw [range_nat]
  have h2 := picks_eq b.toList lo hi
  rw [Array.length_toList] at h2
  rw [← h2]; simp
theorem pick_ab {α : Type} (l : List α) (a b : Nat) : pickL l (some (a : Int)) (some (b : Int)) = (l.drop a).take (b - a) := by
  unfold pickL kms_lo kms_hi
  dsimp only
  rw [if_neg (by omega), if_neg (by omega), Int.toNat_natCast, Int.toNat_natCast]
  by_cases h : a ≤ l.length
  · rw [Nat.min_eq_left h, List.take_eq_take_min (i := b - a), List.length_drop]
    congr 1; omega
  · rw [List.drop_of_length_le (i := a) (by omega), Nat.min_eq_right (show l.length ≤ a by omega), List.drop_of_length_le (Nat.le_refl _)]; simp
theorem pick_0b {α : Type} (l : List α) (b : Nat) : pickL l none (some (b : Int)) = l.take b := by
  rw [pick_to _ (by omega), Int.toNat_natCast]
theorem pick_a0 {α : Type} (l : List α) (a : Nat) : pickL l (some (a : Int)) none = l.drop a := by
  unfold pickL kms_lo kms_hi
  dsimp only
  rw [if_neg (by omega), Int.toNat_natCast]
  by_cases h : a ≤ l.length
  · rw [Nat.min_eq_left h, List.take_of_length_le (by rw [List.length_drop]; omega)]
  · rw [List.drop_of_length_le (i := a) (by omega), Nat.min_eq_right (by omega), List.drop_of_length_le (Nat.le_refl _)]; simp

/-- the signs of a text -/
abbrev sg (x : Str) : List Nat := x.cps.toList
theorem sg_inj {x y : Str} : sg x = sg y ↔ x = y := ⟨fun h => PySem.Str.ext' (Array.toList_inj.mp h), fun h => by rw [h]⟩
theorem sg_len (x : Str) : (sg x).length = x.length := Array.length_toList
theorem sg_app (x y : Str) : sg (x ++ y) = sg x ++ sg y := by
  show (x.cps ++ y.cps).toList = _
  simp [sg]
theorem sg_slash : sg (Str.ofString "/") = [47] := by decide +kernel
theorem sg_dot : sg (Str.ofString ".") = [46] := by decide +kernel
theorem sg_dots : sg (Str.ofString "..") = [46, 46] := by decide +kernel
theorem sg_none : sg (Str.ofString "") = [] := by decide +kernel
theorem sg_z : sg (Str.ofString "z") = [122] := by decide +kernel
theorem beq_sg {x y : Str} {l : List Nat} (e : sg y = l) : ((x == y) = true) ↔ sg x = l := by rw [beq_iff_eq, ← e, sg_inj]
theorem bne_sg {x y : Str} {l : List Nat} (e : sg y = l) : ((x != y) = true) ↔ sg x ≠ l := by rw [bne_iff_ne, ne_eq, ne_eq, ← e, sg_inj]
theorem len0_sg {x : Str} : x.length = 0 ↔ sg x = [] := by rw [← sg_len]; exact List.length_eq_zero_iff
theorem sg_join (sep : Str) : ∀ ps : List Str, sg (Str.join sep ps) = joinL (sg sep) (ps.map sg)
  | [] => rfl
  | [x] => by simp [Str.join, joinL]
  | x :: y :: r => by
    have ih := sg_join sep (y :: r)
    rw [List.map_cons, List.map_cons, joinL_cons, ← List.map_cons, ← ih]
    show sg (x ++ sep ++ Str.join sep (y :: r)) = _
    rw [sg_app, sg_app, List.append_assoc]
theorem sg_tjoin (sep : Str) (ps : List Str) : sg (Txt.join sep ps) = joinL (sg sep) (ps.map sg) := by
  rw [← sg_join]
  show sg (glued sep ps) = _
  rw [StrLaws.glued_eq_join]
theorem sg_split (x : Str) : (Txt.split x (Str.ofString "/")).map sg = splitG 47 (sg x) := by
  have e : Str.ofString "/" = ⟨#[47]⟩ := by decide +kernel
  rw [e]
  have h1 := StrLaws.join_split x ⟨#[47]⟩
  have h2 := StrLaws.split_free x 47
  have h3 := split_pos x ⟨#[47]⟩
  generalize Txt.split x ⟨#[47]⟩ = ps at h1 h2 h3
  rw [← h1, sg_join]
  symm
  refine splitG_join (fun h => ?_) (fun p hp => ?_)
  · have : ps = [] := List.map_eq_nil_iff.mp h
    rw [this] at h3; simp at h3
  · obtain ⟨q, hq, rfl⟩ := List.mem_map.mp hp
    exact h2 q hq
theorem sg_step (r : Str) (acc : List Str) (c : Str) : (stepS r acc c).map sg = stepG 46 (decide (sg r ≠ [])) (acc.map sg) (sg c) := by
  unfold stepS stepG
  simp only [len0_sg, beq_sg sg_dot, bne_sg sg_dots, beq_sg sg_dots]
  by_cases h1 : sg c = []
  · rw [if_pos h1, if_pos h1]
  rw [if_neg h1, if_neg h1]
  by_cases h2 : sg c = [46]
  · rw [if_pos h2, if_pos h2]
  rw [if_neg h2, if_neg h2]
  by_cases h3 : sg c ≠ [46, 46]
  · rw [if_pos h3, if_pos h3]; simp
  rw [if_neg h3, if_neg h3, List.getLast?_map]
  cases acc.getLast? with
  | none =>
    show List.map sg (if sg r = [] then [c] else []) = if decide (sg r ≠ []) = true then [] else [sg c]
    by_cases h4 : sg r = []
    · rw [if_pos h4, if_neg (by simp [h4])]; rfl
    · rw [if_neg h4, if_pos (by simp [h4])]; rfl
  | some y =>
    show List.map sg (if sg y = [46, 46] then acc ++ [c] else acc.dropLast) = if sg y = [46, 46] then List.map sg acc ++ [sg c] else (List.map sg acc).dropLast
    split <;> simp
theorem sg_fold (r : Str) : ∀ (ps acc : List Str), (ps.foldl (stepS r) acc).map sg = foldG 46 (decide (sg r ≠ [])) (acc.map sg) (ps.map sg)
  | [], _ => rfl
  | p :: ps, acc => by rw [List.foldl_cons, sg_fold r ps, sg_step]; rfl
theorem sg_root (x : Str) : (sg (rootS x).1, sg (rootS x).2) = rootG 47 (sg x) := by
  have e1 := (slice_pick x none (some 1)).trans (pick_0b _ 1)
  have e2 := (slice_pick x (some 1) (some 2)).trans (pick_ab _ 1 2)
  have e3 := (slice_pick x (some 2) (some 3)).trans (pick_ab _ 2 3)
  have e4 := (slice_pick x (some 1) none).trans (pick_a0 _ 1)
  have e5 := (slice_pick x none (some 2)).trans (pick_0b _ 2)
  have e6 := (slice_pick x (some 2) none).trans (pick_a0 _ 2)
  unfold rootS rootG
  simp only [bne_sg sg_slash, beq_sg sg_slash]
  rw [show sg (Txt.slice x none (some 1)) = _ from e1, show sg (Txt.slice x (some 1) (some 2)) = _ from e2, show sg (Txt.slice x (some 2) (some 3)) = _ from e3]
  by_cases h1 : (sg x).take 1 ≠ [47]
  · rw [if_pos h1, if_pos h1]; simp only [sg_none]
  rw [if_neg h1, if_neg h1]
  by_cases h2 : ((sg x).drop 1).take 1 ≠ [47]
  · rw [if_pos h2, if_pos h2]; simp only [sg_slash]; exact congrArg _ e4
  rw [if_neg h2, if_neg h2]
  by_cases h3 : ((sg x).drop 2).take 1 = [47]
  · rw [if_pos h3, if_pos h3]; simp only [sg_slash]; exact congrArg _ e4
  · rw [if_neg h3, if_neg h3]
    exact Prod.ext e5 e6
theorem sg_norm (x : Str) : sg (normS x) = normG 47 46 (sg x) := by
  have hr := sg_root x
  have h1 : sg (rootS x).1 = (rootG 47 (sg x)).1 := congrArg Prod.fst hr
  have h2 : sg (rootS x).2 = (rootG 47 (sg x)).2 := congrArg Prod.snd hr
  unfold normS normG
  simp only [len0_sg]
  by_cases h0 : sg x = []
  · rw [if_pos h0, if_pos h0, sg_dot]
  rw [if_neg h0, if_neg h0]
  have hp : sg ((rootS x).1 ++ Txt.join (Str.ofString "/") ((Txt.split (rootS x).2 (Str.ofString "/")).foldl (stepS (rootS x).1) [])) = (rootG 47 (sg x)).1 ++ joinL [47] (foldG 46 (decide ((rootG 47 (sg x)).1 ≠ [])) [] (splitG 47 (rootG 47 (sg x)).2)) := by
    rw [sg_app, sg_tjoin, sg_slash, sg_fold, sg_split, h1, h2]; rfl
  rw [← hp]
  split
  · exact sg_dot
  · rfl
theorem sg_joined (x y : Str) : sg (joinS x y) = joinG 47 (sg x) (sg y) := by
  have hs : (Txt.startswith y (Str.ofString "/") = true) ↔ (sg y).take 1 = [47] := by
    unfold Txt.startswith
    rw [StrLaws.subAt_eq, Bool.and_eq_true, decide_eq_true_iff, beq_iff_eq, List.drop_zero]
    show (0 + (Str.ofString "/").length ≤ y.length ∧ (sg y).take (Str.ofString "/").length = sg (Str.ofString "/")) ↔ _
    rw [sg_slash, show (Str.ofString "/").length = 1 from by decide +kernel, ← sg_len]
    refine ⟨fun h => h.2, fun h => ⟨?_, h⟩⟩
    cases hy : sg y with
    | nil => rw [hy] at h; simp at h
    | cons a l => simp
  have he : (Txt.endswith x (Str.ofString "/") = true) ↔ (sg x).getLast? = some 47 := by
    unfold Txt.endswith
    rw [StrLaws.subAt_eq, Bool.and_eq_true, decide_eq_true_iff, beq_iff_eq]
    show (0 + (Str.ofString "/").length ≤ x.length ∧ ((sg x).drop (x.length - (Str.ofString "/").length)).take (Str.ofString "/").length = sg (Str.ofString "/")) ↔ _
    rw [sg_slash, show (Str.ofString "/").length = 1 from by decide +kernel, ← sg_len]
    rcases List.eq_nil_or_concat (sg x) with h | ⟨l, a, h⟩
    · rw [h]; simp
    · rw [h, List.concat_eq_append]; simp
  unfold joinS joinG
  rw [← sg_len] at *
  simp only [hs, he]
  have h0 : (((sg x).length : Nat) : Int) = 0 ↔ sg x = [] := by rw [← List.length_eq_zero_iff]; omega
  simp only [h0]
  repeat' split
  all_goals first | rfl | (rw [sg_app]; done) | (rw [sg_app, sg_app, sg_slash]; rfl)
end Mine
end

section
open PySem PySem.W PyProof.Rows PySem.Calls
namespace Mine
open PySem.Builtin
def posF (c : UInt8) : Nat → List UInt8 → List Nat
  | _, [] => []
  | k, a :: r => if a = c then k :: posF c (k + 1) r else posF c (k + 1) r
theorem posF_len (c : UInt8) : ∀ (k : Nat) (l : List UInt8), (posF c k l).length ≤ l.length
  | _, [] => Nat.le_refl _
  | k, a :: r => by
    have ih := posF_len c (k + 1) r
    unfold posF
    split <;> simp <;> omega
theorem drop_cons {α : Type} {l r : List α} {a : α} {k : Nat} (h : l.drop k = a :: r) : l.drop (k + 1) = r ∧ k < l.length := by
  constructor
  · rw [← List.drop_drop, h]; rfl
  · rcases Nat.lt_or_ge k l.length with h1 | h1
    · exact h1
    · rw [List.drop_of_length_le h1] at h; cases h
theorem occ_fold (b : Array UInt8) (c : UInt8) : ∀ (r : List UInt8) (k : Nat) (acc : List Nat) (last : Nat), b.toList.drop k = r → last ≤ k →
    ((List.range' k r.length).foldl (fun (acc : List Nat × Nat) (i : Nat) => if (decide (i ≥ acc.2) && b.extract i (i + 1) == #[c]) = true then (i :: acc.1, i + 1) else acc) (acc, last)).1 = (posF c k r).reverse ++ acc
  | [], _, _, _, _, _ => rfl
  | a :: r, k, acc, last, h, hl => by
    obtain ⟨h1, h2⟩ := drop_cons h
    rw [List.length_cons, List.range'_succ, List.foldl_cons]
    have hx : (b.extract k (k + 1) == #[c]) = decide (a = c) := by
      have e : (b.extract k (k + 1)).toList = [a] := by
        rw [Array.toList_extract, List.extract_eq_take_drop, h]
        simp
      rw [Bool.eq_iff_iff, beq_iff_eq, decide_eq_true_iff, ← Array.toList_inj, e]
      simp
    dsimp only
    rw [hx, decide_eq_true (show k ≥ last from hl), Bool.true_and]
    unfold posF
    by_cases e : a = c
    · rw [if_pos (decide_eq_true e), if_pos e, occ_fold b c r (k + 1) _ _ h1 (Nat.le_refl _)]; simp
    · rw [if_neg (by simpa using e), if_neg e, occ_fold b c r (k + 1) _ _ h1 (by omega)]
theorem occ_eq (b : Array UInt8) (c : UInt8) : Bytes.occurrences b #[c] 0 b.size = posF c 0 b.toList := by
  have h := occ_fold b c b.toList 0 [] 0 rfl (Nat.le_refl _)
  unfold Bytes.occurrences
  have e : (List.range (b.size + 1 - (0 + (#[c] : Array UInt8).size))).map (· + 0) = List.range' 0 b.toList.length := by
    rw [show (#[c] : Array UInt8).size = 1 from rfl, show b.size + 1 - (0 + 1) = b.toList.length by rw [Array.length_toList]; omega, List.range_eq_range']
    simp
  rw [e]
  have h2 := congrArg List.reverse h
  rw [List.append_nil, List.reverse_reverse] at h2
  exact h2
theorem cut_fold (b : Array UInt8) (c : UInt8) : ∀ (r : List UInt8) (k : Nat) (parts : Array (Array UInt8)) (last : Nat), b.toList.drop k = r → last ≤ k →
    let st := (posF c k r).foldl (fun (x : Array (Array UInt8) × Nat) p => (x.1.push (b.extract x.2 p), p + 1)) (parts, last)
    ((st.1.push (b.extract st.2 b.size)).toList.map (·.toList)) = parts.toList.map (·.toList) ++ (match splitG c r with | [] => [] | p :: ps => ((b.toList.drop last).take (k - last) ++ p) :: ps)
  | [], k, parts, last, h, hl => by
    have hk : b.toList.length ≤ k := by
      rcases Nat.lt_or_ge k b.toList.length with h1 | h1
      · have := List.length_drop (i := k) (l := b.toList); rw [h] at this; simp at this; simp at h1; omega
      · exact h1
    simp only [posF, List.foldl_nil, splitG]
    rw [Array.toList_push, List.map_append]
    congr 1
    simp only [List.map_cons, List.map_nil, List.append_nil]
    rw [Array.toList_extract, List.extract_eq_take_drop, ← Array.length_toList, List.take_of_length_le (by simp), List.take_of_length_le (by simp at hk ⊢; omega)]
  | a :: r, k, parts, last, h, hl => by
    obtain ⟨h1, h2⟩ := drop_cons h
    have htk : (b.toList.drop last).take (k + 1 - last) = (b.toList.drop last).take (k - last) ++ [a] := by
      rw [show k + 1 - last = (k - last) + 1 by omega, List.take_add_one, List.getElem?_drop, show last + (k - last) = k by omega]
      have : b.toList[k]? = some a := by rw [← List.head?_drop, h]; rfl
      rw [this]; rfl
    unfold posF splitG
    by_cases e : a = c
    · rw [if_pos e, if_pos e]
      have ih := cut_fold b c r (k + 1) (parts.push (b.extract last k)) (k + 1) h1 (Nat.le_refl _)
      rw [List.foldl_cons]
      dsimp only at ih ⊢
      rw [ih, Array.toList_push, List.map_append, Nat.sub_self, List.take_zero, List.append_assoc]
      congr 1
      rw [List.append_nil, List.map_cons, List.map_nil, Array.toList_extract, List.extract_eq_take_drop]
      cases hs : splitG c r with
      | nil => exact absurd hs (splitG_ne r)
      | cons p ps => rfl
    · rw [if_neg e, if_neg e]
      have ih := cut_fold b c r (k + 1) parts last h1 (by omega)
      dsimp only at ih ⊢
      rw [ih, htk]
      congr 1
      cases hs : splitG c r with
      | nil => exact absurd hs (splitG_ne r)
      | cons p ps => simp
theorem splitB_eq (b : Array UInt8) (c : UInt8) : (splitB b #[c]).map (·.toList) = splitG c b.toList := by
  have h := cut_fold b c b.toList 0 #[] 0 rfl (Nat.le_refl _)
  have e : (Bytes.occurrences b #[c] 0 b.size).take (b.size + 1) = posF c 0 b.toList := by
    rw [occ_eq, List.take_of_length_le]
    have := posF_len c 0 b.toList
    have e2 : b.toList.length = b.size := Array.length_toList
    omega
  have hb : (Bytes.between b (#[c] : Array UInt8).size (posF c 0 b.toList)).map (·.toList) = splitG c b.toList := by
    refine h.trans ?_
    cases hs : splitG c b.toList with
    | nil => exact absurd hs (splitG_ne _)
    | cons p ps => simp
  unfold splitB
  rw [e]
  split
  · rename_i h0
    have h1 : posF c 0 b.toList = [] := List.isEmpty_iff.mp h0
    rw [← hb, h1]
    unfold Bytes.between
    simp
  · exact hb
abbrev oc (x : Array UInt8) : List UInt8 := x.toList
theorem oc_len0 {x : Array UInt8} : x.size = 0 ↔ oc x = [] := by rw [← Array.length_toList]; exact List.length_eq_zero_iff
theorem oc_step (r : Array UInt8) (acc : List (Array UInt8)) (c : Array UInt8) : (stepB r acc c).map oc = stepG 46 (decide (oc r ≠ [])) (acc.map oc) (oc c) := by
  unfold stepB stepG
  simp only [oc_len0, beq_iff_eq, bne_iff_ne]
  by_cases h1 : oc c = []
  · rw [if_pos h1, if_pos h1]
  rw [if_neg h1, if_neg h1]
  by_cases h2 : oc c = [46]
  · rw [if_pos h2, if_pos h2]
  rw [if_neg h2, if_neg h2]
  by_cases h3 : oc c ≠ [46, 46]
  · rw [if_pos h3, if_pos h3]; simp
  rw [if_neg h3, if_neg h3, List.getLast?_map]
  cases acc.getLast? with
  | none =>
    show List.map oc (if oc r = [] then [c] else []) = if decide (oc r ≠ []) = true then [] else [oc c]
    by_cases h4 : oc r = []
    · rw [if_pos h4, if_neg (by simp [h4])]; rfl
    · rw [if_neg h4, if_pos (by simp [h4])]; rfl
  | some y =>
    show List.map oc (if oc y = [46, 46] then acc ++ [c] else acc.dropLast) = if oc y = [46, 46] then List.map oc acc ++ [oc c] else (List.map oc acc).dropLast
    split <;> simp
theorem oc_fold (r : Array UInt8) : ∀ (ps acc : List (Array UInt8)), (ps.foldl (stepB r) acc).map oc = foldG 46 (decide (oc r ≠ [])) (acc.map oc) (ps.map oc)
  | [], _ => rfl
  | p :: ps, acc => by rw [List.foldl_cons, oc_fold r ps, oc_step]; rfl
theorem oc_root (x : Array UInt8) : (oc (rootB x).1, oc (rootB x).2) = rootG 47 (oc x) := by
  have e1 := (bytes_pick x none (some 1)).trans (pick_0b _ 1)
  have e2 := (bytes_pick x (some 1) (some 2)).trans (pick_ab _ 1 2)
  have e3 := (bytes_pick x (some 2) (some 3)).trans (pick_ab _ 2 3)
  have e4 := (bytes_pick x (some 1) none).trans (pick_a0 _ 1)
  have e5 := (bytes_pick x none (some 2)).trans (pick_0b _ 2)
  have e6 := (bytes_pick x (some 2) none).trans (pick_a0 _ 2)
  unfold rootB rootG
  rw [e1, e2, e3]
  simp only [beq_iff_eq, bne_iff_ne]
  by_cases h1 : (oc x).take 1 ≠ [47]
  · rw [if_pos h1, if_pos h1]
  rw [if_neg h1, if_neg h1]
  by_cases h2 : ((oc x).drop 1).take 1 ≠ [47]
  · rw [if_pos h2, if_pos h2]; exact congrArg _ e4
  rw [if_neg h2, if_neg h2]
  by_cases h3 : ((oc x).drop 2).take 1 = [47]
  · rw [if_pos h3, if_pos h3]; exact congrArg _ e4
  · rw [if_neg h3, if_neg h3]
    exact Prod.ext e5 e6
theorem oc_norm (x : Array UInt8) : oc (normB x) = normG 47 46 (oc x) := by
  have hr := oc_root x
  have h1 : oc (rootB x).1 = (rootG 47 (oc x)).1 := congrArg Prod.fst hr
  have h2 : oc (rootB x).2 = (rootG 47 (oc x)).2 := congrArg Prod.snd hr
  unfold normB normG
  simp only [oc_len0]
  by_cases h0 : oc x = []
  · rw [if_pos h0, if_pos h0]
  rw [if_neg h0, if_neg h0]
  have hp : oc ((rootB x).1 ++ Bytes.joined #[47] ((splitB (rootB x).2 #[47]).foldl (stepB (rootB x).1) [])) = (rootG 47 (oc x)).1 ++ joinL [47] (foldG 46 (decide ((rootG 47 (oc x)).1 ≠ [])) [] (splitG 47 (rootG 47 (oc x)).2)) := by
    show ((rootB x).1 ++ _).toList = _
    rw [Array.toList_append, joined_toList]
    have h3 := oc_fold (rootB x).1 (splitB (rootB x).2 #[47]) []
    rw [show (splitB (rootB x).2 #[47]).map oc = splitG 47 (oc (rootB x).2) from splitB_eq _ _, h1, h2] at h3
    show oc (rootB x).1 ++ _ = _
    rw [h1]
    exact congrArg (fun z => (rootG 47 (oc x)).1 ++ joinL [47] z) h3
  rw [← hp]
  split <;> rfl
theorem oc_joined (x y : Array UInt8) : oc (joinB x y) = joinG 47 (oc x) (oc y) := by
  have hs : (swB y #[47] = true) ↔ (oc y).take 1 = [47] := by
    unfold swB
    show (if ((y.size : Nat) : Int) - 0 < ((1 : Nat) : Int) then false else y.extract 0 (0 + 1) == #[47]) = true ↔ _
    by_cases h : ((y.size : Nat) : Int) - 0 < ((1 : Nat) : Int)
    · rw [if_pos h]
      have : oc y = [] := oc_len0.mp (by omega)
      rw [this]; simp
    · rw [if_neg h, beq_iff_eq, ← Array.toList_inj, Array.toList_extract, List.extract_eq_take_drop]
      simp [oc]
  have he : (ewB x #[47] = true) ↔ (oc x).getLast? = some 47 := by
    unfold ewB
    show (if ((x.size : Nat) : Int) - 0 < ((1 : Nat) : Int) then false else x.extract (x.size - 1) x.size == #[47]) = true ↔ _
    by_cases h : ((x.size : Nat) : Int) - 0 < ((1 : Nat) : Int)
    · rw [if_pos h]
      have : oc x = [] := oc_len0.mp (by omega)
      rw [this]; simp
    · rw [if_neg h, beq_iff_eq, ← Array.toList_inj, Array.toList_extract, List.extract_eq_take_drop, ← Array.length_toList]
      rcases List.eq_nil_or_concat (oc x) with h | ⟨l, a, h⟩
      · have h' : x.toList = [] := h
        rw [h, h']; simp
      · have h' : x.toList = l.concat a := h
        rw [h, h', List.concat_eq_append]; simp
  unfold joinB joinG
  simp only [hs, he]
  have h0 : ((x.size : Nat) : Int) = 0 ↔ oc x = [] := by rw [← oc_len0]; omega
  simp only [h0]
  repeat' split
  all_goals first | rfl | simp [oc]
/-- the same, seen as texts -/
theorem latin_sg {x : Str} (hx : ∀ c ∈ x.cps.toList, c < 256) : (oc (latin x)).map UInt8.toNat = sg x := by
  rw [latin_eq]
  show ((x.cps.toList.map (·.toUInt8)).toArray.toList).map UInt8.toNat = _
  rw [List.map_map]
  conv => rhs; rw [← List.map_id (sg x)]
  refine List.map_congr_left fun c hc => ?_
  have := hx c hc
  show (c.toUInt8).toNat = c
  simp
  omega
theorem eq_bytes {x y : Str} (hx : ∀ c ∈ x.cps.toList, c < 256) (hy : ∀ c ∈ y.cps.toList, c < 256) :
    ((normB (joinB (latin x) (latin y))).toList == (normB (joinB (latin y) (latin x))).toList) = (normS (joinS x y) == normS (joinS y x)) := by
  have hg : ∀ a b : UInt8, a.toNat = b.toNat → a = b := fun a b h => UInt8.toNat_inj.mp h
  have key : ∀ {u v : Str}, (∀ c ∈ u.cps.toList, c < 256) → (∀ c ∈ v.cps.toList, c < 256) → (oc (normB (joinB (latin u) (latin v)))).map UInt8.toNat = sg (normS (joinS u v)) := by
    intro u v hu hv
    rw [oc_norm, oc_joined, sg_norm, sg_joined, ← latin_sg hu, ← latin_sg hv]
    rw [show (47 : Nat) = UInt8.toNat 47 from rfl, show (46 : Nat) = UInt8.toNat 46 from rfl, joinG_map hg, normG_map hg]
  rw [Bool.eq_iff_iff, beq_iff_eq, beq_iff_eq, ← sg_inj, ← key hx hy, ← key hy hx]
  constructor
  · intro h; exact congrArg _ h
  · intro h
    exact (List.map_inj_right (fun a b h => hg a b h)).mp h
end Mine
end

section
open PySem PySem.W PyProof.Rows PySem.Calls
namespace Mine
open PySem.Builtin
/-- a name as the law makes them -/
def Good (y : Str) : Prop := Nm 47 46 (sg y) ∧ y.length ≤ 3 ∧ ∀ c ∈ sg y, c < 256
theorem good_of {y : Str} {l : List Nat} (e : sg y = l) (h1 : Nm 47 46 l) (h2 : l.length ≤ 3) (h3 : ∀ c ∈ l, c < 256) : Good y := by
  subst e
  exact ⟨h1, by rw [← sg_len]; exact h2, h3⟩
theorem nm_two {a b : Nat} (h1 : a ≠ 46) (h2 : a ≠ 47) (h3 : b ≠ 47) : Nm 47 46 [a, b] := by
  refine ⟨by simp, by simp, by simp [h1], by simp [h2.symm, h3.symm]⟩
theorem nm_one {a : Nat} (h1 : a ≠ 46) (h2 : a ≠ 47) : Nm 47 46 [a] := by
  refine ⟨by simp, by simp [h1], by simp, by simp [h2.symm]⟩
theorem good_z : Good (Str.ofString "z") := good_of sg_z (nm_one (by decide) (by decide)) (by decide) (by decide)
theorem good_zz : Good (Str.ofString "zz") := good_of (l := [122, 122]) (by decide +kernel) (nm_two (by decide) (by decide) (by decide)) (by decide) (by decide)
theorem name_good (x : Int) : Good (nameS x) := by
  unfold nameS
  split
  · exact good_of (l := [97]) (by decide +kernel) (nm_one (by decide) (by decide)) (by decide) (by decide)
  split
  · exact good_of (l := [98]) (by decide +kernel) (nm_one (by decide) (by decide)) (by decide) (by decide)
  split
  · exact good_of (l := [97, 98]) (by decide +kernel) (nm_two (by decide) (by decide) (by decide)) (by decide) (by decide)
  split
  · exact good_of (l := [97, 46, 98]) (by decide +kernel) ⟨by simp, by simp, by simp, by simp⟩ (by decide) (by decide)
  split
  · exact good_of (l := [97, 45]) (by decide +kernel) (nm_two (by decide) (by decide) (by decide)) (by decide) (by decide)
  split
  · exact good_of (l := [99]) (by decide +kernel) (nm_one (by decide) (by decide)) (by decide) (by decide)
  split
  · exact good_of (l := [97, 99]) (by decide +kernel) (nm_two (by decide) (by decide) (by decide)) (by decide) (by decide)
  · rename_i h
    have h0 : ((x.fdiv 7).fmod 256).toNat < 256 := by
      have h1 : (x.fdiv 7).fmod 256 < 256 := Int.fmod_lt_of_pos _ (by decide)
      have h2 : 0 ≤ (x.fdiv 7).fmod 256 := Int.fmod_nonneg_of_pos _ (by decide)
      omega
    generalize ((x.fdiv 7).fmod 256).toNat = c at h h0
    have hc : c ≠ 47 := fun e => h (by rw [e]; decide +kernel)
    refine good_of (l := [97, c]) ?_ (nm_two (by decide) (by decide) hc) (by simp) ?_
    · rw [sg_app, show sg (Str.ofString "a") = [97] by decide +kernel]
      simp [sg]
    · intro d hd
      rcases List.mem_cons.mp hd with rfl | hd
      · decide
      · rw [List.mem_singleton.mp hd]; exact h0

/-- the signs are small -/
def Small (y : Str) : Prop := ∀ c ∈ sg y, c < 256
theorem extra_small {r : Int} {y : Str} (h : y ∈ extraS r) : Small y := by
  unfold extraS at h
  have h1 : Small (Str.ofString ".") := by unfold Small; rw [sg_dot]; decide
  have h2 : Small (Str.ofString "") := by unfold Small; rw [sg_none]; decide
  have h3 : Small (Str.ofString "z") := by unfold Small; rw [sg_z]; decide
  have h4 : Small (Str.ofString "..") := by unfold Small; rw [sg_dots]; decide
  repeat' split at h
  · cases h
  · rw [List.mem_singleton.mp h]; exact h1
  · rw [List.mem_singleton.mp h]; exact h2
  · rcases List.mem_cons.mp h with rfl | h
    · exact h3
    · rw [List.mem_singleton.mp h]; exact h4
theorem extra_ext (r : Int) : Ext 47 46 ((extraS r).map sg) := by
  unfold extraS
  split
  · exact .inl rfl
  split
  · exact .inr (.inl (by rw [List.map_cons, sg_dot]; rfl))
  split
  · exact .inr (.inr (.inl (by rw [List.map_cons, sg_none]; rfl)))
  · refine .inr (.inr (.inr ⟨[122], ?_, ?_⟩))
    · have := good_z.1; rw [sg_z] at this; exact this
    · rw [List.map_cons, List.map_cons, sg_z, sg_dots]; rfl
theorem sp_rows : ∀ (l : List Str) (st : List Str × Int), (∀ y ∈ l, Good y) → ∃ R, (l.foldl stepSp st).1 = st.1 ++ R ∧ Rows 47 46 (l.map sg) (R.map sg) ∧ ∀ y ∈ R, Small y
  | [], st, _ => ⟨[], by simp, .nil, fun _ h => nomatch h⟩
  | nm :: l, st, h => by
    obtain ⟨R, h1, h2, h3⟩ := sp_rows l (stepSp st nm) (fun y hy => h y (.tail _ hy))
    refine ⟨nm :: (extraS (st.2.fmod 4) ++ R), ?_, ?_, ?_⟩
    · rw [List.foldl_cons, h1]
      show st.1 ++ [nm] ++ extraS (st.2.fmod 4) ++ R = _
      simp
    · rw [List.map_cons, List.map_cons, List.map_append]
      exact .cons (h nm (.head _)).1 (extra_ext _) h2
    · intro y hy
      rcases List.mem_cons.mp hy with rfl | hy
      · exact (h _ (.head _)).2.2
      · rcases List.mem_append.mp hy with hy | hy
        · exact extra_small hy
        · exact h3 y hy
theorem joinL_mem {s : List Nat} {c : Nat} : ∀ {ps : List (List Nat)}, c ∈ joinL s ps → c ∈ s ∨ ∃ p ∈ ps, c ∈ p
  | [], h => by cases h
  | p :: ps, h => by
    rcases List.mem_append.mp h with h | h
    · exact .inr ⟨p, .head _, h⟩
    · obtain ⟨q, hq, h⟩ := List.mem_flatMap.mp h
      rcases List.mem_append.mp h with h | h
      · exact .inl h
      · exact .inr ⟨q, .tail _ hq, h⟩
theorem sp_go {u : Nat} {q : Int} {l : List Str} (h : ∀ y ∈ l, Good y) : ∃ R, (spGo u q l).1 = List.replicate u (Str.ofString "..") ++ R ∧ Rows 47 46 (l.map sg) (R.map sg) ∧ ∀ y ∈ R, Small y :=
  sp_rows l _ h
theorem sp_spells {u : Int} {q : Int} {l : List Str} (h : ∀ y ∈ l, Good y) : Spells 47 46 u (l.map sg) (sg (spellS u l q)) := by
  obtain ⟨R, h1, h2, h3⟩ := sp_go (u := (if 0 > u then 0 else u).toNat) (q := q) h
  refine ⟨R.map sg, h2, ?_⟩
  unfold spellS
  rw [h1]
  by_cases hu : u < 0
  · rw [if_pos hu, if_pos hu, if_pos hu, sg_app, sg_tjoin, sg_slash]
    simp
  · rw [if_neg hu, if_neg hu, if_neg hu]
    have e : sg (Txt.join (Str.ofString "/") (List.replicate u.toNat (Str.ofString "..") ++ R)) = joinL [47] (List.replicate u.toNat [46, 46] ++ R.map sg) := by
      rw [sg_tjoin, sg_slash, List.map_append, List.map_replicate, sg_dots]
    have hh := up_head (dot := 46) (sl := 47) (by decide) (u := u.toNat) h2.ne
    simp only [len0_sg, e]
    generalize List.replicate u.toNat [46, 46] ++ R.map sg = P at e hh
    unfold finG
    rw [if_neg (show ¬ (false = true) by simp)]
    rcases hh with rfl | ⟨n, r, rfl, hn, _⟩
    · rw [if_pos (show joinL [47] ([] : List (List Nat)) = [] from rfl), if_pos rfl, sg_dot]
    · rw [if_neg (joinL_ne hn), if_neg (by simp), e]
theorem sp_small {u : Int} {q : Int} {l : List Str} (h : ∀ y ∈ l, Good y) : Small (spellS u l q) := by
  obtain ⟨R, h1, h2, h3⟩ := sp_go (u := (if 0 > u then 0 else u).toNat) (q := q) h
  have hj : Small (Txt.join (Str.ofString "/") (spGo (if 0 > u then 0 else u).toNat q l).1) := by
    intro c hc
    rw [sg_tjoin, sg_slash, h1] at hc
    rcases joinL_mem hc with hc | ⟨p, hp, hc⟩
    · rw [List.mem_singleton.mp hc]; decide
    · obtain ⟨y, hy, rfl⟩ := List.mem_map.mp hp
      rcases List.mem_append.mp hy with hy | hy
      · rw [(List.mem_replicate.mp hy).2, sg_dots] at hc
        rw [show c = 46 by simpa using hc]; decide
      · exact h3 y hy c hc
  unfold spellS
  generalize (if 0 > u then 0 else u).toNat = k at hj ⊢
  split
  · intro c hc
    rw [sg_app, sg_slash] at hc
    rcases List.mem_append.mp hc with hc | hc
    · rw [List.mem_singleton.mp hc]; decide
    · exact hj c hc
  · split
    · intro c hc
      rw [sg_dot] at hc
      rw [List.mem_singleton.mp hc]; decide
    · exact hj
theorem sp_short {u : Int} {q : Int} {l : List Str} (hu : u ≤ 10) (hl : l.length ≤ 10) (h : ∀ y ∈ l, Good y) : (spellS u l q).length ≤ 400 := by
  obtain ⟨h1, h2⟩ := spGo_small (u := (if 0 > u then 0 else u).toNat) (noise := q) (l := l) (fun y hy => (h y hy).2.1)
  have hj : (Txt.join (Str.ofString "/") (spGo (if 0 > u then 0 else u).toNat q l).1).length ≤ 300 := by
    have e : Txt.join (Str.ofString "/") (spGo (if 0 > u then 0 else u).toNat q l).1 = Str.join (Str.ofString "/") (spGo (if 0 > u then 0 else u).toNat q l).1 := StrLaws.glued_eq_join _ _
    rw [e]
    have h3 := StrLaws.join_length_le (Str.ofString "/") (spGo (if 0 > u then 0 else u).toNat q l).1
    have h4 := StrLaws.sumLen_le _ h1
    have e1 : (Str.ofString "/").length = 1 := by decide +kernel
    rw [e1] at h3
    have h5 : (if 0 > u then 0 else u).toNat ≤ 10 := by split <;> omega
    omega
  unfold spellS
  have e1 : (Str.ofString "/").length = 1 := by decide +kernel
  have e2 : (Str.ofString ".").length = 1 := by decide +kernel
  generalize (if 0 > u then 0 else u).toNat = k at hj ⊢
  split
  · rw [Str.length_append]; omega
  · split
    · omega
    · omega

theorem word_good {ns : List Int} : ∀ y ∈ wordL ns, Good y := by
  intro y hy
  obtain ⟨x, _, rfl⟩ := List.mem_map.mp hy
  exact name_good x
theorem tail_good {ns : List Int} : ∀ y ∈ tailL ns, Good y := by
  intro y hy
  obtain ⟨x, _, rfl⟩ := List.mem_map.mp hy
  exact name_good x
theorem more_good {ns : List Int} : ∀ y ∈ moreL ns, Good y := by
  intro y hy
  obtain ⟨x, _, rfl⟩ := List.mem_map.mp hy
  exact name_good x
theorem word_len {ns : List Int} (h16 : ns.length = 16) : ((wordL ns).length : Int) = 1 + (ns.getD 0 0).fmod 3 := by
  have f0 : (ns.getD 0 0).fmod 3 < 3 := Int.fmod_lt_of_pos _ (by decide)
  have f0' : 0 ≤ (ns.getD 0 0).fmod 3 := Int.fmod_nonneg_of_pos _ (by decide)
  unfold wordL
  rw [List.length_map, List.length_take, List.length_drop, h16]
  omega
theorem tail_len {ns : List Int} (h16 : ns.length = 16) : ((tailL ns).length : Int) = (ns.getD 1 0).fmod 3 := by
  have f0 : (ns.getD 1 0).fmod 3 < 3 := Int.fmod_lt_of_pos _ (by decide)
  have f0' : 0 ≤ (ns.getD 1 0).fmod 3 := Int.fmod_nonneg_of_pos _ (by decide)
  unfold tailL
  rw [List.length_map, List.length_take, List.length_drop, h16]
  omega
theorem more_len {ns : List Int} (h16 : ns.length = 16) : (moreL ns).length ≤ 3 := by
  have f0 : ((ns.getD 7 0).fdiv 3).fmod 4 < 4 := Int.fmod_lt_of_pos _ (by decide)
  have f0' : 0 ≤ ((ns.getD 7 0).fdiv 3).fmod 4 := Int.fmod_nonneg_of_pos _ (by decide)
  unfold moreL
  rw [List.length_map, List.length_take, List.length_drop, h16]
  omega
theorem pick_mem {α : Type} {l : List α} {lo hi : Option Int} {y : α} (h : y ∈ pickL l lo hi) : y ∈ l := List.mem_of_mem_drop (List.mem_of_mem_take h)
theorem pick_short {α : Type} (l : List α) (lo hi : Option Int) : (pickL l lo hi).length ≤ l.length := by
  unfold pickL
  rw [List.length_take, List.length_drop]; omega
def WalkOk (w : Int × List Str) : Prop := -1 ≤ w.1 ∧ w.1 ≤ 10 ∧ w.2.length ≤ 10 ∧ ∀ y ∈ w.2, Good y
theorem walks_all {ns : List Int} (h16 : ns.length = 16) : ∀ w ∈ walksS ns, WalkOk w := by
  have f0 : (ns.getD 0 0).fmod 3 < 3 := Int.fmod_lt_of_pos _ (by decide)
  have f0' : 0 ≤ (ns.getD 0 0).fmod 3 := Int.fmod_nonneg_of_pos _ (by decide)
  have f1 : (ns.getD 1 0).fmod 3 < 3 := Int.fmod_lt_of_pos _ (by decide)
  have f1' : 0 ≤ (ns.getD 1 0).fmod 3 := Int.fmod_nonneg_of_pos _ (by decide)
  have f6 : (ns.getD 6 0).fmod 2 < 2 := Int.fmod_lt_of_pos _ (by decide)
  have f6' : 0 ≤ (ns.getD 6 0).fmod 2 := Int.fmod_nonneg_of_pos _ (by decide)
  have f7 : (ns.getD 7 0).fmod 3 < 3 := Int.fmod_lt_of_pos _ (by decide)
  have f7' : 0 ≤ (ns.getD 7 0).fmod 3 := Int.fmod_nonneg_of_pos _ (by decide)
  have f9 : (ns.getD 9 0).fmod 3 < 3 := Int.fmod_lt_of_pos _ (by decide)
  have f9' : 0 ≤ (ns.getD 9 0).fmod 3 := Int.fmod_nonneg_of_pos _ (by decide)
  have lw := word_len h16
  have lt := tail_len h16
  have lm := more_len h16
  have lp := pick_short (wordL ns ++ tailL ns) none (some (-1))
  rw [List.length_append] at lp
  have gw := word_good (ns := ns)
  have gt := tail_good (ns := ns)
  have gm := more_good (ns := ns)
  have gwt : ∀ y ∈ wordL ns ++ tailL ns, Good y := fun y hy => (List.mem_append.mp hy).elim (gw y) (gt y)
  have gwwt : ∀ y ∈ wordL ns ++ wordL ns ++ tailL ns, Good y := fun y hy => (List.mem_append.mp hy).elim (fun h => (List.mem_append.mp h).elim (gw y) (gw y)) (gt y)
  have gp : ∀ y ∈ pickL (wordL ns ++ tailL ns) none (some (-1)) ++ [Str.ofString "zz"], Good y := fun y hy => (List.mem_append.mp hy).elim (fun h => gwt y (pick_mem h)) (fun h => by rw [List.mem_singleton.mp h]; exact good_zz)
  intro w hw
  unfold walksS at hw
  simp only [List.mem_cons, List.not_mem_nil, or_false] at hw
  rcases hw with rfl | rfl | rfl | rfl | rfl | rfl | rfl | rfl | rfl | rfl
  all_goals refine ⟨?_, ?_, ?_, ?_⟩
  all_goals dsimp only
  all_goals first
    | assumption
    | omega
    | (simp only [List.length_append, List.length_cons, List.length_nil]; omega)
    | exact fun _ h => nomatch h
theorem walks_at {ns : List Int} (h16 : ns.length = 16) (i : Nat) : WalkOk ((walksS ns).getD i (0, [])) := by
  rcases Nat.lt_or_ge i (walksS ns).length with h | h
  · rw [List.getD, List.getElem?_eq_getElem h]
    exact walks_all h16 _ (List.getElem_mem h)
  · rw [List.getD, List.getElem?_eq_none h]
    exact ⟨by decide, by decide, by decide, fun _ h => nomatch h⟩
theorem sp_len {ns : List Int} (h16 : ns.length = 16) (i : Nat) : (spelled ns i).length ≤ 400 := by
  obtain ⟨_, h2, h3, h4⟩ := walks_at h16 i
  exact sp_short h2 h3 h4
theorem sp_latin {ns : List Int} (h16 : ns.length = 16) (i : Nat) : ∀ c ∈ (spelled ns i).cps.toList, c < 256 := by
  obtain ⟨_, _, _, h4⟩ := walks_at h16 i
  exact sp_small h4
theorem walks_ok {ns : List Int} (h16 : ns.length = 16) (i : Nat) : -1 ≤ ((walksS ns).getD i (0, [])).1 ∧ ((walksS ns).getD i (0, [])).1 ≤ 10 ∧ ((walksS ns).getD i (0, [])).2.length ≤ 10 ∧ ∀ y ∈ ((walksS ns).getD i (0, [])).2, y.length ≤ 3 := by
  obtain ⟨h1, h2, h3, h4⟩ := walks_at h16 i
  exact ⟨h1, h2, h3, fun y hy => (h4 y hy).2.1⟩
theorem walks_tx {ns : List Int} (h16 : ns.length = 16) (i : Nat) : TxOk ((walksS ns).getD i (0, [])).2 := by
  obtain ⟨h1, h2, h3, h4⟩ := walks_at h16 i
  intro y hy
  show y.cps.all (· < 0x110000) = true
  rw [Array.all_eq_true']
  intro c hc
  have := (h4 y hy).2.2 c (by simpa using hc)
  exact decide_eq_true (by omega)
end Mine
end

section
open PySem PySem.W PyProof.Rows PySem.Calls
namespace Mine
open PySem.Builtin
theorem joinS_len {x y : Str} (hx : x.length ≤ 400) (hy : y.length ≤ 400) : (joinS x y).length ≤ 1000 := by
  have e1 : (Str.ofString "/").length = 1 := by decide +kernel
  unfold joinS
  repeat' split
  all_goals (try rw [Str.length_append])
  all_goals (try rw [Str.length_append])
  all_goals omega
theorem joinB_len {x y : Str} (hx : x.length ≤ 400) (hy : y.length ≤ 400) : (joinB (latin x) (latin y)).size ≤ 1000 := by
  have h1 := latin_size x
  have h2 := latin_size y
  unfold joinB
  repeat' split
  all_goals (try simp only [Array.size_append, List.size_toArray, List.length_cons, List.length_nil])
  all_goals omega
theorem eqP_bytes {ns : List Int} (h16 : ns.length = 16) (i j : Nat) :
    ((normB (joinB (latin (spelled ns i)) (latin (spelled ns j)))).toList == (normB (joinB (latin (spelled ns j)) (latin (spelled ns i)))).toList) = eqP ns i j :=
  eq_bytes (sp_latin h16 i) (sp_latin h16 j)
theorem pair_iff {a b : Int} {x y : List Str} {p q : Int} (ha : -1 ≤ a) (hb : -1 ≤ b) (hx : ∀ n ∈ x, Good n) (hy : ∀ n ∈ y, Good n) :
    normS (joinS (spellS a x p) (spellS b y q)) = normS (joinS (spellS b y q) (spellS a x p)) ↔ compo a x b y = compo b y a x := by
  have h1 := sp_spells (u := a) (q := p) hx
  have h2 := sp_spells (u := b) (q := q) hy
  have nx : ∀ n ∈ x.map sg, Nm 47 46 n := fun n hn => by
    obtain ⟨y, hy, rfl⟩ := List.mem_map.mp hn
    exact (hx y hy).1
  have ny : ∀ n ∈ y.map sg, Nm 47 46 n := fun n hn => by
    obtain ⟨z, hz, rfl⟩ := List.mem_map.mp hn
    exact (hy z hz).1
  rw [← sg_inj, sg_norm, sg_norm, sg_joined, sg_joined, norm_join (by decide) h1 h2, norm_join (by decide) h2 h1,
    cano_inj (by decide) (compo_sign ha) (compo_sign hb) (fun n hn => (compo_mem hn).elim (nx n) (ny n)) (fun n hn => (compo_mem hn).elim (ny n) (nx n)),
    compo_map, compo_map, Prod.mk.injEq, List.map_inj_right (fun a b h => sg_inj.mp h), ← Prod.ext_iff]
theorem law_pair {ns : List Int} (h16 : ns.length = 16) {i j : Nat} (_ : i < 10) (_ : j < 10) :
    eqP ns i j = dueL ((walksS ns).getD i (0, [])).1 ((walksS ns).getD i (0, [])).2 ((walksS ns).getD j (0, [])).1 ((walksS ns).getD j (0, [])).2 := by
  obtain ⟨a1, _, _, a4⟩ := walks_at h16 i
  obtain ⟨b1, _, _, b4⟩ := walks_at h16 j
  rw [Bool.eq_iff_iff, due_compo, ← pair_iff (p := (ns.getD i 0).fdiv 5) (q := (ns.getD j 0).fdiv 5) a1 b1 a4 b4]
  unfold eqP
  rw [beq_iff_eq]; rfl
theorem law_some {ns : List Int} (h16 : ns.length = 16) : eqP ns 0 1 = true ∧ eqP ns 7 8 = false := by
  have lw := word_len h16
  have lt := tail_len h16
  have f0' : 0 ≤ (ns.getD 0 0).fmod 3 := Int.fmod_nonneg_of_pos _ (by decide)
  have f1' : 0 ≤ (ns.getD 1 0).fmod 3 := Int.fmod_nonneg_of_pos _ (by decide)
  constructor
  · rw [law_pair h16 (by decide) (by decide), due_compo]
    show compo ((ns.getD 1 0).fmod 3) (tailL ns) ((ns.getD 1 0).fmod 3) (wordL ns ++ tailL ns) = compo ((ns.getD 1 0).fmod 3) (wordL ns ++ tailL ns) ((ns.getD 1 0).fmod 3) (tailL ns)
    unfold compo
    rw [if_neg (by omega), if_neg (by omega), if_pos (by omega), if_neg (by omega), if_neg (by omega), if_pos (by rw [List.length_append]; omega)]
    have e1 : (tailL ns).length - ((ns.getD 1 0).fmod 3).toNat = 0 := by omega
    have e2 : (wordL ns ++ tailL ns).length - ((ns.getD 1 0).fmod 3).toNat = (wordL ns).length := by rw [List.length_append]; omega
    rw [e1, e2, List.take_zero, List.nil_append, List.take_left]
  · rw [Bool.eq_false_iff, ne_eq, law_pair h16 (by decide) (by decide), due_compo]
    show ¬ compo (-1) (wordL ns ++ tailL ns) (-1) (tailL ns) = compo (-1) (tailL ns) (-1) (wordL ns ++ tailL ns)
    unfold compo
    rw [if_pos (by decide), if_pos (by decide), Prod.mk.injEq]
    intro h
    have := congrArg List.length h.2
    rw [List.length_append] at this
    omega
theorem innerN_le (f : Nat → Nat → Bool) (i : Nat) : ∀ j, 0 ≤ innerN f i j ∧ innerN f i j ≤ j
  | 0 => ⟨Int.le_refl _, Int.le_refl _⟩
  | j + 1 => by
    have ih := innerN_le f i j
    unfold innerN
    split <;> omega
theorem innerN_pos (f : Nat → Nat → Bool) (i : Nat) (h : f i (i + 1) = true) : ∀ j, 1 ≤ innerN f i (j + 1)
  | 0 => by
    show (1 : Int) ≤ 0 + if f i (i + 1 + 0) = true then 1 else 0
    rw [if_pos h]; decide
  | j + 1 => by
    have ih := innerN_pos f i h j
    unfold innerN
    split <;> omega
theorem innerN_less (f : Nat → Nat → Bool) (i : Nat) (h : f i (i + 1) = false) : ∀ j, innerN f i (j + 1) ≤ j
  | 0 => by
    show (0 + if f i (i + 1 + 0) = true then 1 else 0 : Int) ≤ 0
    rw [if_neg (show ¬ (f i (i + 1 + 0) = true) by simp [h])]; decide
  | j + 1 => by
    have ih := innerN_less f i h j
    rw [innerN]
    split <;> omega
theorem count_ok {f : Nat → Nat → Bool} (h1 : f 0 1 = true) (h2 : f 7 8 = false) : 0 < totalN f 10 ∧ totalN f 10 < 45 := by
  have a0 := innerN_le f 0 9
  have a1 := innerN_le f 1 8
  have a2 := innerN_le f 2 7
  have a3 := innerN_le f 3 6
  have a4 := innerN_le f 4 5
  have a5 := innerN_le f 5 4
  have a6 := innerN_le f 6 3
  have a7 := innerN_le f 7 2
  have a8 := innerN_le f 8 1
  have a9 := innerN_le f 9 0
  have b0 : 1 ≤ innerN f 0 9 := innerN_pos f 0 h1 8
  have b7 : innerN f 7 2 ≤ 1 := innerN_less f 7 h2 1
  have e : totalN f 10 = 0 + innerN f 0 9 + innerN f 1 8 + innerN f 2 7 + innerN f 3 6 + innerN f 4 5 + innerN f 5 4 + innerN f 6 3 + innerN f 7 2 + innerN f 8 1 + innerN f 9 0 := rfl
  rw [e]
  omega
end Mine
end

section
open PySem PySem.W PyProof.Rows PySem.Calls
namespace Mine
local macro_rules | `(tactic| walk_at "own pad0") => `(tactic| skip)
local macro_rules | `(tactic| walk_at "own my_steps") => `(tactic| repeat' (first | (k_unfold; (try dsimp only)) | walk1 | (dsimp only; walk1) | (leave1; (try dsimp only)) | fail "no step"))
local macro_rules | `(tactic| walk_at "own led_sub") => `(tactic| first | exact List.forall_mem_nil _ | (refine List.forall_mem_cons.mpr ⟨?_, ?_⟩; (focus k_mem); (walk_at "own led_sub")))
local macro_rules | `(tactic| walk_at "binaryOp Mult ref int") => `(tactic| (k_here; (with_reducible show wpAny _ _ (binaryOp Operator.Mult (Value.ref _) (Value.int _ _)) _ _ _); k_dflt (refine' KMa.mul ?F ?N ?l ?lo ?hi ?z ?e ?_; (case F => k_asm); (case N => k_asm); (case l => kmk_list); (case lo => omega); (case hi => omega); (case z => first | assumption | (simp only [List.length_cons, List.length_nil]; omega)); (case e => exact rfl); k_whole); intro D' h' F' N' l1; (try k_lt l1)))
local macro_rules | `(tactic| walk_at "own my_len") => `(tactic| first | omega | (simp only [List.length_append, List.length_cons, List.length_nil]; omega))
local macro_rules | `(tactic| walk_at "own texts") => `(tactic| first | assumption | exact TextsAre.nil | (apply TextsAre.append <;> (walk_at "own texts")) | (apply TextsAre.pick; (walk_at "own texts")) | (apply TextsAre.rep; (walk_at "own texts")) | (apply TextsAre.cons; (walk_at "own texts")))
local macro_rules | `(tactic| walk_at "own txoks") => `(tactic| first | assumption | exact TxOk.nil | (apply TxOk.append <;> (walk_at "own txoks")) | (apply TxOk.pick; (walk_at "own txoks")) | (apply TxOk.rep; (walk_at "own txoks")))
local macro_rules | `(tactic| walk_at "subscriptTail Name Slice ref ref") => `(tactic| (k_here; (with_reducible show wpAny _ _ (subscriptTail _ (PySem.Expr.Slice _ _ none _) (Value.ref _) (Value.ref _)) _ _ _); k_dflt (refine' slice_led ?F ?N ?l ?p ?q ?z ?_ ?s ?t; (case F => k_asm); (case N => k_asm); (case l => kmk_list); (case p => kmk_part); (case q => kmk_part); (case z => (walk_at "own my_len")); (case s => with_unfolding_all rfl); (case t => kmk_pure)); intro D' h' F' N' l1; (try k_lt l1)))
local macro_rules | `(tactic| walk_at "subscriptTail BinOp Slice ref ref") => `(tactic| (k_here; (with_reducible show wpAny _ _ (subscriptTail _ (PySem.Expr.Slice _ _ none _) (Value.ref _) (Value.ref _)) _ _ _); k_dflt (refine' slice_led ?F ?N ?l ?p ?q ?z ?_ ?s ?t; (case F => k_asm); (case N => k_asm); (case l => kmk_list); (case p => kmk_part); (case q => kmk_part); (case z => (walk_at "own my_len")); (case s => with_unfolding_all rfl); (case t => kmk_pure)); intro D' h' F' N' l1; (try k_lt l1)))
local macro_rules | `(tactic| walk_at "call builtin:len") => `(tactic| (k_here; (with_reducible show wpAny _ _ (call (Value.builtin _) [Value.ref _]) _ _ _); k_dflt (refine' len_led ?l ?z ?_; (case l => kmk_list); (case z => (walk_at "own my_len")); k_whole; intro _ _)))
local macro_rules | `(tactic| walk_at "compareOp Eq ref ref") => `(tactic| (k_here; (with_reducible show wpAny _ _ (compareOp CmpOp.Eq (Value.ref _) (Value.ref _)) _ _ _); k_dflt (refine' eq_texts ?a ?b ?i ?j ?oi ?oj ?u ?_; (case a => kmk_list); (case b => kmk_list); (case i => (walk_at "own texts")); (case j => (walk_at "own texts")); (case oi => (walk_at "own txoks")); (case oj => (walk_at "own txoks")); (case u => exact Nat.le_of_ble_eq_true rfl); k_whole)))
open PySem.Builtin
theorem pass_in {M : Model} {A : Around} {env : Env} {E : Value → Shared → Prop} {s : Shared} {body : List Stmt} {Q : Flow → Shared → Prop} (h : PassesOwn M A env E) (k : PassesOwn M A env E → wpAny M A (execs body env) Q E s) : wpAny M A (execs body env) Q E s := k h
theorem cut_at {M : Model} {A : Around} {env : Env} {E : Value → Shared → Prop} {s : Shared} {body : List Stmt} {Q : Flow → Shared → Prop} (n : Nat) (R : Shared → Prop) (key : ∀ s', R s' → wpAny M A (execs (body.drop n) env) Q E s')
    (go : (∀ s', R s' → wpAny M A (execs (body.drop n) env) Q E s') → wpAny M A (execs body env) Q E s) : wpAny M A (execs body env) Q E s := go key
local macro_rules | `(tactic| walk_at "binaryOp Add ref ref") => `(tactic| (k_here; (with_reducible show wpAny _ _ (binaryOp Operator.Add (Value.ref _) (Value.ref _)) _ _ _); k_dflt (refine' cat_led ?F ?N ?la ?lb ?z ?_; (case F => k_asm); (case N => k_asm); (case la => kmk_list); (case lb => kmk_list); (case z => first | (walk_at "own my_len") | (refine Nat.le_trans (Nat.add_le_add_right (pick_len _ _ _) _) ?_; (walk_at "own my_len"))); k_whole); intro D' h' F' N' l1; (try k_lt l1)))
local macro_rules | `(tactic| walk_at "execs cons") => `(tactic| (k_here; (with_reducible show wpAny _ _ (execs (PySem.Stmt.Assign [PySem.Expr.Name (Str.ofString "texts") _] _ _ :: _) _) _ _ _); refine stopped ?_))
local macro_rules | `(tactic| walk_at "call ref") => `(tactic| (k_here; (with_reducible show wpAny _ _ (call (Value.ref 136) [Value.int _ _]) _ _ _); k_dflt (((refine' Con.use (con_name _ _) ?kb ?kf ?kx ?kn ?kt ?kd ?ku ?kh ?ka ?kk ?kp ?_; (case kb => k_asm); (case kf => k_asm); (case kx => k_asm); (case kn => k_asm); (case kt => k_asm); (case kd => exact Nat.le_of_ble_eq_true rfl); (case ku => exact Nat.le_of_ble_eq_true rfl); (case kh => exact rfl); (case ka => exact rfl); (case kk => first | exact rfl | assumption))); (case kp => exact trivial); k_whole; intro v9 h9 tk9 F9 N9 K9 P9; obtain ⟨t9, e9⟩ := P9; subst e9; (try dsimp only); (try k_fold))))
local macro_rules | `(tactic| walk_at "CompSrc") => `(tactic| (k_here; (rename IntsAre _ (List.take _ _) => hI9); (have hL9 := IntsAre.length hI9); (simp only [List.length_take, List.length_drop] at hL9); k_dflt (refine' LCg.CompSrc.ledger ?ka ?F ?N ?m ?z ?_; (case ka => exact rfl); (case F => k_asm); (case N => k_asm); (case m => k_mem); (case z => (rw [List.size_toArray, sizeLine_eq]; omega))); intro g'; k_dflt (refine' comp_texts nameS 3 hI9 ?hS ?hn (fun k9 t9 I9 oI9 C9 oC9 D9 m9 ys9 h9 tk9 E9 hC9 hx9 F9 N9 off9 ne9 => ?_) (fun ys9 hT9 hZ9 => ?_); (case hn => ((try k_fmods); omega)); (case hS => exact Or.inr ⟨_, by k_mem, rfl, _, rfl⟩))))
local macro_rules | `(tactic| walk_at "execs cons") => `(tactic| (k_here; (with_reducible show wpAny _ _ (execs (PySem.Stmt.Assign [PySem.Expr.Name (Str.ofString "both") _] _ _ :: _) _) _ _ _); refine stopped ?_))
local macro_rules | `(tactic| walk_at "exec For Name Call cons nil") => `(tactic| (k_here; (rename Fr _ _ _ _ => lF'); (with_unfolding_all refine' For_invVF lF' ?k1 ?k2 ?_; (case k1 => exact rfl); (case k2 => exact rfl); k_whole)))
local macro_rules | `(tactic| walk_at "call ref") => `(tactic| (k_here; (with_reducible show wpAny _ _ (call (Value.ref 164) [Value.ref _, Value.ref _]) _ _ _); refine stopped ?_))
local macro_rules | `(tactic| walk_at "call ref") => `(tactic| (k_here; (with_reducible show wpAny _ _ (call (Value.ref 115) [Value.str _ _, Value.str _ _]) _ _ _); k_dflt (((refine' Con.use (con_join_str _ _ _ _ (by assumption) (by assumption)) ?kb ?kf ?kx ?kn ?kt ?kd ?ku ?kh ?ka ?kk ?kp ?_; (case kb => k_asm); (case kf => k_asm); (case kx => k_asm); (case kn => k_asm); (case kt => k_asm); (case kd => exact Nat.le_of_ble_eq_true rfl); (case ku => exact Nat.le_of_ble_eq_true rfl); (case kh => exact rfl); (case ka => exact rfl); (case kk => first | exact rfl | assumption))); (case kp => exact trivial); k_whole; intro v9 h9 tk9 F9 N9 K9 P9; obtain ⟨t9, e9⟩ := P9; subst e9; (try dsimp only); (try k_fold))))
local macro_rules | `(tactic| walk_at "call ref") => `(tactic| (k_here; (with_reducible show wpAny _ _ (call (Value.ref 115) [Value.bytes _ _, Value.bytes _ _]) _ _ _); k_dflt (((refine' Con.use (con_join_bytes _ _ _ _ (by assumption) (by assumption)) ?kb ?kf ?kx ?kn ?kt ?kd ?ku ?kh ?ka ?kk ?kp ?_; (case kb => k_asm); (case kf => k_asm); (case kx => k_asm); (case kn => k_asm); (case kt => k_asm); (case kd => exact Nat.le_of_ble_eq_true rfl); (case ku => exact Nat.le_of_ble_eq_true rfl); (case kh => exact rfl); (case ka => exact rfl); (case kk => first | exact rfl | assumption))); (case kp => exact trivial); k_whole; intro v9 h9 tk9 F9 N9 K9 P9; obtain ⟨t9, e9⟩ := P9; subst e9; (try dsimp only); (try k_fold))))
local macro_rules | `(tactic| walk_at "call ref") => `(tactic| (k_here; (with_reducible show wpAny _ _ (call (Value.ref 129) [Value.str _ _]) _ _ _); k_dflt (((refine' Con.use (con_normpath_str _ _ (by assumption)) ?kb ?kf ?kx ?kn ?kt ?kd ?ku ?kh ?ka ?kk ?kp ?_; (case kb => k_asm); (case kf => k_asm); (case kx => k_asm); (case kn => k_asm); (case kt => k_asm); (case kd => exact Nat.le_of_ble_eq_true rfl); (case ku => exact Nat.le_of_ble_eq_true rfl); (case kh => exact rfl); (case ka => exact rfl); (case kk => first | exact rfl | assumption))); (case kp => exact trivial); k_whole; intro v9 h9 tk9 F9 N9 K9 P9; obtain ⟨t9, e9⟩ := P9; subst e9; (try dsimp only); (try k_fold))))
local macro_rules | `(tactic| walk_at "call ref") => `(tactic| (k_here; (with_reducible show wpAny _ _ (call (Value.ref 129) [Value.bytes _ _]) _ _ _); k_dflt (((refine' Con.use (con_normpath_bytes _ _ (by assumption)) ?kb ?kf ?kx ?kn ?kt ?kd ?ku ?kh ?ka ?kk ?kp ?_; (case kb => k_asm); (case kf => k_asm); (case kx => k_asm); (case kn => k_asm); (case kt => k_asm); (case kd => exact Nat.le_of_ble_eq_true rfl); (case ku => exact Nat.le_of_ble_eq_true rfl); (case kh => exact rfl); (case ka => exact rfl); (case kk => first | exact rfl | assumption))); (case kp => exact trivial); k_whole; intro v9 h9 tk9 F9 N9 K9 P9; obtain ⟨t9, e9⟩ := P9; subst e9; (try dsimp only); (try k_fold))))
local macro_rules | `(tactic| walk_at "subscriptTail Name Name ref int") => `(tactic| (k_here; (with_reducible show wpAny _ _ (subscriptTail _ _ (Value.ref _) (Value.int _ _)) _ _ _); k_dflt (refine' item_val ?hl ?hv ?h0 ?hf ?_ ?hs; (case hl => kmk_list); (case hv => assumption); (case h0 => omega); (case hf => omega); (case hs => with_unfolding_all rfl); k_whole)))
local macro_rules | `(tactic| walk_at "call ref") => `(tactic| (k_here; (with_reducible show wpAny _ _ (call (Value.ref 143) [Value.ref _, Value.int _ _]) _ _ _); refine stopped ?_))
local macro_rules | `(tactic| walk_at "call builtin:list.append") => `(tactic| (k_here; (with_reducible show wpAny _ _ (call (Value.builtin _) [Value.ref _, _]) _ _ _); k_dflt (refine' append_led ?k1 ?k2 ?k3 ?k4 ?_; (case k1 => k_asm); (case k2 => k_asm); (case k3 => k_asm); (case k4 => omega); k_whole; intro _ _ _)))
local macro_rules | `(tactic| walk_at "call builtin:str.encode") => `(tactic| (k_here; (with_reducible show wpAny _ _ (call (Value.builtin _) [Value.str _ _, Value.str _ _]) _ _ _); k_dflt (refine' call_encode ?k1 ?k2 ?_; (case k1 => assumption); (case k2 => omega); k_whole; intro _ _)))
local macro_rules | `(tactic| walk_at "getMethod str") => `(tactic| (k_here; with_reducible refine getm_enc ?_))
local macro_rules | `(tactic| walk_at "pyIter ref") => `(tactic| (k_here; refine stopped ?_))
local macro_rules | `(tactic| walk_at "execs cons") => `(tactic| (k_here; (with_reducible show wpAny _ _ (execs (PySem.Stmt.Assign [PySem.Expr.Name (Str.ofString "ups") _] _ _ :: _) _) _ _ _); refine stopped ?_))
theorem t0 : PySem.Challenge.rw_dh5006_01.Holds := Mine.hd (by
  k_go0
  all_goals try k_fold
  rename_i w s0 s1 mg mb G Y fa o pm doc ho hg KX X V GL T B TE TW z1 z2 M cd z3 hcd ks hs hlay0 hL1 hr1 hl2 z4 z5 a vs z6 hL ra w1x r0 hI hr hc1 hc2 K0 hD h1 tk1 F wo hwo N0 X0
  have F0 : Fr s1.heap s1.heap.objs.size h1 (fun y => if y = Str.ofString "script" then some (.ref a) else none) := by
    with_unfolding_all exact F
  have hw0 : wo.data = .cell none := by
    with_unfolding_all exact hwo
  have hend : ∀ h' d t, (∀ b o, s1.heap.get? b = some o → h'.get? b = some o) → qk (.ret (.bool true)) { heap := h', gens := s1.gens, drawn := d, toks := t, os := s1.os } := by
    intro h' d t hk
    refine ⟨.inl ⟨_, .bool true, [], rfl, fun _ => rfl, ?_, ?pp, ?_⟩, hk, rfl, hg⟩
    case pp => with_unfolding_all rfl
    · dsimp only; constructor
    · exact fun _ => ⟨List.nodup_nil, fun _ h => nomatch h⟩
  refine pass_in (by passes_own) (fun hpo => ?_)
  clear_value qk ek
  have hlen : ks.length ≤ 63 := by omega
  clear hwo F hD hc2 hc1 hr r0 w1x ra hl2 hr1 hL1 hlay0 hs hcd M TW TE B GL V X hg ho Y G
  refine cut_at (n := 3) (R := fun s' => ∃ h' tk D ys ns b c, s' = { heap := h', gens := s1.gens, drawn := s1.drawn, toks := tk, os := s1.os } ∧
    Fr s1.heap s1.heap.objs.size h' (fun y => if y = Str.ofString "octets" then some (.bool b) else if y = Str.ofString "at" then some (.ref D) else if y = Str.ofString "script" then some (.ref a) else none) ∧
    News s1.heap s1.heap.objs.size h' [(D, listOf ys.toArray c)] ∧ IntsAre ys ns ∧ ns.length = 16) ?key ?go
  case go =>
    intro key
    (walk_at "own my_steps")
    · exfalso
      rename_i x4 x3 x2 x1 x
      revert x4
      exact (by decide : ¬ ((9 : Nat) : Int) = 0)
    · unfold Stop
      refine key _ ⟨_, _, _, ys, _, _, ys.length, rfl, by assumption, ?_, by assumption, by simp [rangeKs]⟩
      rename News _ _ _ (_ :: _ :: _) => N9
      intro p hp
      exact N9 p (List.mem_cons.mpr (.inl (List.mem_singleton.mp hp)))
    · exfalso
      have : ¬ ks = [] := by simpa using ‹decide (ks = []) = false›
      have : ks.length ≠ 0 := by simpa using this
      omega
    · unfold Stop
      refine key _ ⟨_, _, _, ys, _, _, ys.length, rfl, by assumption, ?_, by assumption, by simp [rangeKs]⟩
      rename News _ _ _ (_ :: _ :: _) => N9
      intro p hp
      exact N9 p (List.mem_cons.mpr (.inl (List.mem_singleton.mp hp)))
  case key =>
    clear N0 F0 hw0 X0 hL hI hlen h1
    rintro _ ⟨h', tk, D, ys, ns, b, c, rfl, F, N, hI, h16⟩
    dsimp only [List.drop]
    refine cut_at (n := 9) (R := fun s' => ∃ h' tk Dw vs n cst, ∃ u : Str → Option Value, s' = { heap := h', gens := s1.gens, drawn := s1.drawn, toks := tk, os := s1.os } ∧
      Fr s1.heap s1.heap.objs.size h' (fun y => if y = Str.ofString "walks" then some (.ref Dw) else if y = Str.ofString "octets" then some (.bool b) else if y = Str.ofString "at" then some (.ref D) else u y) ∧
      News s1.heap s1.heap.objs.size h' ((Dw, listOf vs.toArray n) :: (D, listOf ys.toArray c) :: cst) ∧ WalksIn cst vs (walksS ns)) ?key2 ?go2
    case go2 =>
      intro key2
      dsimp only [List.drop] at key2
      have f0 : (ns.getD 0 0).fmod 3 < 3 := Int.fmod_lt_of_pos _ (by decide)
      have f0' : 0 ≤ (ns.getD 0 0).fmod 3 := Int.fmod_nonneg_of_pos _ (by decide)
      have f1 : (ns.getD 1 0).fmod 3 < 3 := Int.fmod_lt_of_pos _ (by decide)
      have f1' : 0 ≤ (ns.getD 1 0).fmod 3 := Int.fmod_nonneg_of_pos _ (by decide)
      have f6 : (ns.getD 6 0).fmod 2 < 2 := Int.fmod_lt_of_pos _ (by decide)
      have f6' : 0 ≤ (ns.getD 6 0).fmod 2 := Int.fmod_nonneg_of_pos _ (by decide)
      have f7 : ((ns.getD 7 0).fdiv 3).fmod 4 < 4 := Int.fmod_lt_of_pos _ (by decide)
      have f7' : 0 ≤ ((ns.getD 7 0).fdiv 3).fmod 4 := Int.fmod_nonneg_of_pos _ (by decide)
      refine wpAny_execs_cons ?_
      (walk_at "own my_steps")
      all_goals (try (unfold Stop; exact ⟨_, _, _, rfl, by assumption, by assumption, rfl⟩))
      unfold Stop
      rename News _ _ _ (_ :: _ :: _) => N9
      rename Fr _ _ _ _ => F9
      have hTw := (by assumption : TextsAre _ (wordL ns))
      have hTt := (by assumption : TextsAre _ (tailL ns))
      have hTm := (by assumption : TextsAre _ (moreL ns))
      have eL := (TextsAre.append hTw hTt).len
      rw [eL] at N9
      refine' key2 _ ⟨_, _, _, _, _, _, _, rfl, fr_three F9 ?e1 ?e2 ?e3, news_more N9 ?m1 ?m2, ?hw⟩
      case m1 => exact List.mem_cons_self
      case m2 => k_mem
      case e1 => exact rfl
      case e2 => exact rfl
      case e3 => exact rfl
      case hw =>
        refine ⟨?_, ?_, ?_, ?_, ?_, ?_, ?_, ?_, ?_, ?_, trivial⟩
        all_goals (refine' ⟨_, _, _, _, _, rfl, ?_, ?_, ?_, ?_⟩)
        all_goals (try k_mem)
        all_goals (try (walk_at "own texts"))
        all_goals (first | (walk_at "own my_len") | (rw [List.length_append]; refine Nat.le_trans (Nat.add_le_add_right (pick_len _ _ _) _) ?_; (walk_at "own my_len")))
    case key2 =>
      rintro _ ⟨h', tk, Dw, vs, nw, cst, u, rfl, F, N, hW⟩
      dsimp only [List.drop]
      have hv10 : vs.length = 10 := hW.len
      refine wpAny_execs_cons ?_
      (walk_at "own my_steps")
      unfold Stop
      rename_i Dt h2 l1 h3 F1 N1 t1 k1 h4 tk4 t5 u5 v5 hR F4 N4 K4
      rw [hv10] at hR
      have hDt : ∀ p ∈ (Dw, listOf vs.toArray nw) :: (D, listOf ys.toArray c) :: cst, p.1 < Dt := by
        intro p hp
        rcases List.mem_cons.mp hp with rfl | hp
        · exact l1.1
        · rcases List.mem_cons.mp hp with rfl | hp
          · exact l1.2.1
          · exact tb_ltOf l1.2.2 p hp
      clear l1 F1 N1 K4
      refine range_gen (σ := LpSt) (n := 10) (cst := (Dw, listOf vs.toArray nw) :: (D, listOf ys.toArray c) :: cst) (fun c => [(Dt, listOf c.us.toArray c.k)])
        (fun c => fun y => if y = Str.ofString "text" then c.u else if y = Str.ofString "texts" then some (.ref Dt) else if y = Str.ofString "walks" then some (.ref Dw) else if y = Str.ofString "octets" then some (.bool b) else if y = Str.ofString "at" then some (.ref D) else u y)
        (fun i c => c.us.length = i ∧ TextsOf b ns c.us) ⟨[], 0, u (Str.ofString "text")⟩ rfl hR rfl rfl ?_ N4 ⟨rfl, TextsOf.nil⟩ ?_ ?_
      · refine Mine.Fr.cong F4 fun z => ?_
        by_cases e1 : z = Str.ofString "text"
        · subst e1; rfl
        · simp only [if_neg e1]
      · intro i t c' h tk I oI hi hP hne F N
        obtain ⟨us, k, ut⟩ := c'
        obtain ⟨hl, hT⟩ := hP
        obtain ⟨v, hv, W, l, tu, us1, n1, rfl, hm1, hm2, hT1, hZ1⟩ := hW.getD i hi
        have hv' : vs[(0 + (i : Int)).toNat]? = some (.ref W) := by rw [Int.zero_add, Int.toNat_natCast]; exact hv
        dsimp only at F hl hT N hne
        simp only [List.cons_append, List.nil_append] at N hne
        have hDI : Dt ≠ I := hne _ (.head _)
        have happ : ∀ p ∈ (Dw, listOf vs.toArray nw) :: (D, listOf ys.toArray c) :: (cst ++ [(I, oI)]), p.1 ≠ Dt := by
          intro p hp
          rw [← List.cons_append, ← List.cons_append] at hp
          rcases List.mem_append.mp hp with hp | hp
          · exact Nat.ne_of_lt (hDt p hp)
          · rw [List.mem_singleton.mp hp]; exact hDI.symm
        clear hDt F4 N4 hR
        (walk_at "own my_steps")
        unfold Stop
        have hwk := walks_ok h16 i
        k_dflt (((refine' Con.use (con_spell W l _ _ tu _ us1 _ hwk.1 hwk.2.1 hT1 hwk.2.2.1 hwk.2.2.2) ?kb ?kf ?kx ?kn ?kt ?kd ?ku ?kh ?ka ?kk ?kp ?_; (case kb => k_asm); (case kf => k_asm); (case kx => k_asm); (case kn => k_asm); (case kt => k_asm); (case kd => exact Nat.le_of_ble_eq_true rfl); (case ku => exact Nat.le_of_ble_eq_true rfl); (case kh => exact rfl); (case ka => exact rfl); (case kk => first | exact rfl | assumption))))
        case kp => exact ⟨News.isTup (by assumption) (by kcf_m), News.isList (by assumption) (by kcf_m)⟩
        k_whole
        intro v9 h9 tk9 F9 N9 K9 P9
        obtain ⟨t9, rfl⟩ := P9
        have e9 : ∀ q : Int, q = (ns.getD i 0).fdiv 5 → spellS ((walksS ns).getD i (0, [])).1 ((walksS ns).getD i (0, [])).2 q = spelled ns i := fun q hq => by rw [hq]; rfl
        rw [e9 _ (by rw [Int.zero_add, Int.toNat_natCast])]
        have hxl := sp_len h16 i
        have hxc := sp_latin h16 i
        have hlus : us.length ≤ 100 := by omega
        clear hwk e9
        (walk_at "own my_steps")
        all_goals (
          refine' turn_finM ⟨_, _, _⟩ ?kF ?kN ?ks ?kne ?kz ?kp
          (case kF => assumption)
          (case kN => assumption)
          (case ks => (intro p hp; dsimp only [List.cons_append, List.nil_append] at hp ⊢; exact hp))
          (case kne => (
            intro p hp
            rcases List.mem_cons.mp hp with rfl | hp
            · exact hDI
            · exact hne p (.tail _ hp)))
          (case kz => (intro z hz; by_cases hz1 : z = Str.ofString "text"; (focus (subst hz1; rfl)); simp only [if_neg hz, if_neg hz1]))
          (case kp => (refine ⟨by rw [List.length_append, hl]; rfl, hT.add ?_⟩; rw [hl]; (rename b = _ => hbb); subst hbb; exact ⟨_, rfl⟩)))
      · intro c' h tk u' hP F N
        obtain ⟨us, k, ut⟩ := c'
        obtain ⟨hl, hT⟩ := hP
        clear hDt F4 N4 hR
        dsimp only at F hl hT N ⊢
        simp only [List.cons_append, List.nil_append] at N
        refine wpAny_execs_cons ?_
        (walk_at "own my_steps")
        unfold Stop
        rename_i h5 F5 N5 t5 k5 h6 tk6 t7 u7 v7 hR F6 N6 K6
        rw [hv10] at hR
        clear F5 N5 K6 F N
        refine range_gen (σ := CtSt) (n := 10) (cst := (Dt, listOf us.toArray k) :: (Dw, listOf vs.toArray nw) :: (D, listOf ys.toArray c) :: cst) (fun _ => []) (mapC Dt Dw)
          (fun i c => c.n = totalN (eqP ns) i) ⟨0, _, _⟩ rfl hR rfl rfl (fr_three F6 rfl rfl rfl) N6 rfl ?_ ?_
        · intro i t c' h tk I oI hi hP hne F N
          obtain ⟨n1, tn1, uu1⟩ := c'
          dsimp only [mapC] at F hP N hne
          simp only [List.cons_append, List.nil_append] at N hne
          clear F6 N6 hR
          (walk_at "own my_steps")
          unfold Stop
          rename_i t5 k5 h6 tk6 t7 u7 v7 hR F6 N6 K6
          rw [hv10] at hR
          have hDI : Dt ≠ I := hne _ (.head _)
          clear K6
          obtain ⟨vi, hvi, Wi, li, tui, usi, nni, rfl, hm1, hm2, hT1, hZ1⟩ := hW.getD i hi
          have hvi' : vs[(0 + (i : Int)).toNat]? = some (.ref Wi) := by rw [Int.zero_add, Int.toNat_natCast]; exact hvi
          refine range_gen (σ := CtSt) (n := 9 - i) (cst := (Dt, listOf us.toArray k) :: (Dw, listOf vs.toArray nw) :: (D, listOf ys.toArray c) :: (cst ++ [(I, oI)])) (fun _ => []) (fun c => fun y => if y = Str.ofString "i" then some (.int (0 + (i : Int)) t) else mapC Dt Dw c y)
            (fun j c => c.n = totalN (eqP ns) i + innerN (eqP ns) i j) ⟨n1, tn1, uu1⟩ rfl hR (rng_ok i hi).1 (rng_ok i hi).2 F6 N6 (by rw [hP]; exact (Int.add_zero _).symm) ?_ ?_
          · intro j t' c' h tk I' oI' hj hP2 hne2 F N
            obtain ⟨n2, tn2, uu2⟩ := c'
            dsimp only [mapC] at F hP2 N hne2
            simp only [List.cons_append, List.nil_append] at N hne2
            clear F6 N6 hR
            obtain ⟨vj, hvj, Wj, lj, tuj, usj, nnj, rfl, hm3, hm4, hT2, hZ2⟩ := hW.getD (i + 1 + j) (show i + 1 + j < 10 by omega)
            have ej : (0 + (i : Int) + 1 + (j : Nat)).toNat = i + 1 + j := by omega
            have hvj' : vs[(0 + (i : Int) + 1 + (j : Nat)).toNat]? = some (.ref Wj) := by rw [ej]; exact hvj
            obtain ⟨ti, hti⟩ : ∃ ti, us[(0 + (i : Int)).toNat]? = some (textV b (spelled ns i) ti) := by
              rw [Int.zero_add, Int.toNat_natCast]
              obtain ⟨ti, e⟩ := hT i us[i] (List.getElem?_eq_getElem (by omega))
              exact ⟨ti, by rw [← e]; exact List.getElem?_eq_getElem (by omega)⟩
            obtain ⟨tj, htj⟩ : ∃ tj, us[(0 + (i : Int) + 1 + (j : Nat)).toNat]? = some (textV b (spelled ns (i + 1 + j)) tj) := by
              rw [ej]
              obtain ⟨tj, e⟩ := hT (i + 1 + j) us[i + 1 + j] (List.getElem?_eq_getElem (by omega))
              exact ⟨tj, by rw [← e]; exact List.getElem?_eq_getElem (by omega)⟩
            have hxi := sp_len h16 i
            have hxj := sp_len h16 (i + 1 + j)
            have hJ1 := joinS_len hxi hxj
            have hJ2 := joinS_len hxj hxi
            have hB1 := joinB_len hxi hxj
            have hB2 := joinB_len hxj hxi
            have hxi' : (latin (spelled ns i)).size ≤ 400 := by rw [latin_size]; exact hxi
            have hxj' : (latin (spelled ns (i + 1 + j))).size ≤ 400 := by rw [latin_size]; exact hxj
            have hlaw := law_pair h16 (show i < 10 by omega) (show i + 1 + j < 10 by omega)
            cases b
            · dsimp only [textV] at hti htj
              (walk_at "own my_steps")
              unfold Stop
              k_dflt (((refine' Con.use (con_due Wi Wj li lj _ _ tui tuj usi usj _ _ hT1 hT2 (walks_tx h16 i) (walks_tx h16 (i + 1 + j)) (Nat.le_trans hZ1 (by decide)) (Nat.le_trans hZ2 (by decide))) ?kb ?kf ?kx ?kn ?kt ?kd ?ku ?kh ?ka ?kk ?kp ?_; (case kb => k_asm); (case kf => k_asm); (case kx => k_asm); (case kn => k_asm); (case kt => k_asm); (case kd => exact Nat.le_of_ble_eq_true rfl); (case ku => exact Nat.le_of_ble_eq_true rfl); (case kh => exact rfl); (case ka => exact rfl); (case kk => first | exact rfl | assumption))))
              case kp => exact ⟨⟨News.isTup (by assumption) (by kcf_m), News.isList (by assumption) (by kcf_m)⟩, News.isTup (by assumption) (by kcf_m), News.isList (by assumption) (by kcf_m)⟩
              k_whole
              intro v9 h9 tk9 F9 N9 K9 P9
              subst P9
              rw [← hlaw]
              dsimp only
              have hE : (normS (joinS (spelled ns i) (spelled ns (i + 1 + j))) == normS (joinS (spelled ns (i + 1 + j)) (spelled ns i))) = eqP ns i (i + 1 + j) := rfl
              rw [hE]
              (walk_at "own my_steps")
              · rename (_ != _) = true => hne9
                simp at hne9
              all_goals (
                refine' turn_finI ?kF ?kN ?ks ?kne ?ei ?eb ?et ?ew ?kp
                (case kF => assumption)
                (case kN => assumption)
                (case ks => (intro p hp; dsimp only [List.cons_append, List.nil_append] at hp ⊢; exact hp))
                (case kne => exact hne2)
                (case ei => exact rfl)
                (case eb => exact rfl)
                (case et => exact rfl)
                (case ew => exact rfl)
                (case kp => (
                  show _ = _ + (_ + if _ then _ else _)
                  dsimp only
                  first
                    | (rw [if_pos (show eqP ns i (i + 1 + j) = true by assumption), hP2]; omega)
                    | (rw [if_neg (Bool.eq_false_iff.mp (show eqP ns i (i + 1 + j) = false by assumption)), hP2]; omega))))
            · dsimp only [textV] at hti htj
              (walk_at "own my_steps")
              unfold Stop
              k_dflt (((refine' Con.use (con_due Wi Wj li lj _ _ tui tuj usi usj _ _ hT1 hT2 (walks_tx h16 i) (walks_tx h16 (i + 1 + j)) (Nat.le_trans hZ1 (by decide)) (Nat.le_trans hZ2 (by decide))) ?kb ?kf ?kx ?kn ?kt ?kd ?ku ?kh ?ka ?kk ?kp ?_; (case kb => k_asm); (case kf => k_asm); (case kx => k_asm); (case kn => k_asm); (case kt => k_asm); (case kd => exact Nat.le_of_ble_eq_true rfl); (case ku => exact Nat.le_of_ble_eq_true rfl); (case kh => exact rfl); (case ka => exact rfl); (case kk => first | exact rfl | assumption))))
              case kp => exact ⟨⟨News.isTup (by assumption) (by kcf_m), News.isList (by assumption) (by kcf_m)⟩, News.isTup (by assumption) (by kcf_m), News.isList (by assumption) (by kcf_m)⟩
              k_whole
              intro v9 h9 tk9 F9 N9 K9 P9
              subst P9
              rw [← hlaw]
              dsimp only
              have hE := eqP_bytes h16 i (i + 1 + j)
              rw [hE]
              (walk_at "own my_steps")
              · rename (_ != _) = true => hne9
                simp at hne9
              all_goals (
                refine' turn_finI ?kF ?kN ?ks ?kne ?ei ?eb ?et ?ew ?kp
                (case kF => assumption)
                (case kN => assumption)
                (case ks => (intro p hp; dsimp only [List.cons_append, List.nil_append] at hp ⊢; exact hp))
                (case kne => exact hne2)
                (case ei => exact rfl)
                (case eb => exact rfl)
                (case et => exact rfl)
                (case ew => exact rfl)
                (case kp => (
                  show _ = _ + (_ + if _ then _ else _)
                  dsimp only
                  first
                    | (rw [if_pos (show eqP ns i (i + 1 + j) = true by (rw [← hE]; assumption)), hP2]; omega)
                    | (rw [if_neg (Bool.eq_false_iff.mp (show eqP ns i (i + 1 + j) = false by (rw [← hE]; assumption))), hP2]; omega))))
          · intro c' h tk u9 hP2 F N
            obtain ⟨n2, tn2, uu2⟩ := c'
            dsimp only [mapC] at F hP2 N ⊢
            simp only [List.cons_append, List.nil_append] at N
            (walk_at "own my_steps")
            refine' turn_finO ?kF ?kN ?ks ?kne ?eb ?et ?ew ?kp
            (case kF => assumption)
            (case kN => assumption)
            (case ks => (intro p hp; dsimp only [List.cons_append, List.nil_append] at hp ⊢; exact hp))
            (case kne => exact hne)
            (case eb => exact rfl)
            (case et => exact rfl)
            (case ew => exact rfl)
            (case kp => exact hP2)
        · intro c' h tk u'' hP F N
          obtain ⟨n1, tn1, uu1⟩ := c'
          dsimp only [mapC] at F hP N ⊢
          simp only [List.cons_append, List.nil_append] at N
          have hcnt := count_ok (law_some h16).1 (law_some h16).2
          rw [← hP] at hcnt
          (walk_at "own my_steps")
          dsimp only
          rw [decide_eq_true hcnt.2]
          exact hend _ _ _ F.keep)
end Mine
end

theorem PySem.Challenge.cw_dh5006_01_holds : PySem.Challenge.rw_dh5006_01.Holds := by
  exact Mine.t0
