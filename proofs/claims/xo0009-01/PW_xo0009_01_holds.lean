import PyProof.Rows.All
import Wide.All
import OpenK.AllK
import Wide.FinOn
import Lean
import PySem.Challenge.RW_xo0009_01
open PySem PySem.W PyProof.Rows PySem.Calls
set_option Elab.async false
set_option maxRecDepth 100000
set_option maxHeartbeats 40000000
namespace Mine
open_top hd for PySem.Challenge.rw_xo0009_01
-- part L1
section
open PySem.Spec
section
variable {M : Model} {A : Around} {E : Value → Shared → Prop} {s : Shared}
/-- the merge of an empty mapping into an empty one -/
theorem merge_none {d a : Addr} {o oa : Obj} {n na : Nat} {Q : Unit → Shared → Prop} (hs : (a == sysModules) = false) (hd : s.heap.get? d = some o) (hdd : o.data = .dict #[] n) (hT : s.TypeIs (.ref a) "dict") (ha : s.heap.get? a = some oa) (had : oa.data = .dict #[] na)
    (h : Q () s) : wpAny M A (mergeMapping d (.ref a) true) Q E s := by
  unfold mergeMapping
  refine wpAny_bind (wpAny_isInstance hT PySem.F.sub_dict_dict ?_)
  rw [if_pos rfl]
  refine wpAny_bind (wpAny_specialOf hT PySem.F.slot_dict_iter.lookup ?_)
  refine wpAny_bind (wpAny_pure ?_)
  have e : ((some (Value.builtin "dict.__iter__") : Option Value) == some (.builtin "dict.__iter__")) = true := by decide
  rw [e]
  dsimp only
  rw [hs]
  refine wpAny_ite ?_
  rw [if_neg Bool.false_ne_true]
  refine wpAny_bind (wpAny_dictEntries hd hdd ?_)
  refine wpAny_ite ?_
  have e0 : (#[] : Array DictEntry).isEmpty = true := rfl
  rw [if_pos e0]
  refine wpAny_bind (wpAny_dictEntries ha had ?_)
  refine wpAny_bind ?_
  rw [← Array.forIn_toList]
  refine wpAny_pure ?_
  refine wpAny_bind (wpAny_dictEntries ha had ?_)
  refine wpAny_bind (wpAny_dictEpoch ha had ?_)
  refine wpAny_bind ?_
  exact wpAny_pure (wpAny_pure h)
/-- the keywords of an empty mapping -/
theorem keys_none {f : Value} {d : Addr} {o : Obj} {n : Nat} {Q : List (Str × Value) → Shared → Prop} (hd : s.heap.get? d = some o) (hdd : o.data = .dict #[] n) (h : Q [] s) : wpAny M A (keywordsIn f d) Q E s := by
  unfold keywordsIn
  refine wpAny_bind (wpAny_dictEntries hd hdd ?_)
  refine wpAny_bind ?_
  rw [← Array.forIn_toList]
  exact wpAny_pure (wpAny_pure h)
theorem merged_none {f : Value} {y : Sem Value} {D : Addr} {oa : Obj} {na : Nat} {Q : Addr → Shared → Prop} (hD : (D == sysModules) = false)
    (hy : ∀ s' : Shared, s.heap.StaysIn s'.heap → ∀ Q' : Value → Shared → Prop, Q' (.ref D) s' → wpAny M A y Q' E s') (ha : s.heap.get? D = some oa) (hc : oa.cls = .type "dict") (had : oa.data = .dict #[] na)
    (h : Q s.heap.objs.size { s with heap := s.heap.push { cls := .type "dict", data := .dict #[] } }) : wpAny M A (mergedKeywords f [(none, y)]) Q E s := by
  unfold mergedKeywords
  refine wpAny_bind (wpAny_alloc ?_)
  refine wpAny_bind (wpAny_holding ?_)
  dsimp only
  refine wpAny_bind ?_
  rw [List.forIn_cons]
  dsimp only
  have hk : s.heap.StaysIn (s.heap.push ({ cls := .type "dict", data := .dict #[] } : Obj)) := fun b o e => Heap.get?_push_of_some _ e
  refine wpAny_bind ?_
  refine wpAny_bind ?_
  rw [if_pos (show (([] : List (Str × Sem Value)).isEmpty = true) from rfl)]
  refine wpAny_pure ?_
  refine wpAny_bind ?_
  refine hy _ hk _ ?_
  refine wpAny_bind (wpAny_onRaise (wpAny_holding (wpAny_tryCatch (wpAny_onRaise ?_))))
  refine merge_none hD (Heap.get?_push_size _ rfl) rfl ⟨oa, hk _ _ ha, hc⟩ (hk _ _ ha) had ?_
  refine wpAny_pure ?_
  dsimp only
  rw [List.forIn_nil]
  refine wpAny_pure ?_
  rw [if_pos (show (([] : List (Str × Sem Value)).isEmpty = true) from rfl)]
  exact wpAny_pure (wpAny_pure h)
theorem args_SK {f : Value} {x y : Sem Value} {pos p₂ : Pos} {C D : Addr} {oa : Obj} {na : Nat} {Q : Args → Shared → Prop} (hD : (D == sysModules) = false)
    (hx : ∀ Q' : Value → Shared → Prop, Q' (.ref C) s → wpAny M A x Q' E s)
    (hy : ∀ s' : Shared, s.heap.StaysIn s'.heap → ∀ Q' : Value → Shared → Prop, Q' (.ref D) s' → wpAny M A y Q' E s') (ha : s.heap.get? D = some oa) (hc : oa.cls = .type "dict") (had : oa.data = .dict #[] na)
    (h : StarOf M A E (.ref C) (fun vs s₁ => (∃ o n, s₁.heap.get? s.heap.objs.size = some o ∧ o.data = .dict #[] n) ∧ Q ⟨vs, []⟩ s₁) { s with heap := s.heap.push { cls := .type "dict", data := .dict #[] } }) :
    wpAny M A (evalArgs f true [(true, (do let v ← x; standAt pos; pure v))] [(none, (do let v ← y; standAt p₂; pure v))]) Q E s := by
  unfold evalArgs
  refine wpAny_bind (wpAny_bind (hx _ (wpAny_bind (wpAny_standAt (wpAny_pure ?_)))))
  refine wpAny_bind (wpAny_pure ?_)
  dsimp only
  refine wpAny_holding ?_
  refine wpAny_ite ?_
  rw [if_neg (by simp)]
  refine wpAny_bind ?_
  refine merged_none hD (fun s' hs Q' hq => wpAny_bind (hy s' hs _ (wpAny_bind (wpAny_standAt (wpAny_pure hq))))) ha hc had ?_
  refine wpAny_bind ?_
  unfold StarOf at h
  refine wpAny_bind (wpAny_mono h (fun b s₂ h₂ => ?_) fun _ _ z => z)
  obtain ⟨rfl, h₂⟩ := h₂
  refine wpAny_ite ?_
  rw [if_neg Bool.false_ne_true]
  refine wpAny_holding (wpAny_mono h₂ (fun vs s₃ h₃ => ?_) fun _ _ z => z)
  obtain ⟨⟨o, n, ho, hd⟩, h₃⟩ := h₃
  exact wpAny_bind (wpAny_holding (keys_none ho hd (wpAny_pure h₃)))
/-- a call f(*args, **kwargs) of a def, kwargs an empty dict -/
theorem callWith_SK {K : Frag} {h₀ : Heap} {env : Env} {pos p kp : Pos} {f : Value} {e y : Expr} {C D : Addr} {oa : Obj} {na : Nat} {Q : Value → Shared → Prop} (_X : K.In h₀) (hk : keepIn K f = true) (hD : (D == sysModules) = false)
    (hx : ∀ Q' : Value → Shared → Prop, Q' (.ref C) s → wpAny M A (eval e env) Q' E s)
    (hy : ∀ s' : Shared, s.heap.StaysIn s'.heap → ∀ Q' : Value → Shared → Prop, Q' (.ref D) s' → wpAny M A (eval y env) Q' E s') (ha : s.heap.get? D = some oa) (hc : oa.cls = .type "dict") (had : oa.data = .dict #[] na)
    (h : StarOf M A E (.ref C) (fun vs s₁ => (∃ o n, s₁.heap.get? s.heap.objs.size = some o ∧ o.data = .dict #[] n) ∧ K.In s₁.heap ∧ wpAny M A (call f ([] ++ vs) []) Q E s₁) { s with heap := s.heap.push { cls := .type "dict", data := .dict #[] } }) :
    wpAny M A (callWith pos f [] (backTo pos (starEach [.Starred e p] env)) (backToKw pos (keywordEach [⟨none, y, kp⟩] env))) Q E s := by
  unfold callWith
  refine wpAny_bind (wpAny_holding ?_)
  refine args_SK (Q := fun a s₁ => wpAny M A _ Q E s₁) hD hx hy ha hc had ?_
  unfold StarOf at h ⊢
  refine wpAny_mono h (fun b s₂ h₂ => ⟨h₂.1, wpAny_mono h₂.2 (fun vs s₃ h₃ => ⟨h₃.1, wpAny_bind (wpAny_standAt ?_)⟩) fun _ _ z => z⟩) fun _ _ z => z
  obtain ⟨k, hk', L⟩ := keeps_K (M := M) hk _ h₃.2.1
  refine wpAny_bind (L.here ?_)
  have tail : ∀ {t : Sem Value}, wpAny M A t Q E s₃ → wpAny M A (t >>= fun r => holding [r] point >>= fun _ => pure r) Q E s₃ :=
    fun ht => wpAny_bind (wpAny_mono ht (fun r s₂ hr => wpAny_bind (wpAny_holding (wpAny_point (wpAny_pure hr)))) fun _ _ x => x)
  have marked (mk : Value) : wpAny M A (callMarked mk f ([] ++ vs) []) Q E s₃ := by unfold callMarked; exact Calls.wpAny_keep h₃.2.2
  rcases hk' with rfl | rfl | rfl <;> first | exact tail (marked _) | exact tail (wpAny_operating h₃.2.2)
end
theorem fr_stays {h₀ h h' : Heap} {L : Addr} {m : Str → Option Value} (F : Fr h₀ L h m) (hk : h.StaysIn h') : Fr h₀ L h' m := by
  obtain ⟨oL, es, ep, hL, r⟩ := F.ns
  exact ⟨⟨oL, es, ep, hk _ _ hL, r⟩, fun b x q => hk _ _ (F.keep b x q), F.above⟩
section
variable {prog : Program} {w : World} {A : Around} {E : Value → Shared → Prop} {s : Shared}
theorem callWith_SKF {K : Frag} {h₀ : Heap} {L : Addr} {m : Str → Option Value} {news : List (Addr × Obj)} {name : Str} {scope : Scope} {fa : Addr} {cd : Value} {pos p kp px py : Pos} {f : Value} {x y : Str} {C D : Addr} {oa : Obj} {n : Nat} {ws : List Value} {its : Array Value} {Q : Value → Shared → Prop}
    (X : K.In h₀) (F : Fr h₀ L s.heap m) (N : News h₀ L s.heap news) (hk : keepIn K f = true) (hD : (D == sysModules) = false)
    (hx : m x = some (.ref C)) (hy : m y = some (.ref D)) (hC : (C, ({ cls := .type "tuple", data := .seq its n } : Obj)) ∈ news) (hDm : (D, oa) ∈ news) (ho : oa.IsDictOf (strKind prog w) []) (e : its.toList = ws) (hz : its.size ≤ sizeLine)
    (h : ∀ h' d, Fr h₀ L h' m → News h₀ L h' ((d, ({ cls := .type "dict", data := .dict #[] } : Obj)) :: news) → wpAny (model prog w) A (call f ws []) Q E { s with heap := h' })
    (hs : scope.kind = .function := by rfl) (hlx : (envOf name scope L fa cd).kindOf x = some .local := by rfl) (hly : (envOf name scope L fa cd).kindOf y = some .local := by rfl)
    (hdx : (x == ("__debug__" : Str)) = false := by decide) (hdy : (y == ("__debug__" : Str)) = false := by decide) :
    wpAny (model prog w) A (callWith pos f [] (backTo pos (starEach [.Starred (.Name x px) p] (envOf name scope L fa cd))) (backToKw pos (keywordEach [⟨none, .Name y py, kp⟩] (envOf name scope L fa cd)))) Q E s := by
  obtain ⟨es, ep, hex, hdat, _, hp, _⟩ := ho
  have he0 : es = #[] := by
    cases hp' : es.toList with
    | nil => exact Array.toList_eq_nil_iff.mp hp'
    | cons a r => rw [hp'] at hp; cases hp
  subst he0
  refine callWith_SK X hk hD (fun Q' hq => ld F hx hq hs hlx hdx) (fun s' hst Q' hq => ld (fr_stays F hst) hy hq hs hly hdy) (N _ hDm).1 hex.1 hdat ?_
  refine star_seq (F.push _) (N.push F _) (List.Mem.tail _ hC) rfl rfl (.inr rfl) e hz fun h' F' N' => ⟨⟨_, _, (N' _ (.head _)).1, rfl⟩, X.keeps F'.keep, h h' _ F' N'⟩
end
end
-- part CW
/-- the end of a def's body over the heap g that it found: the objects that it hands on, and what it says of them -/
noncomputable def EndW (g : Heap) (led : List (Addr × Obj)) (out : Value → List (Addr × Obj) → Prop) (s : Shared) (v : Value) (s' : Shared) : Prop :=
  ∃ (L' : Addr) (m' : Str → Option Value) (ex : List (Addr × Obj)) (h' : Heap) (tk' : Nat), s' = { s with heap := h', toks := tk' } ∧ Fr g L' h' m' ∧ News g L' h' (ex ++ led) ∧ out v ex
theorem EndW.intro {g : Heap} {led : List (Addr × Obj)} {out : Value → List (Addr × Obj) → Prop} {s : Shared} {v : Value} {L' : Addr} {m' : Str → Option Value} {h' : Heap} {tk' : Nat} {all : List (Addr × Obj)} (ex : List (Addr × Obj))
    (F : Fr g L' h' m') (N : News g L' h' all) (hs : ∀ p ∈ ex ++ led, p ∈ all) (ho : out v ex) : EndW g led out s v { s with heap := h', toks := tk' } :=
  ⟨L', m', ex, h', tk', rfl, F, fun p hp => N p (hs p hp), ho⟩
section
variable {prog : Program} {w : World} {A₀ A : Around} {s : Shared} {base h₀ : Heap} {outer : List Env} {L : Addr} {m mg mb : Str → Option Value} {env : Env} {news led : List (Addr × Obj)} {K : Frag} {p : Program} {loose : List Str} {mean : ExcName → Option Value}
  {name qual : Str} {params : Arguments} {body : List Stmt} {scope : Scope} {dV kV doc pm cdv ct oc : Value} {an od : Option Addr} {osl : Array (Option Value)} {f : Addr} {args : Args} {binds : List (Str × Value)}
  {Q E : Value → Shared → Prop} {out : Value → List (Addr × Obj) → Prop}
/-- into a def's body with a part of the ledger -/
theorem enterW (B : Below A₀ base outer h₀) (F : Fr h₀ L s.heap m) (X₀ : K.In h₀) (N : News h₀ L s.heap news) (T : Top p loose mean mg mb h₀) (hA : A.frames = some (env :: outer)) (hf : env.frame = some L) (hke : env.scope.kind = .function)
    (hsub : ∀ p ∈ led, p ∈ news)
    (ho : K.lookup f = some ⟨oc, od, .func (fnOf name qual params body scope dV kV doc pm an cdv ct), osl⟩) (hcd : codeIn K cdv qual = true) (hroom : A.depth < recursionLimit)
    (hbind : BindsTo s (fnOf name qual params body scope dV kV doc pm an cdv ct) args binds) (hloc : ∀ y ∈ binds, scope.names.lookup y.1 = some .local)
    (h : ∀ g L' h₁, Fr g L' h₁ (fun y => binds.reverse.lookup y) → News g L' h₁ led → Below A base (env :: outer) g → K.In g → Top p loose mean mg mb g →
      wpAny (model prog w) (A.deeper (envOf qual scope L' f cdv)) (execs body (envOf qual scope L' f cdv))
        (fun fl s' => EndW g led out s (match fl with | .ret v => v | _ => .none) s')
        (fun e s' => wpAny (model prog w) (A.deeper (envOf qual scope L' f cdv)) (leaving (envOf qual scope L' f cdv) e) (fun _ s'' => E e s'') (fun e' s'' => E e' s'') s')
        { s with heap := h₁, toks := s.toks + binds.length })
    (hret : ∀ v ex h' tk', Fr h₀ L h' m → News h₀ L h' (ex ++ news) → out v ex → Q v { s with heap := h', toks := tk' })
    (hco : scope.isCoroutine = false) (hgen : scope.isGenerator = false) (hk : scope.kind = .function) (hcell : ∀ x ∈ scope.names, x.2 ≠ .cell) :
    wpAny (model prog w) A (call (.ref f) args.pos args.kw) Q E s := by
  have Nl : News h₀ L s.heap led := fun p hp => N p (hsub p hp)
  have X := X₀.keeps F.keep
  refine wpAny_call ?_
  obtain ⟨FG, BG, st, _⟩ := groundX (R := fun _ _ => True) B F Nl hA hf hke
  refine codeAny_call_def (fd := fnOf name qual params body scope dV kV doc pm an cdv ct) (body := body) (binds := binds) hroom (X _ _ ho) rfl (T.nolimit.keeps F.keep) (codeRec_of X hcd) rfl hbind hcell hloc (fun h₁ hns hk₁ => ?_) hco hgen hk
  refine wpAny_mono (h _ s.heap.objs.size h₁ ⟨hns, fun b o e => hk₁ b o (of_hideAll _ e), Nat.le_of_eq (hideAll_size _ _)⟩
    (fun p hp => ⟨hk₁ _ _ (Nl p hp).1, Nat.ne_of_lt (Heap.lt_size (Nl p hp).1), hideAll_none _ (List.mem_map_of_mem hp)⟩) BG (X₀.keeps st) (T.keeps st)) (fun fl s' hl => ?_) fun _ _ y => y
  obtain ⟨L', m', ex, h', tk', rfl, F', N', ho'⟩ := hl
  have FE : Fr h₀ L h' m := by
    obtain ⟨oL, a1, a2, hL, a3⟩ := FG.ns
    exact ⟨⟨oL, a1, a2, F'.keep _ _ hL, a3⟩, fun b o e => F'.keep _ _ (FG.keep b o e), F.above⟩
  refine hret _ ex h' tk' FE (fun p hp => ?_) ho'
  rcases List.mem_append.mp hp with hp | hp
  · obtain ⟨n1, n2, n3⟩ := N' p (List.mem_append_left _ hp)
    refine ⟨n1, fun e => ?_, ?_⟩
    · obtain ⟨oL, a1, a2, hL, a3⟩ := FG.ns
      rw [e, hL] at n3
      cases n3
    · cases q : h₀.get? p.1 with
      | none => rfl
      | some o => rw [FG.keep _ _ q] at n3; cases n3
  · refine ⟨?_, (N p hp).2.1, (N p hp).2.2⟩
    by_cases hm : p.1 ∈ led.map (·.1)
    · obtain ⟨q, hq, e⟩ := List.mem_map.mp hm
      have h1 := (Nl q hq).1
      have h2 := (N p hp).1
      rw [e, h2] at h1
      have h3 := (N' q (List.mem_append_right _ hq)).1
      rw [e] at h3
      rw [h3]
      exact h1.symm
    · exact F'.keep _ _ (hideAll_get _ (N p hp).1 hm)
end
/-- what a call of a def does: vs: its arguments; led: the made objects that it asks for; out: what it hands back, with the made objects that go with it; k: the frames that it wants -/
noncomputable abbrev CallW (w : World) (mean : ExcName → Option Value) (mg mb : Str → Option Value) (k : Nat) (f : Addr) (led : List (Addr × Obj)) (vs : List Value) (out : Value → List (Addr × Obj) → Prop) : Prop :=
  ∀ (dp un : Nat) (gd : Option (List Code)) (cn : Str) (cs : Scope) (a : Addr) (ccd : Value) (cl : List (Str × Addr)) (outer : List Env) (A₀ : Around) (base h₀ : Heap) (L : Addr) (m : Str → Option Value)
    (news : List (Addr × Obj)) (s : Shared) (Q E : Value → Shared → Prop), (∀ p ∈ led, p ∈ news) →
    Below A₀ base outer h₀ → Fr h₀ L s.heap m → (hd.heap_39 w.params).In h₀ → News h₀ L s.heap news → Top hd.view_39 (looseW hd.view_39 []) mean mg mb h₀ → cs.kind = .function →
    dp + k < recursionLimit → un + 8 * k < cLine →
    (∀ v ex h' tk', Fr h₀ L h' m → News h₀ L h' (ex ++ news) → out v ex → Q v { s with heap := h', toks := tk' }) →
    wpAny (model PySem.Challenge.rw_xo0009_01.row.prog w) (ktrTop dp un gd cn cs L a ccd cl outer) (call (.ref f) vs) Q E s
theorem callW_use {w : World} {mean : ExcName → Option Value} {mg mb : Str → Option Value} {k : Nat} {f : Addr} {led : List (Addr × Obj)} {vs : List Value} {out : Value → List (Addr × Obj) → Prop}
    {dp un : Nat} {gd : Option (List Code)} {cn : Str} {cs : Scope} {a : Addr} {ccd : Value} {cl : List (Str × Addr)} {outer : List Env} {A₀ : Around} {base h₀ : Heap} {L : Addr} {m : Str → Option Value}
    {news : List (Addr × Obj)} {s : Shared} {Q E : Value → Shared → Prop}
    (B : Below A₀ base outer h₀) (F : Fr h₀ L s.heap m) (X : (hd.heap_39 w.params).In h₀) (N : News h₀ L s.heap news) (T : Top hd.view_39 (looseW hd.view_39 []) mean mg mb h₀) (hk : cs.kind = .function)
    (C : CallW w mean mg mb k f led vs out) (hl : SubL led news) (hd : dp + k < recursionLimit) (hu : un + 8 * k < cLine)
    (ret : ∀ v ex h' tk', Fr h₀ L h' m → News h₀ L h' (ex ++ news) → out v ex → Q v { s with heap := h', toks := tk' }) :
    wpAny (model PySem.Challenge.rw_xo0009_01.row.prog w) (ktrTop dp un gd cn cs L a ccd cl outer) (call (.ref f) vs) Q E s := C _ _ _ _ _ _ _ _ _ _ _ _ _ _ _ _ _ _ hl.mem B F X N T hk hd hu ret
noncomputable abbrev tupO (l : List Value) : Obj := { cls := .type "tuple", data := .seq l.toArray }
/-- a value alone -/
noncomputable abbrev RetI (x : Int) : Value → List (Addr × Obj) → Prop := fun v ex => ex = [] ∧ ∃ t, v = .int x t
noncomputable abbrev RetS (x : Str) : Value → List (Addr × Obj) → Prop := fun v ex => ex = [] ∧ ∃ t, v = .str x t
local macro_rules | `(tactic| walk_at $s:str) => `(tactic| k_extra $s)
local macro_rules | `(tactic| kt_len) => `(tactic| k_extra "kt_len")
-- part C0
/-- what a call of a def at the address f does, from a caller's frame: it gives back R t and keeps frame and ledger; k: the frames that it wants -/
noncomputable abbrev CallS (w : World) (mean : ExcName → Option Value) (mg mb : Str → Option Value) (k : Nat) (f : Addr) (vs : List Value) (R : Tok → Value) : Prop :=
  ∀ (dp un : Nat) (gd : Option (List Code)) (cn : Str) (cs : Scope) (a : Addr) (ccd : Value) (cl : List (Str × Addr)) (outer : List Env) (A₀ : Around) (base h₀ : Heap) (L : Addr) (m : Str → Option Value)
    (news : List (Addr × Obj)) (s : Shared) (Q E : Value → Shared → Prop),
    Below A₀ base outer h₀ → Fr h₀ L s.heap m → (hd.heap_39 w.params).In h₀ → News h₀ L s.heap news → Top hd.view_39 (looseW hd.view_39 []) mean mg mb h₀ → cs.kind = .function →
    dp + k < recursionLimit → un + 8 * k < cLine → CbRet h₀ L m news s Q R →
    wpAny (model PySem.Challenge.rw_xo0009_01.row.prog w) (ktrTop dp un gd cn cs L a ccd cl outer) (call (.ref f) vs) Q E s
theorem callS_use {w : World} {mean : ExcName → Option Value} {mg mb : Str → Option Value} {k : Nat} {f : Addr} {vs : List Value} {R : Tok → Value}
    {dp un : Nat} {gd : Option (List Code)} {cn : Str} {cs : Scope} {a : Addr} {ccd : Value} {cl : List (Str × Addr)} {outer : List Env} {A₀ : Around} {base h₀ : Heap} {L : Addr} {m : Str → Option Value}
    {news : List (Addr × Obj)} {s : Shared} {Q E : Value → Shared → Prop}
    (B : Below A₀ base outer h₀) (F : Fr h₀ L s.heap m) (X : (hd.heap_39 w.params).In h₀) (N : News h₀ L s.heap news) (T : Top hd.view_39 (looseW hd.view_39 []) mean mg mb h₀) (hk : cs.kind = .function)
    (C : CallS w mean mg mb k f vs R) (hd : dp + k < recursionLimit) (hu : un + 8 * k < cLine)
    (ret : ∀ (t : Tok) (h' : Heap) (tk' : Nat), Fr h₀ L h' m → News h₀ L h' news → Q (R t) { s with heap := h', toks := tk' }) :
    wpAny (model PySem.Challenge.rw_xo0009_01.row.prog w) (ktrTop dp un gd cn cs L a ccd cl outer) (call (.ref f) vs) Q E s := C _ _ _ _ _ _ _ _ _ _ _ _ _ _ _ _ _ _ B F X N T hk hd hu ret
-- part C2
theorem iadd_c (w : World) (mean : ExcName → Option Value) (mg mb : Str → Option Value) (x y : Int) (tx ty : Tok) :
    CallS w mean mg mb 1 86 [.int x tx, .int y ty] (fun t => .int (x + y) t) := by
  unfold CallS
  k_fill
  w_top off
  intro dp un gd cn cs a ccd cl outer A₀ base h₀ L m news s Q E B F X N T hk hd hu hret
  dsimp only [CbRet] at hret
  refine wpAny_call ?_
  k_dflt cell_enter
  k_steps
  all_goals (exact hret _ _ _ (by k_asm) (by k_asm))
theorem isub_c (w : World) (mean : ExcName → Option Value) (mg mb : Str → Option Value) (x y : Int) (tx ty : Tok) :
    CallS w mean mg mb 1 114 [.int x tx, .int y ty] (fun t => .int (x - y) t) := by
  unfold CallS
  k_fill
  w_top off
  intro dp un gd cn cs a ccd cl outer A₀ base h₀ L m news s Q E B F X N T hk hd hu hret
  dsimp only [CbRet] at hret
  refine wpAny_call ?_
  k_dflt cell_enter
  k_steps
  all_goals (exact hret _ _ _ (by k_asm) (by k_asm))
theorem imul_c (w : World) (mean : ExcName → Option Value) (mg mb : Str → Option Value) (x y : Int) (tx ty : Tok) (hx0 : 0 ≤ x) (hx1 : x < 10 ^ 40) (hy0 : 0 ≤ y) (hy1 : y < 1000):
    CallS w mean mg mb 1 107 [.int x tx, .int y ty] (fun t => .int (x * y) t) := by
  unfold CallS
  k_fill
  w_top off
  intro dp un gd cn cs a ccd cl outer A₀ base h₀ L m news s Q E B F X N T hk hd hu hret
  dsimp only [CbRet] at hret
  refine wpAny_call ?_
  k_dflt cell_enter
  k_steps
  all_goals (exact hret _ _ _ (by k_asm) (by k_asm))
theorem imod_c (w : World) (mean : ExcName → Option Value) (mg mb : Str → Option Value) (x y : Int) (tx ty : Tok) (hy : 0 < y) :
    CallS w mean mg mb 1 100 [.int x tx, .int y ty] (fun t => .int (x % y) t) := by
  rw [← Int.fmod_eq_emod_of_nonneg x (Int.le_of_lt hy)]
  unfold CallS
  k_fill
  w_top off
  intro dp un gd cn cs a ccd cl outer A₀ base h₀ L m news s Q E B F X N T hk hd hu hret
  dsimp only [CbRet] at hret
  refine wpAny_call ?_
  k_dflt cell_enter
  k_steps
  all_goals (exact hret _ _ _ (by k_asm) (by k_asm))
theorem ifloordiv_c (w : World) (mean : ExcName → Option Value) (mg mb : Str → Option Value) (x y : Int) (tx ty : Tok) (hy : 0 < y) (hy1 : y < 1000000) :
    CallS w mean mg mb 1 93 [.int x tx, .int y ty] (fun t => .int (x / y) t) := by
  rw [← Int.fdiv_eq_ediv_of_nonneg x (Int.le_of_lt hy)]
  unfold CallS
  k_fill
  w_top off
  intro dp un gd cn cs a ccd cl outer A₀ base h₀ L m news s Q E B F X N T hk hd hu hret
  dsimp only [CbRet] at hret
  refine wpAny_call ?_
  k_dflt cell_enter
  k_steps
  all_goals (exact hret _ _ _ (by k_asm) (by k_asm))
/-- a call of call(f, x, y), f a def of two ints -/
theorem call_c (w : World) (mean : ExcName → Option Value) (mg mb : Str → Option Value) (f : Addr) (x y : Int) (tx ty : Tok) (R : Tok → Value)
    (hf : ∀ P, keepIn (hd.heap_39 P) (.ref f) = true) (hC : CallS w mean mg mb 1 f [.int x tx, .int y ty] R) :
    CallS w mean mg mb 2 79 [.ref f, .int x tx, .int y ty] R := by
  unfold CallS
  k_fill
  w_top off
  intro dp un gd cn cs a ccd cl outer A₀ base h₀ L m news s Q E B F X N T hk hd hu hret
  dsimp only [CbRet] at hret
  refine wpAny_call ?_
  k_dflt (refine' kp_both ?k1 ?k2 ?k3 ?k4 ?k5 ?kA ?kF ?kK ?k6 ?k7 ?k8 ?kV ?kX ?kQ ?kM ?kN ?kD ?kR ?kP ?kS ?kT ?kB ?_ ?c2 ?c3 ?c4 ?c5; (case kA => exact rfl); (case kF => exact rfl); (case kK => assumption); (case k1 => k_asm); (case k2 => k_asm); (case k3 => k_asm); (case k4 => k_asm); (case k5 => k_asm); (case k6 => k_is); (case k7 => k_is); (case k8 => ktr_room); (case kV => kp_lit); (case kX => kp_lit); (case kQ => exact rfl); (case kM => exact rfl); (case kN => exact rfl); (case kD => kp_flats); (case kR => exact rfl); (case kP => exact rfl); (case kS => exact fun _ => rfl); (case kT => exact fun _ _ => rfl); (case kB => exact fun _ _ => locs rfl); (case c5 => decide); (case c2 => exact rfl); (case c3 => exact rfl); (case c4 => exact rfl); k_whole; intro C' D' o' g' L' h' tk' l1 l2 lo' hs' fs' FG' F' N' B' X' T')
  refine wpAny_execs_cons ?_
  refine wpAny_Return_some ?_
  walk1
  walk1
  refine callWith_SKF X' F' N' (hf _) lo' rfl rfl (.tail _ (.head _)) (.head _) hs' rfl (Nat.le_of_ble_eq_true rfl) fun h₂ d₂ F₂ N₂ => ?_
  refine callS_use B' F₂ X' N₂ T' rfl hC (by ktr_room) (by ktr_units) fun t₃ h₃ tk₃ F₃ N₃ => ?_
  k_steps
  all_goals (refine hret _ _ _ ?_ ?_; (k_asm); (refine cb_drop (by assumption) ?_; intro p hp; exact .tail _ (.tail _ (.tail _ hp))))
theorem addsub_c (w : World) (mean : ExcName → Option Value) (mg mb : Str → Option Value) (b : Bool) (x y z : Int) (tx ty : Tok) (hz : z = if b then x - y else x + y) :
    CallS w mean mg mb 1 (if b then 114 else 86) [.int x tx, .int y ty] (fun t => .int z t) := by
  subst hz
  cases b
  · exact iadd_c w mean mg mb x y tx ty
  · exact isub_c w mean mg mb x y tx ty
theorem keep_86 (P : Params) : keepIn (hd.heap_39 P) (.ref 86) = true := rfl
theorem keep_93 (P : Params) : keepIn (hd.heap_39 P) (.ref 93) = true := rfl
theorem keep_100 (P : Params) : keepIn (hd.heap_39 P) (.ref 100) = true := rfl
theorem keep_107 (P : Params) : keepIn (hd.heap_39 P) (.ref 107) = true := rfl
theorem keep_114 (P : Params) : keepIn (hd.heap_39 P) (.ref 114) = true := rfl
theorem keep_as (b : Bool) (P : Params) : keepIn (hd.heap_39 P) (.ref (if b then 114 else 86)) = true := by cases b; exact keep_86 P; exact keep_114 P
theorem callW_ofS {w : World} {mean : ExcName → Option Value} {mg mb : Str → Option Value} {k : Nat} {f : Addr} {vs : List Value} {x : Int} (h : CallS w mean mg mb k f vs (fun t => .int x t)) : CallW w mean mg mb k f [] vs (RetI x) :=
  fun _ _ _ _ _ _ _ _ _ _ _ _ _ _ _ _ _ _ _ B F X N T hk hd hu hret => h _ _ _ _ _ _ _ _ _ _ _ _ _ _ _ _ _ _ B F X N T hk hd hu fun t h' tk' F' N' => hret _ [] h' tk' F' N' ⟨rfl, t, rfl⟩
-- part C3
theorem run2_c (w : World) (mean : ExcName → Option Value) (mg mb : Str → Option Value) (x : Int) (tx : Tok) (D d1 d2 : Addr) (f1 f2 : Addr) (b1 b2 : Int) (t1 t2 : Tok) (y1 y2 : Int)
    (hf1 : ∀ P, keepIn (hd.heap_39 P) (.ref f1) = true) (hf2 : ∀ P, keepIn (hd.heap_39 P) (.ref f2) = true)
    (h1 : ∀ tx ty, CallS w mean mg mb 1 f1 [.int x tx, .int b1 ty] (fun t => .int y1 t)) (h2 : ∀ tx ty, CallS w mean mg mb 1 f2 [.int y1 tx, .int b2 ty] (fun t => .int y2 t)) :
    CallW w mean mg mb 3 133 [(D, tupO [.ref d1, .ref d2]), (d1, tupO [.ref f1, .int b1 t1]), (d2, tupO [.ref f2, .int b2 t2])] [.int x tx, .ref D] (RetI y2) := by
  unfold CallW
  k_fill
  w_top off
  k_with_none
  k_with "wEnter" => (refine' enterW (args := ⟨_, []⟩) ?mw0k1 ?mw0k2 ?mw0k3 ?mw0k4 ?mw0k5 ?mw0kA ?mw0kF ?mw0kK ?mw0kS ?mw0k6 ?mw0k7 ?mw0k8 ?mw0k9 ?mw0kB ?_ ?mw0kQ ?mw0c2 ?mw0c3 ?mw0c4 ?mw0c5; (case mw0kA => exact rfl); (case mw0kF => exact rfl); (case mw0kK => assumption); (case mw0k1 => k_asm); (case mw0k2 => k_asm); (case mw0k3 => k_asm); (case mw0k4 => k_asm); (case mw0k5 => k_asm); (case mw0kS => k_asm); (case mw0k6 => k_is); (case mw0k7 => k_is); (case mw0k8 => ktr_room); (case mw0k9 => exact BindsTo.of_eq rfl); (case mw0c5 => decide); (case mw0kB => exact locs rfl); (case mw0c2 => exact rfl); (case mw0c3 => exact rfl); (case mw0c4 => exact rfl); (case mw0kQ => k_asm); k_whole; intro g' L' h' F' N' B' X' T'; (try dsimp only); (try k_lift B'); (try k_fold))
  k_with "wEnd" => (refine EndW.intro [] (by k_asm) (by k_asm) (SubL.mem (by (simp only [List.nil_append]); k_subL)) ⟨rfl, _, rfl⟩)
  k_with "call ref" => (k_here; k_dflt (refine' callW_use ?mw2k1 ?mw2k2 ?mw2k3 ?mw2k4 ?mw2k5 ?mw2kK ?mw2kC ?mw2kl ?mw2kd ?mw2ku ?_; (case mw2k1 => k_asm); (case mw2k2 => k_asm); (case mw2k3 => k_asm); (case mw2k4 => k_asm); (case mw2k5 => k_asm); (case mw2kK => first | exact rfl | assumption); (case mw2kC => k_extra "contract"); (case mw2kl => k_subL); (case mw2kd => ktr_room); (case mw2ku => ktr_units); k_whole); (refine fun v9 ex9 h9 tk9 F9 N9 o9 => ?_); (obtain ⟨e9, t9, e8⟩ := o9; subst e9; subst e8; (try simp only [List.nil_append] at N9)); (try k_sweep); (try dsimp only); (try k_fold))
  k_with "contract" => first | exact callW_ofS (call_c _ _ _ _ _ _ _ _ _ _ hf1 (h1 _ _)) | exact callW_ofS (call_c _ _ _ _ _ _ _ _ _ _ hf2 (h2 _ _))
  intro dp un gd cn cs a ccd cl outer A₀ base h₀ L m news s Q E hsub B F X N T hk hd hu hret
  k_dflt (walk_at "wEnter")
  k_steps
  all_goals (walk_at "wEnd")
theorem run3_c (w : World) (mean : ExcName → Option Value) (mg mb : Str → Option Value) (x : Int) (tx : Tok) (D d1 d2 d3 : Addr) (f1 f2 f3 : Addr) (b1 b2 b3 : Int) (t1 t2 t3 : Tok) (y1 y2 y3 : Int)
    (hf1 : ∀ P, keepIn (hd.heap_39 P) (.ref f1) = true) (hf2 : ∀ P, keepIn (hd.heap_39 P) (.ref f2) = true) (hf3 : ∀ P, keepIn (hd.heap_39 P) (.ref f3) = true)
    (h1 : ∀ tx ty, CallS w mean mg mb 1 f1 [.int x tx, .int b1 ty] (fun t => .int y1 t)) (h2 : ∀ tx ty, CallS w mean mg mb 1 f2 [.int y1 tx, .int b2 ty] (fun t => .int y2 t)) (h3 : ∀ tx ty, CallS w mean mg mb 1 f3 [.int y2 tx, .int b3 ty] (fun t => .int y3 t)) :
    CallW w mean mg mb 3 133 [(D, tupO [.ref d1, .ref d2, .ref d3]), (d1, tupO [.ref f1, .int b1 t1]), (d2, tupO [.ref f2, .int b2 t2]), (d3, tupO [.ref f3, .int b3 t3])] [.int x tx, .ref D] (RetI y3) := by
  unfold CallW
  k_fill
  w_top off
  k_with_none
  k_with "wEnter" => (refine' enterW (args := ⟨_, []⟩) ?mw0k1 ?mw0k2 ?mw0k3 ?mw0k4 ?mw0k5 ?mw0kA ?mw0kF ?mw0kK ?mw0kS ?mw0k6 ?mw0k7 ?mw0k8 ?mw0k9 ?mw0kB ?_ ?mw0kQ ?mw0c2 ?mw0c3 ?mw0c4 ?mw0c5; (case mw0kA => exact rfl); (case mw0kF => exact rfl); (case mw0kK => assumption); (case mw0k1 => k_asm); (case mw0k2 => k_asm); (case mw0k3 => k_asm); (case mw0k4 => k_asm); (case mw0k5 => k_asm); (case mw0kS => k_asm); (case mw0k6 => k_is); (case mw0k7 => k_is); (case mw0k8 => ktr_room); (case mw0k9 => exact BindsTo.of_eq rfl); (case mw0c5 => decide); (case mw0kB => exact locs rfl); (case mw0c2 => exact rfl); (case mw0c3 => exact rfl); (case mw0c4 => exact rfl); (case mw0kQ => k_asm); k_whole; intro g' L' h' F' N' B' X' T'; (try dsimp only); (try k_lift B'); (try k_fold))
  k_with "wEnd" => (refine EndW.intro [] (by k_asm) (by k_asm) (SubL.mem (by (simp only [List.nil_append]); k_subL)) ⟨rfl, _, rfl⟩)
  k_with "call ref" => (k_here; k_dflt (refine' callW_use ?mw2k1 ?mw2k2 ?mw2k3 ?mw2k4 ?mw2k5 ?mw2kK ?mw2kC ?mw2kl ?mw2kd ?mw2ku ?_; (case mw2k1 => k_asm); (case mw2k2 => k_asm); (case mw2k3 => k_asm); (case mw2k4 => k_asm); (case mw2k5 => k_asm); (case mw2kK => first | exact rfl | assumption); (case mw2kC => k_extra "contract"); (case mw2kl => k_subL); (case mw2kd => ktr_room); (case mw2ku => ktr_units); k_whole); (refine fun v9 ex9 h9 tk9 F9 N9 o9 => ?_); (obtain ⟨e9, t9, e8⟩ := o9; subst e9; subst e8; (try simp only [List.nil_append] at N9)); (try k_sweep); (try dsimp only); (try k_fold))
  k_with "contract" => first | exact callW_ofS (call_c _ _ _ _ _ _ _ _ _ _ hf1 (h1 _ _)) | exact callW_ofS (call_c _ _ _ _ _ _ _ _ _ _ hf2 (h2 _ _)) | exact callW_ofS (call_c _ _ _ _ _ _ _ _ _ _ hf3 (h3 _ _))
  intro dp un gd cn cs a ccd cl outer A₀ base h₀ L m news s Q E hsub B F X N T hk hd hu hret
  k_dflt (walk_at "wEnter")
  k_steps
  all_goals (walk_at "wEnd")
-- part C4x1
/-- ways that meet: the value v, with no object made or changed -/
noncomputable def JoinP (s : Shared) (v x : Value) (s' : Shared) : Prop := ∃ tk, x = v ∧ s' = { s with toks := tk }
theorem JoinP.intro {s : Shared} {v x : Value} {tk : Nat} (e : x = v) : JoinP s v x { s with toks := tk } := ⟨tk, e, rfl⟩
theorem joinV {M : Model} {A : Around} {E : Value → Shared → Prop} {s : Shared} {t : Sem Value} {Q : Value → Shared → Prop} (v : Value) (h : wpAny M A t (fun x s' => JoinP s v x s') E s) (k : ∀ tk, Q v { s with toks := tk }) : wpAny M A t Q E s :=
  wpAny_mono h (fun x s' ⟨tk, e1, e2⟩ => by subst e1; subst e2; exact k tk) fun _ _ z => z
noncomputable def JoinI (s : Shared) (i : Int) (x : Value) (s' : Shared) : Prop := ∃ t tk, x = .int i t ∧ s' = { s with toks := tk }
theorem JoinI.intro {s : Shared} {i j : Int} {t : Tok} {tk : Nat} (e : j = i) : JoinI s i (.int j t) { s with toks := tk } := ⟨t, tk, by rw [e], rfl⟩
theorem joinI {M : Model} {A : Around} {E : Value → Shared → Prop} {s : Shared} {t : Sem Value} {Q : Value → Shared → Prop} (i : Int) (h : wpAny M A t (fun x s' => JoinI s i x s') E s) (k : ∀ t tk, Q (.int i t) { s with toks := tk }) : wpAny M A t Q E s :=
  wpAny_mono h (fun x s' ⟨t, tk, e1, e2⟩ => by subst e1; subst e2; exact k t tk) fun _ _ z => z
noncomputable def JoinS (s : Shared) (i : Str) (x : Value) (s' : Shared) : Prop := ∃ t tk, x = .str i t ∧ s' = { s with toks := tk }
theorem JoinS.intro {s : Shared} {i j : Str} {t : Tok} {tk : Nat} (e : j = i) : JoinS s i (.str j t) { s with toks := tk } := ⟨t, tk, by rw [e], rfl⟩
theorem joinS {M : Model} {A : Around} {E : Value → Shared → Prop} {s : Shared} {t : Sem Value} {Q : Value → Shared → Prop} (i : Str) (h : wpAny M A t (fun x s' => JoinS s i x s') E s) (k : ∀ t tk, Q (.str i t) { s with toks := tk }) : wpAny M A t Q E s :=
  wpAny_mono h (fun x s' ⟨t, tk, e1, e2⟩ => by subst e1; subst e2; exact k t tk) fun _ _ z => z
-- part Cal
/-- the year is a leap year -/
noncomputable def leapB (y : Int) : Bool := y % 4 == 0 && (y % 100 != 0 || y % 400 == 0)
/-- the months' lengths -/
noncomputable def lens (y : Int) : List Int := [31, if leapB y then 29 else 28, 31, 30, 31, 30, 31, 31, 30, 31, 30, 31]
/-- the days ahead of a month in its year (0: January) -/
noncomputable def cum (l : Int) : Nat → Int
  | 0 => 0
  | 1 => 31
  | 2 => 31 + l
  | 3 => 62 + l
  | 4 => 92 + l
  | 5 => 123 + l
  | 6 => 153 + l
  | 7 => 184 + l
  | 8 => 215 + l
  | 9 => 245 + l
  | 10 => 276 + l
  | _ => 306 + l
/-- the century, the year in it, the month and the day by the three steps -/
theorem steps_back {c y r1 r2 days l : Int} (hy0 : 0 ≤ y) (hy1 : y ≤ 99) (hl0 : 0 ≤ l) (hl1 : l ≤ 365)
    (hl : l = 365 → (y + 1) % 4 = 0 ∧ (y ≠ 99 ∨ (c + 1) % 4 = 0))
    (hd : days = 36524 * c + c / 4 + 365 * y + y / 4 + l) (h1 : r1 = 365 * y + y / 4 + l) (h2 : r2 = l) :
    (days * 4 + 3) / 146097 = c ∧ ((days * 4 + 3) % 146097) / 4 = r1 ∧ (r1 * 4 + 3) / 1461 = y ∧ ((r1 * 4 + 3) % 1461) / 4 = r2 := by
  subst h2
  have a1 : (days * 4 + 3) / 146097 = c := by omega
  have a2 : ((days * 4 + 3) % 146097) / 4 = r1 := by omega
  have a3 : (r1 * 4 + 3) / 1461 = y := by omega
  have a4 : ((r1 * 4 + 3) % 1461) / 4 = r2 := by omega
  exact ⟨a1, a2, a3, a4⟩
/-- what the three steps give of the count from 1 March of the year 0 -/
structure Back (days y m d : Int) : Prop where
  year : (days * 4 + 3) / 146097 * 100 + (((days * 4 + 3) % 146097) / 4 * 4 + 3) / 1461 + ((((((days * 4 + 3) % 146097) / 4 * 4 + 3) % 1461) / 4 * 5 + 461) / 153) / 13 = y
  month : ((((((days * 4 + 3) % 146097) / 4 * 4 + 3) % 1461) / 4 * 5 + 461) / 153) - (((((((days * 4 + 3) % 146097) / 4 * 4 + 3) % 1461) / 4 * 5 + 461) / 153) / 13) * 12 = m
  day : ((((((days * 4 + 3) % 146097) / 4 * 4 + 3) % 1461) / 4 * 5 + 461) % 153) / 5 + 1 = d
theorem back_of {days y m d c yy l : Int} (hy0 : 0 ≤ yy) (hy1 : yy ≤ 99) (hl0 : 0 ≤ l) (hl1 : l ≤ 365)
    (hl : l = 365 → (yy + 1) % 4 = 0 ∧ (yy ≠ 99 ∨ (c + 1) % 4 = 0)) (hd : days = 36524 * c + c / 4 + 365 * yy + yy / 4 + l)
    (h1 : 100 * c + yy + (l * 5 + 461) / 153 / 13 = y) (h2 : (l * 5 + 461) / 153 - (l * 5 + 461) / 153 / 13 * 12 = m) (h3 : (l * 5 + 461) % 153 / 5 + 1 = d) : Back days y m d := by
  obtain ⟨a1, a2, a3, a4⟩ := steps_back hy0 hy1 hl0 hl1 hl hd rfl rfl
  refine ⟨?_, ?_, ?_⟩
  · rw [a2, a1, a3, a4]; omega
  · rw [a2, a4]; omega
  · rw [a2, a4]; omega
theorem leap_iff (y : Int) : leapB y = true ↔ y % 4 = 0 ∧ (y % 100 ≠ 0 ∨ y % 400 = 0) := by
  simp [leapB, bne_iff_ne]
/-- the days of a month ahead of which 1 March stands -/
noncomputable def mOff (k : Nat) : Int := ([306, 337, 0, 31, 61, 92, 122, 153, 184, 214, 245, 275] : List Int).getD k 0
noncomputable def mMax (k : Nat) : Int := ([31, 29, 31, 30, 31, 30, 31, 31, 30, 31, 30, 31] : List Int).getD k 0
theorem month_back : ∀ (k : Fin 12) (e : Fin 31), ((e.val : Nat) : Int) < mMax k.val →
    ((mOff k.val + (e.val : Nat)) * 5 + 461) / 153 = (if k.val < 2 then (k.val : Int) + 13 else (k.val : Int) + 1) ∧ ((mOff k.val + (e.val : Nat)) * 5 + 461) % 153 / 5 = (e.val : Nat) := by decide +kernel
theorem month_lens : ∀ (b : Bool) (k : Fin 12), ([31, if b then 29 else 28, 31, 30, 31, 30, 31, 31, 30, 31, 30, 31] : List Int).getD k.val 0 ≤ mMax k.val ∧ mMax k.val ≤ 31 ∧
    (k.val = 1 → ([31, if b then 29 else 28, 31, 30, 31, 30, 31, 31, 30, 31, 30, 31] : List Int).getD k.val 0 = if b then 29 else 28) := by decide +kernel
theorem month_cum : ∀ (b : Bool) (k : Fin 12), (k.val < 2 → cum (if b then 29 else 28) k.val = 31 * (k.val : Int) ∧ mOff k.val = 306 + 31 * (k.val : Int)) ∧ (2 ≤ k.val → cum (if b then 29 else 28) k.val = mOff k.val + 31 + (if b then 29 else 28) ∧ 0 ≤ mOff k.val ∧ mOff k.val ≤ 275) := by decide +kernel
theorem count_late {y l d o ahead : Int} (hl : (l = 29 ∧ y % 4 = 0 ∧ (y % 100 ≠ 0 ∨ y % 400 = 0)) ∨ (l = 28 ∧ ¬ (y % 4 = 0 ∧ (y % 100 ≠ 0 ∨ y % 400 = 0))))
    (ha : ahead = 365 * (y - 1) + (y - 1) / 4 - (y - 1) / 100 + (y - 1) / 400 + (o + 31 + l) + d - 1) : ahead + 306 = 36524 * (y / 100) + y / 100 / 4 + 365 * (y % 100) + y % 100 / 4 + (o + (d - 1)) := by
  rcases hl with ⟨rfl, h⟩ | ⟨rfl, h⟩ <;> omega
theorem count_early {y d c ahead : Int} (ha : ahead = 365 * (y - 1) + (y - 1) / 4 - (y - 1) / 100 + (y - 1) / 400 + c + d - 1) : ahead + 306 = 36524 * ((y - 1) / 100) + (y - 1) / 100 / 4 + 365 * ((y - 1) % 100) + (y - 1) % 100 / 4 + (306 + c + (d - 1)) := by
  omega
/-- the law's count of days and the steps back -/
theorem calendar {y d ahead : Int} {k : Nat} (hk : k < 12) (hd0 : 1 ≤ d) (hd1 : d ≤ (lens y).getD k 0)
    (ha : ahead = 365 * (y - 1) + (y - 1) / 4 - (y - 1) / 100 + (y - 1) / 400 + cum (if leapB y then 29 else 28) k + d - 1) : Back (ahead + 306) y ((k : Int) + 1) d := by
  have hL : ((if leapB y = true then (29 : Int) else 28) = 29 ∧ y % 4 = 0 ∧ (y % 100 ≠ 0 ∨ y % 400 = 0)) ∨ ((if leapB y = true then (29 : Int) else 28) = 28 ∧ ¬ (y % 4 = 0 ∧ (y % 100 ≠ 0 ∨ y % 400 = 0))) := by
    have := leap_iff y
    cases hb : leapB y
    · exact .inr ⟨rfl, fun h => by have := this.mpr h; rw [hb] at this; cases this⟩
    · exact .inl ⟨rfl, this.mp hb⟩
  obtain ⟨m1, m2, m3⟩ := month_lens (leapB y) ⟨k, hk⟩
  obtain ⟨c1, c2⟩ := month_cum (leapB y) ⟨k, hk⟩
  have hd2 : d ≤ mMax k := Int.le_trans hd1 m1
  obtain ⟨e, he⟩ : ∃ e : Nat, d - 1 = (e : Int) := Int.eq_ofNat_of_zero_le (by omega)
  have he31 : e < 31 := by
    have m2' : mMax k ≤ 31 := m2
    omega
  obtain ⟨b1, b2⟩ := month_back ⟨k, hk⟩ ⟨e, he31⟩ (by show (e : Int) < mMax k; omega)
  simp only at b1 b2 c1 c2
  rw [← he] at b1 b2
  have b3 : ((mOff k + (d - 1)) * 5 + 461) % 153 / 5 + 1 = d := by rw [b2]; omega
  by_cases h2 : k < 2
  · obtain ⟨c3, c4⟩ := c1 h2
    rw [if_pos h2] at b1
    have hc := count_early ha
    rw [c3] at hc
    have hx : k = 1 → d ≤ if leapB y = true then 29 else 28 := fun h => Int.le_trans hd1 (Int.le_of_eq (m3 h))
    generalize (if leapB y = true then (29 : Int) else 28) = L at hL hx
    rw [c4] at b1 b3
    clear c1 c2 m1 m2 m3 hd1 ha b2 c3 c4
    refine back_of (c := (y - 1) / 100) (yy := (y - 1) % 100) (l := 306 + 31 * (k : Int) + (d - 1)) (by clear hL hx hc b1 b3; omega) (by clear hL hx hc b1 b3; omega) (by clear hL hx hc b1 b3; omega) ?_ ?_ hc ?_ ?_ b3
    · have : k = 0 ∨ k = 1 := by omega
      clear hc b1 b3
      rcases this with rfl | rfl
      · omega
      · have := hx rfl
        omega
    · have : k = 0 ∨ k = 1 := by omega
      clear hc b1 b3
      rcases this with rfl | rfl
      · omega
      · have := hx rfl
        omega
    · rw [b1]; clear hL hx hc b1 b3; omega
    · rw [b1]; clear hL hx hc b1 b3; omega
  · obtain ⟨c3, c4, c5⟩ := c2 (by omega)
    rw [if_neg h2] at b1
    rw [c3] at ha
    generalize (if leapB y = true then (29 : Int) else 28) = L at hL ha
    have hc := count_late hL ha
    generalize mOff k = o at *
    clear c1 c2 m1 m2 m3 hd1 ha b2 c3 hL
    refine back_of (c := y / 100) (yy := y % 100) (l := o + (d - 1)) (by clear hc b1 b3; omega) (by clear hc b1 b3; omega) (by clear hc b1 b3; omega) (by clear hc b1 b3; omega) (by clear hc b1 b3; omega) hc ?_ ?_ b3
    · rw [b1]; clear hc b1 b3; omega
    · rw [b1]; clear hc b1 b3; omega
-- part C4
section
theorem news_tl {g h : Heap} {L : Addr} {p : Addr × Obj} {r : List (Addr × Obj)} (N : News g L h (p :: r)) : News g L h r := fun q hq => N q (.tail _ hq)
theorem item_made {prog : Program} {w : World} {A : Around} {E : Value → Shared → Prop} {s : Shared} {value slice : PySem.Expr} {h₀ : Heap} {L D : Addr} {news : List (Addr × Obj)} {o : Obj} {its : Array Value} {n : Nat} {k : Int} {u : Tok} {v : Value} {Q : Value → Shared → Prop} (N : News h₀ L s.heap news) (hm : (D, o) ∈ news)
    (hc : o.cls = .type "list") (hd : o.data = .seq its n) (h0 : 0 ≤ k) (hhi : k < 2 ^ 63) (hx : its[k.toNat]? = some v) (h : Q v s)
    (hs : subscripted slice false (.ref D) (.int k u) = operate [.ref D, .int k u] (getItem (.ref D) (.int k u)) := by with_unfolding_all rfl) : wpAny (model prog w) A (subscriptTail value slice (.ref D) (.int k u)) Q E s :=
  have hl : s.heap.IsList D its := ⟨o, (N _ hm).1, hc, n, hd⟩
  tail_any hl.typeIs slot_list_getitem.lookup (wpAny_getItem_list hl h0 hhi hx h) hs
theorem cells_c (w : World) (mean : ExcName → Option Value) (mg mb : Str → Option Value) (zone : Str) (tz : Tok) (I : Int) (ti : Tok) (b : Bool) (H M lo : Int)
    (hz : 5 ≤ zone.length) (hz' : zone.length ≤ 100) (hb : (Txt.item zone 0 == Str.ofString "-") = b)
    (hH : PySem.intText? (Txt.slice zone (some 1) (some 3)) = some H) (hM : PySem.intText? (Txt.slice zone (some 3) (some 5)) = some M) (hH0 : 0 ≤ H) (hH1 : H < 100) (hM0 : 0 ≤ M) (hM1 : M < 100)
    (hlo : lo = if b then I - (H * 60 + M) * 60 else I + (H * 60 + M) * 60) (hl0 : 0 ≤ lo) (hl1 : lo < 10 ^ 30) (y mo d : Int) (hB : Back (lo / 86400) y mo d) :
    CallW w mean mg mb 4 140 [] [.str zone tz, .int I ti] (fun v ex => ∃ D t1 t2 t3 t4 t5 t6 t7 t8 t9, v = .ref D ∧ ex = [(D, tupO [.int y t1, .int mo t2, .int d t3, .int (lo % 86400 / 3600) t4, .int (lo % 86400 / 60 % 60) t5, .int (lo % 86400 % 60) t6, .int ((lo / 86400 + 2) % 7) t7, .int 0 t8, .int (-1) t9])]) := by
  obtain ⟨rfl, rfl, rfl⟩ := hB
  unfold CallW
  k_fill
  w_top off
  k_with_none
  k_with "wEnter" => (refine' enterW (args := ⟨_, []⟩) ?mw0k1 ?mw0k2 ?mw0k3 ?mw0k4 ?mw0k5 ?mw0kA ?mw0kF ?mw0kK ?mw0kS ?mw0k6 ?mw0k7 ?mw0k8 ?mw0k9 ?mw0kB ?_ ?mw0kQ ?mw0c2 ?mw0c3 ?mw0c4 ?mw0c5; (case mw0kA => exact rfl); (case mw0kF => exact rfl); (case mw0kK => assumption); (case mw0k1 => k_asm); (case mw0k2 => k_asm); (case mw0k3 => k_asm); (case mw0k4 => k_asm); (case mw0k5 => k_asm); (case mw0kS => k_asm); (case mw0k6 => k_is); (case mw0k7 => k_is); (case mw0k8 => ktr_room); (case mw0k9 => exact BindsTo.of_eq rfl); (case mw0c5 => decide); (case mw0kB => exact locs rfl); (case mw0c2 => exact rfl); (case mw0c3 => exact rfl); (case mw0c4 => exact rfl); (case mw0kQ => k_asm); k_whole; intro g' L' h' F' N' B' X' T'; (try dsimp only); (try k_lift B'); (try k_fold))
  k_with "wEnd" => (refine EndW.intro [] (by k_asm) (by k_asm) (SubL.mem (by (simp only [List.nil_append]); k_subL)) ⟨rfl, _, rfl⟩)
  k_with "call ref" => (k_here; k_dflt (refine' callW_use ?mw2k1 ?mw2k2 ?mw2k3 ?mw2k4 ?mw2k5 ?mw2kK ?mw2kC ?mw2kl ?mw2kd ?mw2ku ?_; (case mw2k1 => k_asm); (case mw2k2 => k_asm); (case mw2k3 => k_asm); (case mw2k4 => k_asm); (case mw2k5 => k_asm); (case mw2kK => first | exact rfl | assumption); (case mw2kC => k_extra "contract"); (case mw2kl => k_subL); (case mw2kd => ktr_room); (case mw2ku => ktr_units); k_whole); (refine fun v9 ex9 h9 tk9 F9 N9 o9 => ?_); (obtain ⟨e9, t9, e8⟩ := o9; subst e9; subst e8; (try simp only [List.nil_append] at N9)); (try k_sweep); (try dsimp only); (try k_fold))
  k_with "wOp" => (intro _ _; first | exact iadd_c _ _ _ _ _ _ _ _ | exact isub_c _ _ _ _ _ _ _ _ | (refine imod_c _ _ _ _ _ _ _ _ ?_ <;> omega) | (refine ifloordiv_c _ _ _ _ _ _ _ _ ?_ ?_ <;> omega) | (refine imul_c _ _ _ _ _ _ _ _ ?_ ?_ ?_ ?_ <;> omega))
  k_with "wOpS" => (first | exact callW_ofS (iadd_c _ _ _ _ _ _ _ _) | exact callW_ofS (isub_c _ _ _ _ _ _ _ _) | (refine callW_ofS (imod_c _ _ _ _ _ _ _ _ ?_) <;> omega) | (refine callW_ofS (ifloordiv_c _ _ _ _ _ _ _ _ ?_ ?_) <;> omega) | (refine callW_ofS (imul_c _ _ _ _ _ _ _ _ ?_ ?_ ?_ ?_) <;> omega))
  k_with "wKeep" => (first | exact keep_86 | exact keep_93 | exact keep_100 | exact keep_107 | exact keep_114)
  k_with "wPost3" => ((refine fun v9 ex9 h9 tk9 F9 N9 o9 => ?_); (obtain ⟨e9, t9, e8⟩ := o9; subst e9; subst e8; (try simp only [List.nil_append] at N9)); (replace N9 := news_tl (news_tl (news_tl N9))); (try k_sweep); (try dsimp only); (try k_fold))
  k_with "wPost4" => ((refine fun v9 ex9 h9 tk9 F9 N9 o9 => ?_); (obtain ⟨e9, t9, e8⟩ := o9; subst e9; subst e8; (try simp only [List.nil_append] at N9)); (replace N9 := news_tl (news_tl (news_tl (news_tl N9)))); (try k_sweep); (try dsimp only); (try k_fold))
  k_with "call ref" => (k_here; k_dflt (first | (refine' callW_use ?k1 ?k2 ?k3 ?k4 ?k5 ?kK (run2_c _ _ _ _ _ _ _ _ _ _ _ _ _ _ _ _ _ ?f1 ?f2 ?h1 ?h2) ?kl ?kd ?ku ?_; (case k1 => k_asm); (case k2 => k_asm); (case k3 => k_asm); (case k4 => k_asm); (case k5 => k_asm); (case kK => first | exact rfl | assumption); (case kl => k_subL); (case f1 => walk_at "wKeep"); (case f2 => walk_at "wKeep"); (case h1 => walk_at "wOp"); (case h2 => walk_at "wOp"); (case kd => ktr_room); (case ku => ktr_units); k_whole; walk_at "wPost3") | (refine' callW_use ?k1 ?k2 ?k3 ?k4 ?k5 ?kK (run3_c _ _ _ _ _ _ _ _ _ _ _ _ _ _ _ _ _ _ _ _ _ _ ?f1 ?f2 ?f3 ?h1 ?h2 ?h3) ?kl ?kd ?ku ?_; (case k1 => k_asm); (case k2 => k_asm); (case k3 => k_asm); (case k4 => k_asm); (case k5 => k_asm); (case kK => first | exact rfl | assumption); (case kl => k_subL); (case f1 => walk_at "wKeep"); (case f2 => walk_at "wKeep"); (case f3 => walk_at "wKeep"); (case h1 => walk_at "wOp"); (case h2 => walk_at "wOp"); (case h3 => walk_at "wOp"); (case kd => ktr_room); (case ku => ktr_units); k_whole; walk_at "wPost4")))
  k_with "subscriptTail Name Constant ref int" => (k_here; (with_reducible show wpAny _ _ (subscriptTail _ _ (Value.ref _) (Value.int _ _)) _ _ _); k_dflt (refine' item_made ?iN ?im ?ic ?id (by decide) (by decide) ?ix ?_; (case iN => k_asm); (case im => k_mem); (case ic => exact rfl); (case id => exact rfl); (case ix => exact rfl); k_whole))
  k_with "newList nil" => (k_here; k_dflt (refine' newList_K ?k1 ?k2 ?_ (Nat.zero_le _); (case k1 => k_asm); (case k2 => k_asm)); intro l' h' F' N' l1; (try k_lt l1); (try k_sweep))
  k_with "call builtin:list.append" => (k_here; (with_reducible show wpAny _ _ (call (Value.builtin _) [Value.ref _, _]) _ _ _); k_dflt (refine' append_K ?k1 ?k2 ?k3 ?_ ?z; (case k1 => k_asm); (case k2 => k_asm); (case k3 => k_upd); (case z => exact Nat.le_of_ble_eq_true rfl)); intro h' F' N'; (try k_sweep))
  k_with "contract" => first | walk_at "wOpS" | exact callW_ofS (call_c _ _ _ _ _ _ _ _ _ _ (keep_as b) (addsub_c _ _ _ _ b _ _ _ _ _ hloH.out))
  k_with "eval IfExp" => k_dflt (refine joinV (.ref (if b then 114 else 86)) ?jh ?_; (case jh => (refine IfExp_ ?_; (repeat' (first | walk1 | (dsimp only; walk1))); all_goals (refine JoinP.intro ?_; rename_i hc; rw [hb] at hc; subst hc; rfl))); intro tk7; (try dsimp only))
  intro dp un gd cn cs a ccd cl outer A₀ base h₀ L m news s Q E hsub B F X N T hk hd hu hret
  have hs1 : (Txt.slice zone (some 1) (some 3)).length ≤ 100 := Nat.le_trans (Txt.slice_le _ _ _) hz'
  have hs2 : (Txt.slice zone (some 3) (some 5)).length ≤ 100 := Nat.le_trans (Txt.slice_le _ _ _) hz'
  have hloH := PySem.Flt.Hid.mk hlo
  clear hlo
  k_dflt (walk_at "wEnter")
  k_steps
  all_goals (refine' EndW.intro [_] ?F ?N ?S ⟨_, _, _, _, _, _, _, _, _, _, rfl, rfl⟩; (case F => k_asm); (case N => k_asm); (case S => exact SubL.mem (by (simp only [List.cons_append, List.nil_append]); k_subL)))
end
-- part Fig
/-- a number's figures, with noughts ahead of them up to k signs -/
noncomputable def fig (n k : Int) : Str := Txt.mul (Str.ofString "0") (k - ((Str.ofString (toString n)).length : Int)) ++ Str.ofString (toString n)
theorem foldl_one (c : Nat) : ∀ (n : Nat) (a : Array Nat), ((List.replicate n #[c]).foldl (· ++ ·) a).toList = a.toList ++ List.replicate n c
  | 0, a => by simp
  | n + 1, a => by
    rw [List.replicate_succ, List.foldl_cons, foldl_one c n, List.replicate_succ]
    simp
theorem mul_zeros (n : Int) : (Txt.mul (Str.ofString "0") n).cps.toList = List.replicate n.toNat 48 := by
  have e0 : (Str.ofString "0").cps = #[48] := by decide
  unfold Txt.mul
  by_cases h1 : n < 1
  · rw [if_pos h1]
    have : n.toNat = 0 := by omega
    rw [this]; rfl
  · rw [if_neg h1]
    by_cases h2 : (n == 1 || (Str.ofString "0").length == 0) = true
    · rw [if_pos h2]
      have h3 : n = 1 := by
        have : ((Str.ofString "0").length == 0) = false := by decide
        rw [this, Bool.or_false] at h2
        exact beq_iff_eq.mp h2
      rw [h3, e0]; rfl
    · rw [if_neg h2, e0]
      show ((List.replicate n.toNat #[48]).foldl (· ++ ·) #[]).toList = _
      rw [foldl_one]; rfl
theorem fig_list (n k : Int) : (fig n k).cps.toList = List.replicate (k.toNat - (Str.ofString (toString n)).length) 48 ++ (Str.ofString (toString n)).cps.toList := by
  unfold fig
  rw [Str.cps_append, Array.toList_append, mul_zeros]
  congr 2
  omega
theorem fig_len (n k : Int) : (fig n k).length = max k.toNat (Str.ofString (toString n)).length := by
  have h : (fig n k).length = (fig n k).cps.toList.length := (Array.length_toList).symm
  rw [h, fig_list, List.length_append, List.length_replicate, Array.length_toList]
  show _ - _ + (Str.ofString (toString n)).length = _
  omega
-- part C1
theorem fig_c (w : World) (mean : ExcName → Option Value) (mg mb : Str → Option Value) (n : Int) (t : Tok) (k : Int) (u : Tok) (hn : 0 ≤ n) (hn' : n < 10 ^ 21) (hk0 : 0 ≤ k) (hk1 : k ≤ 4) :
    CallW w mean mg mb 1 121 [] [.int n t, .int k u] (RetS (fig n k)) := by
  unfold CallW
  k_fill
  w_top off
  k_with_none
  k_with "wEnter" => (refine' enterW (args := ⟨_, []⟩) ?mw0k1 ?mw0k2 ?mw0k3 ?mw0k4 ?mw0k5 ?mw0kA ?mw0kF ?mw0kK ?mw0kS ?mw0k6 ?mw0k7 ?mw0k8 ?mw0k9 ?mw0kB ?_ ?mw0kQ ?mw0c2 ?mw0c3 ?mw0c4 ?mw0c5; (case mw0kA => exact rfl); (case mw0kF => exact rfl); (case mw0kK => assumption); (case mw0k1 => k_asm); (case mw0k2 => k_asm); (case mw0k3 => k_asm); (case mw0k4 => k_asm); (case mw0k5 => k_asm); (case mw0kS => k_asm); (case mw0k6 => k_is); (case mw0k7 => k_is); (case mw0k8 => ktr_room); (case mw0k9 => exact BindsTo.of_eq rfl); (case mw0c5 => decide); (case mw0kB => exact locs rfl); (case mw0c2 => exact rfl); (case mw0c3 => exact rfl); (case mw0c4 => exact rfl); (case mw0kQ => k_asm); k_whole; intro g' L' h' F' N' B' X' T'; (try dsimp only); (try k_lift B'); (try k_fold))
  k_with "wEnd" => (refine EndW.intro [] (by k_asm) (by k_asm) (SubL.mem (by (simp only [List.nil_append]); k_subL)) ⟨rfl, _, rfl⟩)
  k_with "call ref" => (k_here; k_dflt (refine' callW_use ?mw2k1 ?mw2k2 ?mw2k3 ?mw2k4 ?mw2k5 ?mw2kK ?mw2kC ?mw2kl ?mw2kd ?mw2ku ?_; (case mw2k1 => k_asm); (case mw2k2 => k_asm); (case mw2k3 => k_asm); (case mw2k4 => k_asm); (case mw2k5 => k_asm); (case mw2kK => first | exact rfl | assumption); (case mw2kC => k_extra "contract"); (case mw2kl => k_subL); (case mw2kd => ktr_room); (case mw2ku => ktr_units); k_whole); (refine fun v9 ex9 h9 tk9 F9 N9 o9 => ?_); (obtain ⟨e9, t9, e8⟩ := o9; subst e9; subst e8; (try simp only [List.nil_append] at N9)); (try k_sweep); (try dsimp only); (try k_fold))
  intro dp un gd cn cs a ccd cl outer A₀ base h₀ L m news s Q E hsub B F X N T hk hd hu hret
  have hlen := toString_length_le hn (k := 21) (by decide) hn'
  k_dflt (walk_at "wEnter")
  k_steps
  all_goals (walk_at "wEnd")
-- part C8
section
noncomputable abbrev listO (l : List Value) : Obj := PySem.W.listOf l.toArray 0
theorem item_madeD {prog : Program} {w : World} {A : Around} {E : Value → Shared → Prop} {s : Shared} {value slice : PySem.Expr} {h₀ : Heap} {L D : Addr} {news : List (Addr × Obj)} {o : Obj} {its : Array Value} {n : Nat} {k : Int} {u : Tok} {v : Value} {Q : Value → Shared → Prop} (N : News h₀ L s.heap news) (hm : (D, o) ∈ news)
    (hc : o.cls = .type "list") (hd : o.data = .seq its n) (h0 : 0 ≤ k) (hhi : k < 2 ^ 63) {r : List Value} (hx : its.toList.drop k.toNat = v :: r) (h : Q v s)
    (hs : subscripted slice false (.ref D) (.int k u) = operate [.ref D, .int k u] (getItem (.ref D) (.int k u)) := by with_unfolding_all rfl) : wpAny (model prog w) A (subscriptTail value slice (.ref D) (.int k u)) Q E s :=
  have hl : s.heap.IsList D its := ⟨o, (N _ hm).1, hc, n, hd⟩
  tail_any hl.typeIs slot_list_getitem.lookup (wpAny_getItem_list hl h0 hhi (by rw [← Array.getElem?_toList]; have q := congrArg (fun l : List Value => l[0]?) hx; simpa using q) h) hs
noncomputable def B100 (n : Int) : Prop := 0 ≤ n ∧ n < 100
theorem b_div {e : Int} (h0 : -1439 ≤ e) (h1 : e ≤ 1439) : B100 ((if e < 0 then -e else e).fdiv 60) := by
  rw [Int.fdiv_eq_ediv_of_nonneg _ (by decide)]
  unfold B100
  split <;> omega
theorem b_mod (x : Int) : B100 (x.fmod 60) := by
  rw [Int.fmod_eq_emod_of_nonneg _ (by decide)]
  unfold B100
  omega
theorem b_hour {s : Int} (h0 : 0 ≤ s) (h1 : s < 86400) : B100 (s.fdiv 3600) := by
  rw [Int.fdiv_eq_ediv_of_nonneg _ (by decide)]
  unfold B100
  omega
theorem b_day {d : Int} (h0 : 1 ≤ d) (h1 : d ≤ 31) : B100 d := by
  unfold B100
  omega
theorem y_len {y : Int} (h0 : 1 ≤ y) (h1 : y ≤ 10 ^ 20) : (fig y 4).length ≤ 30 := by
  rw [fig_len]
  have := toString_length_le (v := y) (by omega) (k := 21) (by decide) (by omega)
  omega
theorem f_len {n : Int} (h : B100 n) : (fig n 2).length ≤ 30 := by
  obtain ⟨h0, h1⟩ := h
  rw [fig_len]
  have := toString_length_le h0 (k := 21) (by decide) (by omega)
  omega
theorem fig_y (w : World) (mean : ExcName → Option Value) (mg mb : Str → Option Value) (n : Int) (t : Tok) (u : Tok) (h0 : 1 ≤ n) (h1 : n ≤ 10 ^ 20) : CallW w mean mg mb 1 121 [] [.int n t, .int 4 u] (RetS (fig n 4)) :=
  fig_c w mean mg mb n t 4 u (by omega) (by omega) (by decide) (by decide)
theorem fig_b (w : World) (mean : ExcName → Option Value) (mg mb : Str → Option Value) (n : Int) (t : Tok) (u : Tok) (h : B100 n) : CallW w mean mg mb 1 121 [] [.int n t, .int 2 u] (RetS (fig n 2)) := by
  obtain ⟨h0, h1⟩ := h
  exact fig_c w mean mg mb n t 2 u h0 (by omega) (by decide) (by decide)
theorem fig_g (w : World) (mean : ExcName → Option Value) (mg mb : Str → Option Value) (n : Int) (t : Tok) (k : Int) (u : Tok) (h : (k = 2 ∧ B100 n) ∨ (k = 4 ∧ 1 ≤ n ∧ n ≤ 10 ^ 20)) : CallW w mean mg mb 1 121 [] [.int n t, .int k u] (RetS (fig n k)) := by
  rcases h with ⟨rfl, h⟩ | ⟨rfl, h0, h1⟩
  · exact fig_b w mean mg mb n t u h
  · exact fig_y w mean mg mb n t u h0 h1
/-- the sign that stands for a number in the zone's remark -/
noncomputable def mark (n : Int) : Str := if n.fmod 2 = 1 then Str.ofString "\"" else Str.ofString "a"
theorem mark_len (n : Int) : (mark n).length = 1 := by
  unfold mark
  split <;> rfl
theorem sub_at {prog : Program} {w : World} {A : Around} {E : Value → Shared → Prop} {s : Shared} {a b r : Int} {t u : Tok} {Q : Value → Shared → Prop} (e : a - b = r) (h : Q (.int r s.toks) { s with toks := s.toks + 1 }) : wpAny (model prog w) A (binaryOp .Sub (.int a t) (.int b u)) Q E s := by
  subst e
  exact sub_int h
theorem fig_le30 (n k : Int) (h0 : 0 ≤ n) (h1 : n < 10 ^ 21) (hk : k ≤ 4) : (fig n k).length ≤ 30 := by
  rw [fig_len]
  have := toString_length_le h0 (k := 21) (by decide) h1
  omega
theorem sgn_le {c : Prop} [Decidable c] {a b : Str} (ha : a.length ≤ 4) (hb : b.length ≤ 4) : (if c then a else b).length ≤ 4 := by
  split
  · exact ha
  · exact hb
theorem carried_of {vs : List Value} {xs : List Str} (h : StrsAre vs xs) : CarriedAll vs ((xs.map id).map PyData.str) := by
  induction h with
  | nil => exact .nil
  | cons x t _ ih => exact .cons (.str x t) ih
noncomputable def AllLe : List Str → Prop
  | [] => True
  | a :: r => a.length ≤ 8 ∧ AllLe r
theorem AllLe.all : ∀ {l : List Str}, AllLe l → ∀ a ∈ l, (id a).length ≤ 8
  | _ :: _, ⟨h, _⟩, _, .head _ => h
  | _ :: _, ⟨_, h⟩, _, .tail _ m => h.all _ m
theorem join_at {prog : Program} {w : World} {A : Around} {E : Value → Shared → Prop} {s : Shared} {h₀ : Heap} {L D : Addr} {news : List (Addr × Obj)} {its : Array Value} {n : Nat} {x : Str} {t : Tok} {l : List Str} {Q : Value → Shared → Prop} (N : News h₀ L s.heap news) (hm : (D, PySem.W.listOf its n) ∈ news)
    (hc : StrsAre its.toList l) (hB : AllLe l) (hl : l.length ≤ 1048576) (hx : 8 + x.length ≤ 16) (h : ∀ t' k, Q (.str (Txt.join x l) t') { s with toks := k }) : wpAny (model prog w) A (call (.builtin "str.join") [.str x t, .ref D]) Q E s :=
  join_madeW 8 (News.isList N hm) (carried_of hc) hB.all hl hx fun t' k => by rw [List.map_id]; exact h t' k
theorem mark_le8 (n : Int) : (mark n).length ≤ 8 := by rw [mark_len]; decide
theorem fig_le8 (n : Int) (h : B100 n) : (fig n 2).length ≤ 8 := by
  obtain ⟨h0, h1⟩ := h
  rw [fig_len]
  have := toString_length_le h0 (k := 4) (by decide) (by omega)
  omega
theorem marks_len (a b c d e : Int) : (Txt.join (Str.ofString "") [mark a, mark b, mark c, mark d, mark e]).length ≤ 10 := by
  rw [KT.join_ones _ (fun x hx => by
    simp only [List.mem_cons, List.not_mem_nil, or_false] at hx
    rcases hx with rfl | rfl | rfl | rfl | rfl <;> exact mark_len _)]
  exact Nat.le_of_ble_eq_true rfl
theorem clock_len {a b c : Int} (ha : B100 a) (hb : B100 b) (hc : B100 c) : (Txt.join (Str.ofString ":") [fig a 2, fig b 2, fig c 2]).length ≤ 40 := by
  have h1 := fig_le8 a ha
  have h2 := fig_le8 b hb
  have h3 := fig_le8 c hc
  have e : (Str.ofString ":").length = 1 := by decide
  show (Builtin.Str.glued (Str.ofString ":") [fig a 2, fig b 2, fig c 2]).length ≤ 40
  rw [StrLaws.glued_eq_join]
  show (fig a 2 ++ Str.ofString ":" ++ (fig b 2 ++ Str.ofString ":" ++ fig c 2)).length ≤ 40
  simp only [Str.length_append, e]
  omega
theorem leap_a {y : Int} (h1 : y.fmod 4 = 0) (h2 : y.fmod 100 ≠ 0) : Value.bool (y.fmod 100 != 0) = Value.bool (leapB y) := by
  rw [Int.fmod_eq_emod_of_nonneg y (by decide)] at h1 h2
  rw [Int.fmod_eq_emod_of_nonneg y (by decide)]
  simp [leapB, h1, h2]
theorem leap_b {y : Int} (h1 : y.fmod 4 = 0) (h2 : y.fmod 100 = 0) : Value.bool (y.fmod 400 == 0) = Value.bool (leapB y) := by
  rw [Int.fmod_eq_emod_of_nonneg y (by decide)] at h1 h2
  rw [Int.fmod_eq_emod_of_nonneg y (by decide)]
  simp [leapB, h1, h2]
theorem leap_c {y : Int} (h1 : y.fmod 4 ≠ 0) : Value.bool (y.fmod 4 == 0) = Value.bool (leapB y) := by
  rw [Int.fmod_eq_emod_of_nonneg y (by decide)] at h1
  rw [Int.fmod_eq_emod_of_nonneg y (by decide)]
  simp [leapB, h1]
/-- the zone as the law writes it -/
noncomputable def zoneT (east n0 n1 n2 n3 n4 : Int) : Str :=
  (if east < 0 then Str.ofString "-" else Str.ofString "+") ++ fig ((if east < 0 then -east else east).fdiv 60) 2 ++ fig ((if east < 0 then -east else east).fmod 60) 2 ++ Str.ofString " (" ++ Txt.join (Str.ofString "") [mark n0, mark n1, mark n2, mark n3, mark n4] ++ Str.ofString ")"
/-- the date as the law writes it -/
noncomputable def textT (ahead mo d y sec : Int) (zone : Str) : Str :=
  Txt.slice (Str.ofString "MonTueWedThuFriSatSun") (some (3 * ahead.fmod 7)) (some (3 * ahead.fmod 7 + 3)) ++ Str.ofString ", " ++ fig d 2 ++ Str.ofString " " ++ Txt.slice (Str.ofString "JanFebMarAprMayJunJulAugSepOctNovDec") (some (3 * mo - 3)) (some (3 * mo)) ++ Str.ofString " " ++ fig y 4 ++ Str.ofString " " ++
    Txt.join (Str.ofString ":") [fig (sec.fdiv 3600) 2, fig ((sec.fdiv 60).fmod 60) 2, fig (sec.fmod 60) 2] ++ Str.ofString " " ++ zone
theorem drawn_c (w : World) (mean : ExcName → Option Value) (mg mb : Str → Option Value) (D : Addr) (n0 n1 n2 n3 n4 : Int) (u0 u1 u2 u3 u4 : Tok) (y mo d sec east ahead Ln : Int)
    (hy : 1 + n0.fmod (10 ^ 20) = y) (hmo : 1 + n1.fmod 12 = mo) (hL : (lens y).getD (mo - 1).toNat 0 = Ln) (hd : 1 + n2.fmod Ln = d) (hsec : n3.fmod 86400 = sec) (heast : n4.fmod 2879 - 1439 = east)
    (hy0 : 1 ≤ y) (hy1 : y ≤ 10 ^ 20) (hm0 : 1 ≤ mo) (hm1 : mo ≤ 12) (hL0 : 28 ≤ Ln) (hL1 : Ln ≤ 31) (hd0 : 1 ≤ d) (hd1 : d ≤ 31) (hs0 : 0 ≤ sec) (hs1 : sec < 86400) (he0 : -1439 ≤ east) (he1 : east ≤ 1439) (ha0 : 0 ≤ ahead) (ha1 : ahead < 10 ^ 24)
    (ha : 365 * (y - 1) + (y - 1).fdiv 4 - (y - 1).fdiv 100 + (y - 1).fdiv 400 + (List.take (mo - 1).toNat [31, if leapB y = true then 29 else 28, 31, 30, 31, 30, 31, 31, 30, 31, 30, 31]).sum + d - 1 = ahead) :
    CallW w mean mg mb 2 126 [(D, listO [.int n0 u0, .int n1 u1, .int n2 u2, .int n3 u3, .int n4 u4])] [.ref D]
      (fun v ex => ∃ D' t1 t2 t3, v = .ref D' ∧ ex = [(D', tupO [.int ((ahead + 306) * 86400 + sec - 60 * east) t1, .str (zoneT east n0 n1 n2 n3 n4) t2, .str (textT ahead mo d y sec (zoneT east n0 n1 n2 n3 n4)) t3])]) := by
  unfold CallW
  k_fill
  w_top off
  k_with_none
  k_with "kt_len" => ((with_reducible refine f_len ?_); walk_at "b100")
  k_with "kt_len" => ((with_reducible refine y_len ?_ ?_) <;> assumption)
  k_with "kt_len" => (with_reducible refine sgn_le ?_ ?_) <;> decide
  k_with "kt_len" => (with_reducible exact Txt.slice_le _ _ _)
  k_with "kt_len" => (with_reducible exact marks_len _ _ _ _ _)
  k_with "kt_len" => (with_reducible refine clock_len ?_ ?_ ?_) <;> walk_at "b100"
  k_with "wEnter" => (refine' enterW (args := ⟨_, []⟩) ?mw0k1 ?mw0k2 ?mw0k3 ?mw0k4 ?mw0k5 ?mw0kA ?mw0kF ?mw0kK ?mw0kS ?mw0k6 ?mw0k7 ?mw0k8 ?mw0k9 ?mw0kB ?_ ?mw0kQ ?mw0c2 ?mw0c3 ?mw0c4 ?mw0c5; (case mw0kA => exact rfl); (case mw0kF => exact rfl); (case mw0kK => assumption); (case mw0k1 => k_asm); (case mw0k2 => k_asm); (case mw0k3 => k_asm); (case mw0k4 => k_asm); (case mw0k5 => k_asm); (case mw0kS => k_asm); (case mw0k6 => k_is); (case mw0k7 => k_is); (case mw0k8 => ktr_room); (case mw0k9 => exact BindsTo.of_eq rfl); (case mw0c5 => decide); (case mw0kB => exact locs rfl); (case mw0c2 => exact rfl); (case mw0c3 => exact rfl); (case mw0c4 => exact rfl); (case mw0kQ => k_asm); k_whole; intro g' L' h' F' N' B' X' T'; (try dsimp only); (try k_lift B'); (try k_fold))
  k_with "wEnd" => (refine EndW.intro [] (by k_asm) (by k_asm) (SubL.mem (by (simp only [List.nil_append]); k_subL)) ⟨rfl, _, rfl⟩)
  k_with "call ref" => (k_here; k_dflt (refine' callW_use ?mw2k1 ?mw2k2 ?mw2k3 ?mw2k4 ?mw2k5 ?mw2kK ?mw2kC ?mw2kl ?mw2kd ?mw2ku ?_; (case mw2k1 => k_asm); (case mw2k2 => k_asm); (case mw2k3 => k_asm); (case mw2k4 => k_asm); (case mw2k5 => k_asm); (case mw2kK => first | exact rfl | assumption); (case mw2kC => k_extra "contract"); (case mw2kl => k_subL); (case mw2kd => ktr_room); (case mw2ku => ktr_units); k_whole); (refine fun v9 ex9 h9 tk9 F9 N9 o9 => ?_); (obtain ⟨e9, t9, e8⟩ := o9; subst e9; subst e8; (try simp only [List.nil_append] at N9)); (try k_sweep); (try dsimp only); (try k_fold))
  k_with "subscriptTail Name Constant ref int" => (k_here; (with_reducible show wpAny _ _ (subscriptTail _ _ (Value.ref _) (Value.int _ _)) _ _ _); k_dflt (refine' item_madeD ?iN ?im ?ic ?id (by decide) (by decide) ?ix ?_; (case iN => k_asm); (case im => k_mem); (case ic => exact rfl); (case id => exact rfl); (case ix => exact rfl); k_whole))
  k_with "b100" => (first | (with_reducible exact b_mod _) | ((with_reducible refine b_div ?_ ?_) <;> assumption) | ((with_reducible refine b_hour ?_ ?_) <;> assumption) | ((with_reducible refine b_day ?_ ?_) <;> assumption))
  k_with "call builtin:str.join" => (k_here; k_dflt (refine' join_at ?jN ?jm ?jc ?jB ?jl ?jx ?_; (case jN => k_asm); (case jm => k_mem); (case jc => repeat' constructor); (case jB => repeat' (first | exact trivial | (refine And.intro ?_ ?_) | exact mark_le8 _ | exact fig_le8 _ (by walk_at "b100"))); (case jl => exact Nat.le_of_ble_eq_true rfl); (case jx => exact Nat.le_of_ble_eq_true rfl)); intro _ _)
  k_with "binaryOp Add str str" => (k_here; (with_reducible show wpAny _ _ (binaryOp Operator.Add (Value.str _ _) (Value.str _ _)) _ _ _); k_dflt (refine' KXadd.add ?kxaa ?kxab ?kxac ?_; (case kxaa => kt_len); (case kxab => kt_len); (case kxac => exact Nat.le_of_ble_eq_true rfl)); intro _ _ kxh; clear kxh)
  k_with "eval BoolOp" => k_dflt (refine joinV (.bool (leapB y)) ?jh ?_; (case jh => (refine BoolOp_and ?_; (repeat' (first | walk1 | (dsimp only; walk1))); all_goals (refine JoinP.intro ?_; first | exact leap_a (by assumption) (by assumption) | exact leap_b (by assumption) (by assumption) | exact leap_c (by assumption)))); intro tk7; (try dsimp only))
  k_with "eval IfExp Name" => k_dflt (refine joinI (if leapB y then 29 else 28) ?jh ?_; (case jh => (refine IfExp_ ?_; (repeat' (first | walk1 | (dsimp only; walk1))); all_goals (refine JoinI.intro ?_; rename_i hc; rw [hc]; rfl))); intro t7 tk7; (try dsimp only))
  k_with "eval BinOp Constant Add BinOp" => k_dflt (first
    | (refine joinI y ?jh ?_; (case jh => (refine wpAny_BinOp ?_; (repeat' (first | walk1 | (dsimp only; walk1))); all_goals (refine JoinI.intro ?_; exact hyH.out))); intro t7 tk7; (try dsimp only))
    | (refine joinI mo ?jh ?_; (case jh => (refine wpAny_BinOp ?_; (repeat' (first | walk1 | (dsimp only; walk1))); all_goals (refine JoinI.intro ?_; exact hmoH.out))); intro t7 tk7; (try dsimp only))
    | (refine joinI d ?jh ?_; (case jh => (refine wpAny_BinOp ?_; (repeat' (first | walk1 | (dsimp only; walk1))); all_goals (refine JoinI.intro ?_; exact hdH.out))); intro t7 tk7; (try dsimp only)))
  k_with "eval Subscript Name BinOp" => k_dflt (refine joinI Ln ?jh ?_; (case jh => (refine Subscript_ ?_; (repeat' (first | walk1 | (dsimp only; walk1))); all_goals (refine JoinI.intro ?_; exact hLH.out))); intro t7 tk7; (try dsimp only))
  k_with "eval BinOp Subscript Mod Constant" => k_dflt (refine joinI sec ?jh ?_; (case jh => (refine wpAny_BinOp ?_; (repeat' (first | walk1 | (dsimp only; walk1))); all_goals (refine JoinI.intro ?_; exact hsecH.out))); intro t7 tk7; (try dsimp only))
  k_with "eval BinOp BinOp Sub Constant" => k_dflt (refine joinI east ?jh ?_; (case jh => (refine wpAny_BinOp ?_; (repeat' (first | walk1 | (dsimp only; walk1))); all_goals (refine JoinI.intro ?_; exact heastH.out))); intro t7 tk7; (try dsimp only))
  k_with "binaryOp Sub int int" => (refine sub_at haH.out ?_)
  k_with "eval IfExp Compare Constant Constant" => k_dflt (first
    | (refine joinS (if east < 0 then Str.ofString "-" else Str.ofString "+") ?jh ?_; (case jh => (refine IfExp_ ?_; (repeat' (first | walk1 | (dsimp only; walk1))); all_goals (refine JoinS.intro ?_; rename_i hc; first | exact (if_pos hc).symm | exact (if_neg hc).symm))); intro t7 tk7; (try dsimp only))
    | (refine joinS (mark n0) ?jh ?_; (case jh => (refine IfExp_ ?_; (repeat' (first | walk1 | (dsimp only; walk1))); all_goals (refine JoinS.intro ?_; rename_i hc; first | exact (if_pos hc).symm | exact (if_neg hc).symm))); intro t7 tk7; (try dsimp only))
    | (refine joinS (mark n1) ?jh ?_; (case jh => (refine IfExp_ ?_; (repeat' (first | walk1 | (dsimp only; walk1))); all_goals (refine JoinS.intro ?_; rename_i hc; first | exact (if_pos hc).symm | exact (if_neg hc).symm))); intro t7 tk7; (try dsimp only))
    | (refine joinS (mark n2) ?jh ?_; (case jh => (refine IfExp_ ?_; (repeat' (first | walk1 | (dsimp only; walk1))); all_goals (refine JoinS.intro ?_; rename_i hc; first | exact (if_pos hc).symm | exact (if_neg hc).symm))); intro t7 tk7; (try dsimp only))
    | (refine joinS (mark n3) ?jh ?_; (case jh => (refine IfExp_ ?_; (repeat' (first | walk1 | (dsimp only; walk1))); all_goals (refine JoinS.intro ?_; rename_i hc; first | exact (if_pos hc).symm | exact (if_neg hc).symm))); intro t7 tk7; (try dsimp only))
    | (refine joinS (mark n4) ?jh ?_; (case jh => (refine IfExp_ ?_; (repeat' (first | walk1 | (dsimp only; walk1))); all_goals (refine JoinS.intro ?_; rename_i hc; first | exact (if_pos hc).symm | exact (if_neg hc).symm))); intro t7 tk7; (try dsimp only)))
  k_with "contract" => (refine fig_g _ _ _ _ _ _ _ _ ?_; first | exact .inl ⟨rfl, by walk_at "b100"⟩ | exact .inr ⟨rfl, by assumption, by assumption⟩)
  have haH := PySem.Flt.Hid.mk ha
  have hyH := PySem.Flt.Hid.mk hy
  have hmoH := PySem.Flt.Hid.mk hmo
  have hLH := PySem.Flt.Hid.mk hL
  have hdH := PySem.Flt.Hid.mk hd
  have hsecH := PySem.Flt.Hid.mk hsec
  have heastH := PySem.Flt.Hid.mk heast
  clear ha hy hmo hL hd hsec heast
  intro dp un gd cn cs a ccd cl outer A₀ base h₀ L m news s Q E hsub B F X N' T hk hd hu hret
  k_dflt (walk_at "wEnter")
  k_steps
  all_goals (refine' EndW.intro [_] ?F ?N ?S ⟨_, _, _, _, rfl, rfl⟩; (case F => k_asm); (case N => k_asm); (case S => exact SubL.mem (by (simp only [List.cons_append, List.nil_append]); k_subL)))
end
-- part Pct
open Builtin Builtin.Str in
theorem pad_field {c : Percent} {n : Int} {x : List Nat} {k : Nat} (h1 : c.alt = false) (h2 : c.type = 100) (h3 : c.prec = none) (h4 : c.zero = true) (h5 : c.width = some k) (h6 : c.ljust = false) (h7 : c.sign = false) (h8 : c.blank = false) (hn : 0 ≤ n)
    (hx : x = percentInt c (decide (n < 0)) (Str.ofString (toString ((n.natAbs : Nat) : Int))).cps.toList) :
    (percentField c true x = none ∧ (⟨x.toArray⟩ : Str) = fig n k) ∨ ∃ l, percentField c true x = some l ∧ (⟨l.toArray⟩ : Str) = fig n k := by
  have en : ((n.natAbs : Nat) : Int) = n := Int.natAbs_of_nonneg hn
  rw [KPc.int_text c h1 (.inl h2) h3 hn, en] at hx
  have hl : x.length = (Str.ofString (toString n)).length := by rw [hx, Array.length_toList]; rfl
  have hd : ∀ a r, x = a :: r → a ≠ 45 ∧ a ≠ 43 := by
    intro a r e
    obtain ⟨m, rfl⟩ := Int.eq_ofNat_of_zero_le hn
    have hm : a ∈ (Str.ofString (toString ((m : Nat) : Int))).cps.toList := by rw [← hx, e]; exact .head _
    rw [KIN.signs_num] at hm
    obtain ⟨ch, hch, e'⟩ := List.mem_map.mp hm
    have r := digit_range (Nat.isDigit_of_mem_toDigits (by decide) (by decide) hch)
    omega
  unfold percentField
  simp only [h3, h5, h7, h8, Option.all_some, Option.all_none, Bool.and_true, Bool.not_false, Bool.true_and]
  by_cases hk : k ≤ x.length
  · left
    rw [if_pos (by simpa using hk)]
    refine ⟨rfl, Str.ext' (Array.toList_inj.mp ?_)⟩
    rw [fig_list, ← hx]
    have : (k : Int).toNat - (Str.ofString (toString n)).length = 0 := by omega
    rw [this]
    simp
  · right
    rw [if_neg (by simpa using hk)]
    have ht : (c.type == 115 || c.type == 114 || c.type == 97) = false := by rw [h2]; rfl
    simp only [ht, Bool.false_eq_true, if_false, Bool.not_true, h1, Bool.false_and, h6, h4, if_true, List.length_nil, Nat.add_zero, Option.getD_some]
    split
    · rename_i e; exact absurd rfl (hd _ _ rfl).1
    · rename_i e; exact absurd rfl (hd _ _ rfl).2
    · refine ⟨_, rfl, Str.ext' (Array.toList_inj.mp ?_)⟩
      rw [fig_list, ← hx, ← hl]
      simp
open Builtin Builtin.Str in
theorem pad_gen {c : Percent} {x : List Nat} {pf : Option (List Nat)} (hpf : percentField c true x = pf) (n : Int) (k : Nat) (hn : 0 ≤ n) (hx : x = percentInt c (decide (n < 0)) (Str.ofString (toString ((n.natAbs : Nat) : Int))).cps.toList)
    (h1 : c.alt = false) (h2 : c.type = 100) (h3 : c.prec = none) (h4 : c.zero = true) (h5 : c.width = some k) (h6 : c.ljust = false) (h7 : c.sign = false) (h8 : c.blank = false) :
    (pf = none ∧ (⟨x.toArray⟩ : Str) = fig n k) ∨ ∃ l, pf = some l ∧ (⟨l.toArray⟩ : Str) = fig n k := hpf ▸ pad_field h1 h2 h3 h4 h5 h6 h7 h8 hn hx
open Builtin Builtin.Str in
theorem good_fig {w : Writer} {T : Str} {N K : Nat} {x : List Nat} {o : Option Value} {n : Int} {k : Nat} (g : KPc.Good w T N) (ho : o = none) (e : (⟨x.toArray⟩ : Str) = fig n k) (hK : (fig n k).length ≤ K) : KPc.Good (w.add ⟨x.toArray⟩ o) (T ++ fig n k) (N + K) := by
  rw [e]
  exact KPc.good_mono (KPc.good_add g (KPc.obj_none ho)) (Nat.add_le_add_left hK _)
/-- what a turn of the format leaves: the state, what is pending, a writer that bears the text so far -/
noncomputable def PctP {R : Type} (s : Shared) (p : List Value) (r : R) (T : Str) (N : Nat) (y : ForInStep (List Value × Builtin.Str.Writer × R)) (s' : Shared) : Prop := s' = s ∧ ∃ w', y = .yield (p, w', r) ∧ KPc.Good w' T N
theorem pct_turn {M : Model} {A : Around} {E : Value → Shared → Prop} {s st : Shared} {l : List Nat} {x : Nat} {b : List Value × Builtin.Str.Writer × List Nat} {p : List Value} {r : List Nat} {f : Nat → List Value × Builtin.Str.Writer × List Nat → Sem (ForInStep (List Value × Builtin.Str.Writer × List Nat))} {Q : List Value × Builtin.Str.Writer × List Nat → Shared → Prop}
    (T : Str) (N : Nat) (h : wpAny M A (f x b) (PctP st p r T N) E s) (k : ∀ w', KPc.Good w' T N → wpAny M A (forIn l (p, w', r) f) Q E st) :
    wpAny M A (forIn (x :: l) b f) Q E s :=
  KPc.turn (wpAny_mono h (fun y s' ⟨e1, w', e2, g⟩ => by subst e1; subst e2; exact k w' g) fun _ _ z => z)
/-- what the format makes of the eight values -/
noncomputable def pctText (wd mo zone : Str) (d y h mi sc : Int) : Str :=
  wd ++ Str.ofString ", " ++ fig d 2 ++ Str.ofString " " ++ mo ++ Str.ofString " " ++ fig y 4 ++ Str.ofString " " ++ fig h 2 ++ Str.ofString ":" ++ fig mi 2 ++ Str.ofString ":" ++ fig sc 2 ++ Str.ofString " " ++ zone
open Builtin Builtin.Str in
theorem pct8 (t : Tok) (b : Addr) (wd mo zone : Str) (d y h mi sc : Int) (t1 t2 t3 t4 t5 t6 t7 t8 : Tok) (hwd : wd.length ≤ 1000000) (hmo : mo.length ≤ 1000000) (hzo : zone.length ≤ 1000000)
    (hd0 : 0 ≤ d) (hd1 : d < 100) (hy0 : 0 ≤ y) (hy1 : y < 10 ^ 21) (hh0 : 0 ≤ h) (hh1 : h < 100) (hi0 : 0 ≤ mi) (hi1 : mi < 100) (hs0 : 0 ≤ sc) (hs1 : sc < 100) :
    Meets («str.__mod__» ⟨[.str (Str.mk #[37, 115, 44, 32, 37, 48, 50, 100, 32, 37, 115, 32, 37, 48, 52, 100, 32, 37, 48, 50, 100, 58, 37, 48, 50, 100, 58, 37, 48, 50, 100, 32, 37, 115]) t, .ref b], []⟩)
      (fun _ R s => IsTup s.heap b #[.str wd t1, .int d t2, .str mo t3, .int y t4, .int h t5, .int mi t6, .int sc t7, .str zone t8] ∧ ∀ t' k, R (.ok (.ret (.str (pctText wd mo zone d y h mi sc) t'))) { s with toks := k }) := by
  have ld : (fig d 2).length ≤ 30 := by
    rw [fig_len]; have := toString_length_le hd0 (k := 2) (by decide) hd1; omega
  have ly : (fig y 4).length ≤ 30 := by
    rw [fig_len]; have := toString_length_le hy0 (k := 21) (by decide) hy1; omega
  have lh : (fig h 2).length ≤ 30 := by
    rw [fig_len]; have := toString_length_le hh0 (k := 2) (by decide) hh1; omega
  have lmi : (fig mi 2).length ≤ 30 := by
    rw [fig_len]; have := toString_length_le hi0 (k := 2) (by decide) hi1; omega
  have lsc : (fig sc 2).length ≤ 30 := by
    rw [fig_len]; have := toString_length_le hs0 (k := 2) (by decide) hs1; omega
  apply KPt.meets_tup
  intro _ _ _ _ _ _ kptH _
  obtain ⟨kptO, kptG, kptC, kptN, kptD⟩ := kptH
  rw [KPt.entry_is_r]
  unfold Builtin.Str.percentFormat
  refine wpAny_bind (wpAny_isInstance (T := "tuple") ⟨kptO, kptG, kptC⟩ KPt.sub_tt ?_)
  refine wpAny_bind (KPt.asStr_ref kptG kptD ?_)
  refine wpAny_bind (KPt.fills_ref ⟨kptO, kptG, kptC⟩ ?_)
  intro _
  kpc_if
  refine wpAny_bind (wpAny_seqItems kptG kptD ?_)
  refine wpAny_bind (wpAny_pure ?_)
  refine wpAny_bind ?_
  rw [KPc.range_list]
  refine KPc.start ?_
  intro _ _
  refine KPc.turn ?_; kpc_check; (repeat kpc_if)
  refine wpAny_bind ?_; refine wpAny_holding ?_; (repeat kpc_if); kpt_conv; refine wpAny_pure ?_; refine wpAny_pure ?_; kpt_piece
  refine KPc.turn ?_; kpc_check; (repeat kpc_if)
  refine wpAny_pure ?_; kpt_piece
  refine' pct_turn (_ ++ fig d 2) (_ + 30) ?hd ?kd
  case hd =>
    kpc_check; (repeat kpc_if)
    refine wpAny_bind ?_; refine wpAny_holding ?_; (repeat kpc_if); kpt_conv; refine wpAny_pure ?_
    dsimp only
    generalize hpf : percentField _ _ _ = pf
    rcases pad_gen hpf d 2 hd0 rfl rfl rfl rfl rfl rfl rfl rfl rfl with ⟨rfl, e2⟩ | ⟨l', rfl, e2⟩
    · exact wpAny_pure ⟨rfl, _, rfl, good_fig (by assumption) rfl e2 ld⟩
    · exact wpAny_pure ⟨rfl, _, rfl, good_fig (by assumption) rfl e2 ld⟩
  intro _ _
  refine KPc.turn ?_; kpc_check; (repeat kpc_if)
  refine wpAny_pure ?_; kpt_piece
  refine KPc.turn ?_; kpc_check; (repeat kpc_if)
  refine wpAny_bind ?_; refine wpAny_holding ?_; (repeat kpc_if); kpt_conv; refine wpAny_pure ?_; refine wpAny_pure ?_; kpt_piece
  refine KPc.turn ?_; kpc_check; (repeat kpc_if)
  refine wpAny_pure ?_; kpt_piece
  refine' pct_turn (_ ++ fig y 4) (_ + 30) ?hy ?ky
  case hy =>
    kpc_check; (repeat kpc_if)
    refine wpAny_bind ?_; refine wpAny_holding ?_; (repeat kpc_if); kpt_conv; refine wpAny_pure ?_
    dsimp only
    generalize hpf : percentField _ _ _ = pf
    rcases pad_gen hpf y 4 hy0 rfl rfl rfl rfl rfl rfl rfl rfl rfl with ⟨rfl, e2⟩ | ⟨l', rfl, e2⟩
    · exact wpAny_pure ⟨rfl, _, rfl, good_fig (by assumption) rfl e2 ly⟩
    · exact wpAny_pure ⟨rfl, _, rfl, good_fig (by assumption) rfl e2 ly⟩
  intro _ _
  refine KPc.turn ?_; kpc_check; (repeat kpc_if)
  refine wpAny_pure ?_; kpt_piece
  refine' pct_turn (_ ++ fig h 2) (_ + 30) ?hh ?kh
  case hh =>
    kpc_check; (repeat kpc_if)
    refine wpAny_bind ?_; refine wpAny_holding ?_; (repeat kpc_if); kpt_conv; refine wpAny_pure ?_
    dsimp only
    generalize hpf : percentField _ _ _ = pf
    rcases pad_gen hpf h 2 hh0 rfl rfl rfl rfl rfl rfl rfl rfl rfl with ⟨rfl, e2⟩ | ⟨l', rfl, e2⟩
    · exact wpAny_pure ⟨rfl, _, rfl, good_fig (by assumption) rfl e2 lh⟩
    · exact wpAny_pure ⟨rfl, _, rfl, good_fig (by assumption) rfl e2 lh⟩
  intro _ _
  refine KPc.turn ?_; kpc_check; (repeat kpc_if)
  refine wpAny_pure ?_; kpt_piece
  refine' pct_turn (_ ++ fig mi 2) (_ + 30) ?hmi ?kmi
  case hmi =>
    kpc_check; (repeat kpc_if)
    refine wpAny_bind ?_; refine wpAny_holding ?_; (repeat kpc_if); kpt_conv; refine wpAny_pure ?_
    dsimp only
    generalize hpf : percentField _ _ _ = pf
    rcases pad_gen hpf mi 2 hi0 rfl rfl rfl rfl rfl rfl rfl rfl rfl with ⟨rfl, e2⟩ | ⟨l', rfl, e2⟩
    · exact wpAny_pure ⟨rfl, _, rfl, good_fig (by assumption) rfl e2 lmi⟩
    · exact wpAny_pure ⟨rfl, _, rfl, good_fig (by assumption) rfl e2 lmi⟩
  intro _ _
  refine KPc.turn ?_; kpc_check; (repeat kpc_if)
  refine wpAny_pure ?_; kpt_piece
  refine' pct_turn (_ ++ fig sc 2) (_ + 30) ?hsc ?ksc
  case hsc =>
    kpc_check; (repeat kpc_if)
    refine wpAny_bind ?_; refine wpAny_holding ?_; (repeat kpc_if); kpt_conv; refine wpAny_pure ?_
    dsimp only
    generalize hpf : percentField _ _ _ = pf
    rcases pad_gen hpf sc 2 hs0 rfl rfl rfl rfl rfl rfl rfl rfl rfl with ⟨rfl, e2⟩ | ⟨l', rfl, e2⟩
    · exact wpAny_pure ⟨rfl, _, rfl, good_fig (by assumption) rfl e2 lsc⟩
    · exact wpAny_pure ⟨rfl, _, rfl, good_fig (by assumption) rfl e2 lsc⟩
  intro _ _
  refine KPc.turn ?_; kpc_check; (repeat kpc_if)
  refine wpAny_pure ?_; kpt_piece
  refine KPc.turn ?_; kpc_check; (repeat kpc_if)
  refine wpAny_bind ?_; refine wpAny_holding ?_; (repeat kpc_if); kpt_conv; refine wpAny_pure ?_; refine wpAny_pure ?_; kpt_piece
  kpt_turns
-- part C5
noncomputable abbrev dayNames : List Str := [Str.ofString "Mon", Str.ofString "Tue", Str.ofString "Wed", Str.ofString "Thu", Str.ofString "Fri", Str.ofString "Sat", Str.ofString "Sun"]
noncomputable abbrev monNames : List Str := [Str.ofString "Jan", Str.ofString "Feb", Str.ofString "Mar", Str.ofString "Apr", Str.ofString "May", Str.ofString "Jun", Str.ofString "Jul", Str.ofString "Aug", Str.ofString "Sep", Str.ofString "Oct", Str.ofString "Nov", Str.ofString "Dec"]
theorem names_len {l : List Str} (n : Nat) (h : l.all (fun x => decide (x.length ≤ 1000000)) = true) : (l.getD n Str.empty).length ≤ 1000000 := by
  by_cases hn : n < l.length
  · rw [List.getD_eq_getElem?_getD, List.getElem?_eq_getElem hn]
    exact of_decide_eq_true (List.all_eq_true.mp h _ (List.getElem_mem hn))
  · rw [List.getD_eq_getElem?_getD, List.getElem?_eq_none (Nat.le_of_not_lt hn)]
    exact Nat.zero_le _
theorem fmt_c (w : World) (mean : ExcName → Option Value) (mg mb : Str → Option Value) (D : Addr) (y m' d h mi sc wd : Int) (t1 t2 t3 t4 t5 t6 t7 t8 t9 : Tok) (zone : Str) (tz : Tok)
    (hy0 : 0 ≤ y) (hy1 : y < 10 ^ 21) (hm0 : 1 ≤ m') (hm1 : m' ≤ 12) (hd0 : 0 ≤ d) (hd1 : d < 100) (hh0 : 0 ≤ h) (hh1 : h < 100) (hi0 : 0 ≤ mi) (hi1 : mi < 100) (hs0 : 0 ≤ sc) (hs1 : sc < 100) (hw0 : 0 ≤ wd) (hw1 : wd < 7) (hz : zone.length ≤ 100) :
    CallW w mean mg mb 1 21 [(D, tupO [.int y t1, .int m' t2, .int d t3, .int h t4, .int mi t5, .int sc t6, .int wd t7, .int 0 t8, .int (-1) t9])] [.ref D, .str zone tz] (RetS (pctText (dayNames.getD wd.toNat Str.empty) (monNames.getD (m' - 1).toNat Str.empty) zone d y h mi sc)) := by
  unfold CallW
  k_fill
  w_top off
  k_with_none
  k_with "wEnter" => (refine' enterW (args := ⟨_, []⟩) ?mw0k1 ?mw0k2 ?mw0k3 ?mw0k4 ?mw0k5 ?mw0kA ?mw0kF ?mw0kK ?mw0kS ?mw0k6 ?mw0k7 ?mw0k8 ?mw0k9 ?mw0kB ?_ ?mw0kQ ?mw0c2 ?mw0c3 ?mw0c4 ?mw0c5; (case mw0kA => exact rfl); (case mw0kF => exact rfl); (case mw0kK => assumption); (case mw0k1 => k_asm); (case mw0k2 => k_asm); (case mw0k3 => k_asm); (case mw0k4 => k_asm); (case mw0k5 => k_asm); (case mw0kS => k_asm); (case mw0k6 => k_is); (case mw0k7 => k_is); (case mw0k8 => ktr_room); (case mw0k9 => exact BindsTo.of_eq rfl); (case mw0c5 => decide); (case mw0kB => exact locs rfl); (case mw0c2 => exact rfl); (case mw0c3 => exact rfl); (case mw0c4 => exact rfl); (case mw0kQ => k_asm); k_whole; intro g' L' h' F' N' B' X' T'; (try dsimp only); (try k_lift B'); (try k_fold))
  k_with "wEnd" => (refine EndW.intro [] (by k_asm) (by k_asm) (SubL.mem (by (simp only [List.nil_append]); k_subL)) ⟨rfl, _, rfl⟩)
  k_with "call ref" => (k_here; k_dflt (refine' callW_use ?mw2k1 ?mw2k2 ?mw2k3 ?mw2k4 ?mw2k5 ?mw2kK ?mw2kC ?mw2kl ?mw2kd ?mw2ku ?_; (case mw2k1 => k_asm); (case mw2k2 => k_asm); (case mw2k3 => k_asm); (case mw2k4 => k_asm); (case mw2k5 => k_asm); (case mw2kK => first | exact rfl | assumption); (case mw2kC => k_extra "contract"); (case mw2kl => k_subL); (case mw2kd => ktr_room); (case mw2ku => ktr_units); k_whole); (refine fun v9 ex9 h9 tk9 F9 N9 o9 => ?_); (obtain ⟨e9, t9, e8⟩ := o9; subst e9; subst e8; (try simp only [List.nil_append] at N9)); (try k_sweep); (try dsimp only); (try k_fold))
  k_with "table" => skip
  k_with "binaryOp Mod str ref" => k_dflt (refine' KPt.mod_tuple ?kptN ?kptb ?kptF (pct8 _ _ (dayNames.getD wd.toNat Str.empty) (monNames.getD (m' - 1).toNat Str.empty) zone d y h mi sc _ _ _ _ _ _ _ _ (names_len _ (by decide)) (names_len _ (by decide)) (Nat.le_trans hz (by decide)) hd0 hd1 hy0 hy1 hh0 hh1 hi0 hi1 hs0 hs1) ?_; (case kptN => k_asm); (case kptb => k_mem); (case kptF => decide +kernel); intro _ _)
  intro dp un gd cn cs a ccd cl outer A₀ base h₀ L m news s Q E hsub B F X N T hk hd hu hret
  k_dflt (walk_at "wEnter")
  k_steps
  all_goals (walk_at "wEnd")
-- part C6
section
section
variable {prog : Program} {w : World} {A : Around} {E : Value → Shared → Prop} {s : Shared} {x y : Str} {t u v : Tok} {Q : Value → Shared → Prop} {i j : Int}
theorem find_at (e : Txt.find x y = i) (h : Q (.int i s.toks) { s with toks := s.toks + 1 }) : wpAny (model prog w) A (call (.builtin "str.find") [.str x t, .str y u]) Q E s := SC.find (by rw [e]; exact h)
theorem find3_at (e : Txt.find3 x y j = i) (h : Q (.int i s.toks) { s with toks := s.toks + 1 }) : wpAny (model prog w) A (call (.builtin "str.find") [.str x t, .str y u, .int j v]) Q E s := SC.find3 (by rw [e]; exact h)
theorem split5_at {h₀ : Heap} {L : Addr} {m : Str → Option Value} {news : List (Addr × Obj)} {a b c d f : Str} (hF : Fr h₀ L s.heap m) (hN : News h₀ L s.heap news) (hy : (y.length == 0) = false) (hsz : x.length + 2 ≤ sizeLine) (e : Txt.split x y = [a, b, c, d, f])
    (h : ∀ D t1 t2 t3 t4 t5 h' k, Fr h₀ L h' m → News h₀ L h' ((D, PySem.W.listOf #[.str a t1, .str b t2, .str c t3, .str d t4, .str f t5] 0) :: news) → (∀ p ∈ news, p.1 < D) → Q (.ref D) { s with heap := h', toks := k }) :
    wpAny (model prog w) A (call (.builtin "str.split") [.str x t, .str y u]) Q E s := by
  refine KSpl.split1 hF hN hy (fun D l h' k el _ F' N' lt => ?_) hsz
  rw [e] at el
  obtain ⟨t1, l1, rfl, e1⟩ := KSpl.cons_of el
  obtain ⟨t2, l2, rfl, e2⟩ := KSpl.cons_of e1
  obtain ⟨t3, l3, rfl, e3⟩ := KSpl.cons_of e2
  obtain ⟨t4, l4, rfl, e4⟩ := KSpl.cons_of e3
  obtain ⟨t5, l5, rfl, e5⟩ := KSpl.cons_of e4
  have z := KSpl.nil_of e5
  subst z
  exact h D t1 t2 t3 t4 t5 h' k F' N' lt
end
theorem p229_c (w : World) (mean : ExcName → Option Value) (mg mb : Str → Option Value) (resp : Str) (tr : Tok) (D : Addr) (zone : Str) (tz t21 : Tok) (R N : Int) (P : Str)
    (hlen : resp.length ≤ 100) (h3 : (Txt.slice resp none (some 3) != Str.ofString "229") = false) (hl : Txt.find resp (Str.ofString "(") = 9) (hr : Txt.find3 resp (Str.ofString ")") (9 + 1) = R)
    (hR0 : 11 ≤ R) (hR1 : R < (resp.length : Int)) (hc : (Txt.item resp (9 + 1) != Txt.item resp (R - 1)) = false)
    (hp : Txt.split (Txt.slice resp (some (9 + 1)) (some R)) (Txt.item resp (9 + 1)) = [Str.empty, Str.empty, Str.empty, P, Str.empty]) (hi : PySem.intText? P = some N) (hP : P.length ≤ 100) :
    CallW w mean mg mb 1 65 [(D, tupO [.str zone tz, .int 21 t21])] [.str resp tr, .ref D] (fun v ex => ∃ D' t1 t2, v = .ref D' ∧ ex = [(D', tupO [.str zone t1, .int N t2])]) := by
  unfold CallW
  k_fill
  w_top off
  k_with_none
  k_with "wEnter" => (refine' enterW (args := ⟨_, []⟩) ?mw0k1 ?mw0k2 ?mw0k3 ?mw0k4 ?mw0k5 ?mw0kA ?mw0kF ?mw0kK ?mw0kS ?mw0k6 ?mw0k7 ?mw0k8 ?mw0k9 ?mw0kB ?_ ?mw0kQ ?mw0c2 ?mw0c3 ?mw0c4 ?mw0c5; (case mw0kA => exact rfl); (case mw0kF => exact rfl); (case mw0kK => assumption); (case mw0k1 => k_asm); (case mw0k2 => k_asm); (case mw0k3 => k_asm); (case mw0k4 => k_asm); (case mw0k5 => k_asm); (case mw0kS => k_asm); (case mw0k6 => k_is); (case mw0k7 => k_is); (case mw0k8 => ktr_room); (case mw0k9 => exact BindsTo.of_eq rfl); (case mw0c5 => decide); (case mw0kB => exact locs rfl); (case mw0c2 => exact rfl); (case mw0c3 => exact rfl); (case mw0c4 => exact rfl); (case mw0kQ => k_asm); k_whole; intro g' L' h' F' N' B' X' T'; (try dsimp only); (try k_lift B'); (try k_fold))
  k_with "wEnd" => (refine EndW.intro [] (by k_asm) (by k_asm) (SubL.mem (by (simp only [List.nil_append]); k_subL)) ⟨rfl, _, rfl⟩)
  k_with "call ref" => (k_here; k_dflt (refine' callW_use ?mw2k1 ?mw2k2 ?mw2k3 ?mw2k4 ?mw2k5 ?mw2kK ?mw2kC ?mw2kl ?mw2kd ?mw2ku ?_; (case mw2k1 => k_asm); (case mw2k2 => k_asm); (case mw2k3 => k_asm); (case mw2k4 => k_asm); (case mw2k5 => k_asm); (case mw2kK => first | exact rfl | assumption); (case mw2kC => k_extra "contract"); (case mw2kl => k_subL); (case mw2kd => ktr_room); (case mw2ku => ktr_units); k_whole); (refine fun v9 ex9 h9 tk9 F9 N9 o9 => ?_); (obtain ⟨e9, t9, e8⟩ := o9; subst e9; subst e8; (try simp only [List.nil_append] at N9)); (try k_sweep); (try dsimp only); (try k_fold))
  k_with "call builtin:str.split" => (k_here; k_dflt (refine' split5_at ?sF ?sN ?sy ?sz (by assumption) ?_; (case sF => k_asm); (case sN => k_asm); (case sy => (rw [beq_eq_false_iff_ne]; omega)); (case sz => (rw [sizeLine_eq]; omega))); intro D' _ _ _ _ _ h' k' F' N' l1; (try k_lt l1))
  k_with "call builtin:str.find" => (k_here; first | refine find_at (by with_reducible assumption) ?_ | refine find3_at (by with_reducible assumption) ?_)
  intro dp un gd cn cs a ccd cl outer A₀ base h₀ L m news s Q E hsub B F X N' T hk hd hu hret
  have hs3 : (Txt.slice resp none (some 3)).length ≤ 100 := Nat.le_trans (Txt.slice_le _ _ _) hlen
  have hs5 : (Txt.slice resp (some (9 + 1)) (some R)).length ≤ 100 := Nat.le_trans (Txt.slice_le _ _ _) hlen
  k_dflt (walk_at "wEnter")
  k_steps
  all_goals (refine' EndW.intro [_] ?F ?N ?S ⟨_, _, _, rfl, rfl⟩; (case F => k_asm); (case N => k_asm); (case S => exact SubL.mem (by (simp only [List.cons_append, List.nil_append]); k_subL)))
end
-- part Scan
theorem scan_ind {P : Shared → Prop} (Inv : Nat → Shared → Prop) (n : Nat) (step : ∀ k s, k < n → Inv k s → (∀ s', Inv (k + 1) s' → P s') → P s) (last : ∀ s, Inv n s → P s) (k : Nat) (s : Shared) (hk : k ≤ n) (h : Inv k s) : P s := by
  have key : ∀ r k s, k + r = n → Inv k s → P s := by
    intro r
    induction r with
    | zero => intro k s e h; exact last s (by rw [← e]; exact h)
    | succ r ih => intro k s e h; exact step k s (by omega) h fun s' h' => ih (k + 1) s' (by omega) h'
  exact key (n - k) k s (by omega) h
/-- how many signs the first k signs take when each quotation mark stands twice -/
noncomputable def dlen (x : Str) (k : Nat) : Nat := (StrLaws.dbl 34 (x.cps.toList.take k)).length
noncomputable def tkn (x : Str) (k : Nat) : Str := ⟨(x.cps.toList.take k).toArray⟩
structure Inv257 (g : Heap) (L : Addr) (resp x : Str) (s₀ : Shared) (k : Nat) (s : Shared) : Prop where
  has : ∃ h n m t1 t2 t3 t4, s = { s₀ with heap := h, toks := n } ∧ Fr g L h m ∧ News g L h [] ∧ m (Str.ofString "resp") = some (.str resp t1) ∧ m (Str.ofString "dirname") = some (.str (tkn x k) t2) ∧ m (Str.ofString "i") = some (.int (5 + (dlen x k : Nat)) t3) ∧ m (Str.ofString "n") = some (.int (resp.length : Nat) t4)
/-- a turn's ends -/
noncomputable def TurnP (C B : Shared → Prop) (f : Flow) (s : Shared) : Prop := match f with
  | .next => C s
  | .cont => C s
  | .brk => B s
  | .ret _ => False
theorem whl_body {prog : Program} {w : World} {A : Around} {E : Value → Shared → Prop} {env : Env} {test : PySem.Expr} {body orelse : List Stmt} {Q : Flow → Shared → Prop} {k j : Nat} {s : Shared} {C : Shared → Prop} (ih : ∀ s', C s' → WhlRest prog w A E env test body orelse Q j s')
    (h : wpAny (model prog w) A (execs body env) (TurnP C (fun s' => Q .next s')) E s) : wpAny (model prog w) A (execs body env) (WhlPost prog w A E env test body orelse Q k) E s :=
  wpAny_mono h (fun f s2 h2 => by
    cases f with
    | next => exact ih s2 h2
    | cont => exact ih s2 h2
    | brk => exact h2
    | ret v => exact h2.elim) fun _ _ z => z
theorem named {m : Str → Option Value} {a b c d : Str} {va vb vc vd : Value} (h1 : m a = some va) (h2 : m b = some vb) (h3 : m c = some vc) (h4 : m d = some vd) :
    m = fun y => if y = a then some va else if y = b then some vb else if y = c then some vc else if y = d then some vd else m y := by
  funext y
  by_cases e1 : y = a
  · rw [if_pos e1, e1, h1]
  by_cases e2 : y = b
  · rw [if_neg e1, if_pos e2, e2, h2]
  by_cases e3 : y = c
  · rw [if_neg e1, if_neg e2, if_pos e3, e3, h3]
  by_cases e4 : y = d
  · rw [if_neg e1, if_neg e2, if_neg e3, if_pos e4, e4, h4]
  · rw [if_neg e1, if_neg e2, if_neg e3, if_neg e4]
theorem item_of {x : Str} {j c : Nat} (h : x.cps.toList[j]? = some c) {i : Int} (hi : i = (j : Int)) : Txt.item x i = ⟨#[c]⟩ := by
  subst hi
  unfold Txt.item Txt.charAt
  rw [StrLaws.at_nonneg (n := c) (Int.natCast_nonneg j) (by rw [← Array.getElem?_toList]; simpa using h)]
  rfl
section
variable {x : Str} {k c : Nat} {resp : Str} {pre rest : List Nat}
theorem take_next (h : x.cps.toList[k]? = some c) : x.cps.toList.take (k + 1) = x.cps.toList.take k ++ [c] := by
  rw [List.take_add_one, h]; rfl
theorem tk_next (h : x.cps.toList[k]? = some c) : tkn x (k + 1) = tkn x k ++ ⟨#[c]⟩ := by
  refine Str.ext' (Array.toList_inj.mp ?_)
  rw [Str.cps_append, Array.toList_append]
  show x.cps.toList.take (k + 1) = x.cps.toList.take k ++ [c]
  exact take_next h
theorem tk_len : (tkn x k).length ≤ x.length := by
  show (x.cps.toList.take k).toArray.size ≤ x.length
  rw [List.size_toArray, List.length_take]
  have : x.cps.toList.length = x.length := Array.length_toList
  omega
theorem tk_all (h : k = x.cps.toList.length) : tkn x k = x := by
  refine Str.ext' (Array.toList_inj.mp ?_)
  show x.cps.toList.take k = x.cps.toList
  rw [h, List.take_length]
theorem dlen_quote (h : x.cps.toList[k]? = some 34) : dlen x (k + 1) = dlen x k + 2 := by
  unfold dlen
  rw [take_next h, StrLaws.dbl_append, List.length_append]
  rfl
theorem dlen_plain (h : x.cps.toList[k]? = some c) (hc : c ≠ 34) : dlen x (k + 1) = dlen x k + 1 := by
  unfold dlen
  rw [take_next h, StrLaws.dbl_append, List.length_append]
  unfold StrLaws.dbl
  rw [if_neg hc]
  rfl
theorem dbl_split (h : x.cps.toList[k]? = some c) : StrLaws.dbl 34 x.cps.toList = StrLaws.dbl 34 (x.cps.toList.take k) ++ (StrLaws.dbl 34 [c] ++ StrLaws.dbl 34 (x.cps.toList.drop (k + 1))) := by
  have hk : k < x.cps.toList.length := by
    rcases Nat.lt_or_ge k x.cps.toList.length with h' | h'
    · exact h'
    · rw [List.getElem?_eq_none h'] at h; cases h
  rw [← StrLaws.dbl_append, ← StrLaws.dbl_append]
  congr 1
  have hc : x.cps.toList[k] = c := by rw [List.getElem?_eq_getElem hk] at h; exact Option.some.inj h
  rw [List.singleton_append, ← hc, ← List.drop_eq_getElem_cons hk, List.take_append_drop]
variable (hresp : resp.cps.toList = [50, 53, 55, 32, 34] ++ StrLaws.dbl 34 x.cps.toList ++ 34 :: 32 :: rest)
include hresp
theorem resp_len : resp.length = 5 + (StrLaws.dbl 34 x.cps.toList).length + 2 + rest.length := by
  have e : resp.length = resp.cps.toList.length := (Array.length_toList).symm
  rw [e, hresp]
  simp only [List.length_append, List.length_cons, List.length_nil]
  omega
theorem resp_at (h : x.cps.toList[k]? = some c) : resp.cps.toList[5 + dlen x k]? = some c := by
  rw [hresp, dbl_split h, List.append_assoc, List.append_assoc]
  rw [List.getElem?_append_right (by simp), List.getElem?_append_right (by simp [dlen])]
  have e : 5 + dlen x k - [50, 53, 55, 32, 34].length - (StrLaws.dbl 34 (x.cps.toList.take k)).length = 0 := by
    show 5 + dlen x k - 5 - dlen x k = 0
    omega
  rw [e]
  unfold StrLaws.dbl
  by_cases hc : c = 34
  · rw [if_pos hc]; rfl
  · rw [if_neg hc]; rfl
theorem resp_at2 (h : x.cps.toList[k]? = some 34) : resp.cps.toList[5 + dlen x k + 1]? = some 34 := by
  rw [hresp, dbl_split h, List.append_assoc, List.append_assoc]
  rw [List.getElem?_append_right (by simp; omega), List.getElem?_append_right (by simp [dlen]; omega)]
  have e : 5 + dlen x k + 1 - [50, 53, 55, 32, 34].length - (StrLaws.dbl 34 (x.cps.toList.take k)).length = 1 := by
    show 5 + dlen x k + 1 - 5 - dlen x k = 1
    omega
  rw [e]
  rfl
theorem resp_in (h : x.cps.toList[k]? = some c) : 5 + dlen x k + 2 < resp.length := by
  rw [resp_len hresp, dbl_split h]
  have : 1 ≤ (StrLaws.dbl 34 [c]).length := by
    unfold StrLaws.dbl
    by_cases hc : c = 34
    · rw [if_pos hc]; exact Nat.succ_le_succ (Nat.zero_le _)
    · rw [if_neg hc]; exact Nat.succ_le_succ (Nat.zero_le _)
  simp only [List.length_append]
  unfold dlen
  omega
theorem resp_end : resp.cps.toList[5 + dlen x x.cps.toList.length]? = some 34 ∧ resp.cps.toList[5 + dlen x x.cps.toList.length + 1]? = some 32 ∧ 5 + dlen x x.cps.toList.length + 1 < resp.length := by
  have ed : dlen x x.cps.toList.length = (StrLaws.dbl 34 x.cps.toList).length := by unfold dlen; rw [List.take_length]
  rw [ed]
  refine ⟨?_, ?_, ?_⟩
  · rw [hresp, List.getElem?_append_right (by simp; omega)]
    have e : 5 + (StrLaws.dbl 34 x.cps.toList).length - ([50, 53, 55, 32, 34] ++ StrLaws.dbl 34 x.cps.toList).length = 0 := by simp; omega
    rw [e]; rfl
  · rw [hresp, List.getElem?_append_right (by simp; omega)]
    have e : 5 + (StrLaws.dbl 34 x.cps.toList).length + 1 - ([50, 53, 55, 32, 34] ++ StrLaws.dbl 34 x.cps.toList).length = 1 := by simp; omega
    rw [e]; rfl
  · rw [resp_len hresp]; omega
end
-- part C7
theorem p257_c (w : World) (mean : ExcName → Option Value) (mg mb : Str → Option Value) (resp : Str) (tr : Tok) (x : Str) (rest : List Nat)
    (hresp : resp.cps.toList = [50, 53, 55, 32, 34] ++ StrLaws.dbl 34 x.cps.toList ++ 34 :: 32 :: rest) (hlen : resp.length ≤ 1000) (hx : x.length ≤ 1000)
    (h3 : (Txt.slice resp none (some 3) != Str.ofString "257") = false) (h5 : (Txt.slice resp (some 3) (some 5) != Str.ofString " \"") = false) :
    CallW w mean mg mb 1 72 [] [.str resp tr] (RetS x) := by
  unfold CallW
  k_fill
  w_top off
  k_with_none
  k_with "wEnter" => (refine' enterW (args := ⟨_, []⟩) ?mw0k1 ?mw0k2 ?mw0k3 ?mw0k4 ?mw0k5 ?mw0kA ?mw0kF ?mw0kK ?mw0kS ?mw0k6 ?mw0k7 ?mw0k8 ?mw0k9 ?mw0kB ?_ ?mw0kQ ?mw0c2 ?mw0c3 ?mw0c4 ?mw0c5; (case mw0kA => exact rfl); (case mw0kF => exact rfl); (case mw0kK => assumption); (case mw0k1 => k_asm); (case mw0k2 => k_asm); (case mw0k3 => k_asm); (case mw0k4 => k_asm); (case mw0k5 => k_asm); (case mw0kS => k_asm); (case mw0k6 => k_is); (case mw0k7 => k_is); (case mw0k8 => ktr_room); (case mw0k9 => exact BindsTo.of_eq rfl); (case mw0c5 => decide); (case mw0kB => exact locs rfl); (case mw0c2 => exact rfl); (case mw0c3 => exact rfl); (case mw0c4 => exact rfl); (case mw0kQ => k_asm); k_whole; intro g' L' h' F' N' B' X' T'; (try dsimp only); (try k_lift B'); (try k_fold))
  k_with "wEnd" => (refine EndW.intro [] (by k_asm) (by k_asm) (SubL.mem (by (simp only [List.nil_append]); k_subL)) ⟨rfl, _, rfl⟩)
  k_with "call ref" => (k_here; k_dflt (refine' callW_use ?mw2k1 ?mw2k2 ?mw2k3 ?mw2k4 ?mw2k5 ?mw2kK ?mw2kC ?mw2kl ?mw2kd ?mw2ku ?_; (case mw2k1 => k_asm); (case mw2k2 => k_asm); (case mw2k3 => k_asm); (case mw2k4 => k_asm); (case mw2k5 => k_asm); (case mw2kK => first | exact rfl | assumption); (case mw2kC => k_extra "contract"); (case mw2kl => k_subL); (case mw2kd => ktr_room); (case mw2ku => ktr_units); k_whole); (refine fun v9 ex9 h9 tk9 F9 N9 o9 => ?_); (obtain ⟨e9, t9, e8⟩ := o9; subst e9; subst e8; (try simp only [List.nil_append] at N9)); (try k_sweep); (try dsimp only); (try k_fold))
  intro dp un gd cn cs a ccd cl outer A₀ base h₀ L m news s Q E hsub B F X N' T hk hd hu hret
  have hs3 : (Txt.slice resp none (some 3)).length ≤ 1000 := Nat.le_trans (Txt.slice_le _ _ _) hlen
  have hs5 : (Txt.slice resp (some 3) (some 5)).length ≤ 1000 := Nat.le_trans (Txt.slice_le _ _ _) hlen
  k_dflt (walk_at "wEnter")
  repeat ((fail_if_success (with_reducible show wpAny _ _ (exec (PySem.Stmt.While _ _ _ _) _) _ _ _)); first | (k_unfold; (try dsimp only)) | walk1 | (dsimp only; walk1) | (leave1; (try dsimp only)))
  refine whl_start 1 ?_
  refine (?key : ∀ s', Inv257 _ _ resp x s 0 s' → WhlRest _ _ _ _ _ _ _ _ _ 1 s') _ ?start
  case start => exact ⟨_, _, _, _, _, _, _, rfl, (by k_asm), (by k_asm), rfl, rfl, rfl, rfl⟩
  refine fun s' => scan_ind (Inv257 _ _ resp x s) x.cps.toList.length ?step ?last 0 s' (Nat.zero_le _)
  case last =>
    rintro s9 ⟨h9, n9, m9, t1, t2, t3, t4, rfl, F9, N9, e1, e2, e3, e4⟩
    rw [named e1 e2 e3 e4] at F9
    obtain ⟨q1, q2, hin⟩ := resp_end hresp
    have hat := item_of q1 (i := 5 + (dlen x x.cps.toList.length : Nat)) (by omega)
    have hat2 := item_of q2 (i := 5 + (dlen x x.cps.toList.length : Nat) + 1) (by omega)
    have hb1 : (Txt.item resp (5 + (dlen x x.cps.toList.length : Nat)) == Str.ofString "\"") = true := by rw [hat]; decide
    have hb2 : (Txt.item resp (5 + (dlen x x.cps.toList.length : Nat) + 1) != Str.ofString "\"") = true := by rw [hat2]; decide
    rw [tk_all rfl] at e2 F9
    clear e1 e2 e3 e4 q1 q2
    refine whl_turn (k := 0) (by passes_own) ?_
    k_steps
    refine WhlIf.yes (decide_eq_true (by omega)) ?_
    refine whl_body (C := fun _ => False) (j := 0) (fun _ h => h.elim) ?_
    k_steps
    dsimp only [TurnP]
    k_steps
    all_goals (walk_at "wEnd")
  rintro k s9 hk9 ⟨h9, n9, m9, t1, t2, t3, t4, rfl, F9, N9, e1, e2, e3, e4⟩ ih
  rw [named e1 e2 e3 e4] at F9
  obtain ⟨c, hc⟩ : ∃ c, x.cps.toList[k]? = some c := ⟨_, List.getElem?_eq_getElem hk9⟩
  have hin := resp_in hresp hc
  have htk : (tkn x k).length ≤ 1000 := Nat.le_trans tk_len hx
  have hat := item_of (resp_at hresp hc) (i := 5 + (dlen x k : Nat)) (by omega)
  clear e1 e2 e3 e4
  refine whl_turn (k := 0) (by passes_own) ?_
  k_steps
  refine WhlIf.yes (decide_eq_true (by omega)) ?_
  refine whl_body ih ?_
  clear ih
  by_cases hq : c = 34
  · subst hq
    have hat2 := item_of (resp_at2 hresp hc) (i := 5 + (dlen x k : Nat) + 1) (by omega)
    have hb1 : (Txt.item resp (5 + (dlen x k : Nat)) == Str.ofString "\"") = true := by rw [hat]; decide
    have hb2 : (Txt.item resp (5 + (dlen x k : Nat) + 1) != Str.ofString "\"") = false := by rw [hat2]; decide
    k_steps
    all_goals exact ⟨⟨_, _, _, _, _, _, _, rfl, (by k_asm), (by k_asm), rfl, (by show some (Value.str (tkn x k ++ Txt.item resp (5 + (dlen x k : Nat))) _) = _; rw [hat, tk_next hc]), (by show some (Value.int (5 + (dlen x k : Nat) + 1 + 1) _) = _; rw [dlen_quote hc, show (5 + (dlen x k : Nat) + 1 + 1 : Int) = 5 + ((dlen x k + 2 : Nat) : Int) from by omega]), rfl⟩⟩
  · have hb1 : (Txt.item resp (5 + (dlen x k : Nat)) == Str.ofString "\"") = false := by
      rw [hat, beq_eq_false_iff_ne]
      intro e
      have e2 := congrArg (fun z : Str => z.cps.toList) e
      have e3 : (Str.ofString "\"").cps.toList = [34] := by decide
      simp only [e3] at e2
      exact hq (List.cons.inj e2).1
    k_steps
    all_goals exact ⟨⟨_, _, _, _, _, _, _, rfl, (by k_asm), (by k_asm), rfl, (by show some (Value.str (tkn x k ++ Txt.item resp (5 + (dlen x k : Nat))) _) = _; rw [hat, tk_next hc]), (by show some (Value.int (5 + (dlen x k : Nat) + 1) _) = _; rw [dlen_plain hc hq, show (5 + (dlen x k : Nat) + 1 : Int) = 5 + ((dlen x k + 1 : Nat) : Int) from by omega]), rfl⟩⟩
-- part Txt1
theorem day_slice (w : Int) (h0 : 0 ≤ w) (h1 : w < 7) : Txt.slice (Str.ofString "MonTueWedThuFriSatSun") (some (3 * w)) (some (3 * w + 3)) = dayNames.getD w.toNat Str.empty := by
  have h : ∀ k : Fin 7, Txt.slice (Str.ofString "MonTueWedThuFriSatSun") (some (3 * (k.val : Int))) (some (3 * (k.val : Int) + 3)) = dayNames.getD k.val Str.empty := by decide +kernel
  obtain ⟨m, rfl⟩ := Int.eq_ofNat_of_zero_le h0
  exact h ⟨m, Int.ofNat_lt.mp h1⟩
theorem mon_slice (w : Int) (h0 : 1 ≤ w) (h1 : w ≤ 12) : Txt.slice (Str.ofString "JanFebMarAprMayJunJulAugSepOctNovDec") (some (3 * w - 3)) (some (3 * w)) = monNames.getD (w - 1).toNat Str.empty := by
  have h : ∀ k : Fin 12, Txt.slice (Str.ofString "JanFebMarAprMayJunJulAugSepOctNovDec") (some (3 * ((k.val : Int) + 1) - 3)) (some (3 * ((k.val : Int) + 1))) = monNames.getD k.val Str.empty := by decide +kernel
  obtain ⟨m, e⟩ := Int.eq_ofNat_of_zero_le (show 0 ≤ w - 1 by omega)
  have e1 : w = (m : Int) + 1 := by omega
  have e2 : (w - 1).toNat = m := by rw [e]; rfl
  rw [e2, e1]
  exact h ⟨m, by omega⟩
theorem clock_join (a b c : Str) : Txt.join (Str.ofString ":") [a, b, c] = a ++ Str.ofString ":" ++ (b ++ Str.ofString ":" ++ c) := by
  show Builtin.Str.glued (Str.ofString ":") [a, b, c] = _
  rw [StrLaws.glued_eq_join]
  rfl
theorem text_eq (ahead mo d y sec : Int) (zone : Str) (hm0 : 1 ≤ mo) (hm1 : mo ≤ 12) (hs0 : 0 ≤ sec) :
    textT ahead mo d y sec zone = pctText (dayNames.getD (ahead % 7).toNat Str.empty) (monNames.getD (mo - 1).toNat Str.empty) zone d y (sec / 3600) (sec / 60 % 60) (sec % 60) := by
  unfold textT pctText
  rw [Int.fmod_eq_emod_of_nonneg ahead (by decide), Int.fmod_eq_emod_of_nonneg sec (by decide), Int.fmod_eq_emod_of_nonneg _ (by decide), Int.fdiv_eq_ediv_of_nonneg sec (by decide), Int.fdiv_eq_ediv_of_nonneg sec (by decide),
    day_slice _ (by omega) (by omega), mon_slice mo hm0 hm1, clock_join]
  simp only [Str.append_assoc]
-- part Txt2
theorem fig_reads : ∀ n : Fin 100, PySem.intText? (fig (n.val : Int) 2) = some (n.val : Int) ∧ (fig (n.val : Int) 2).length = 2 := by decide +kernel
-- part Txt3
/-- a slice within the text -/
theorem slice_list (x : Str) {a b : Nat} (hab : a ≤ b) (hb : b ≤ x.length) : (Txt.slice x (some (a : Int)) (some (b : Int))).cps.toList = (x.cps.toList.drop a).take (b - a) := by
  unfold Txt.slice
  split
  · rename_i h
    have h2 : (Builtin.Str.strSliceIndices (some (a : Int)) (some (b : Int)) 1 x.length).length = x.length := by simpa using h
    rw [StrLaws.strSliceIndices_plain hab hb] at h2
    simp at h2
    have ha : a = 0 := by omega
    have hb2 : b = x.length := by omega
    subst ha hb2
    have hl : x.cps.toList.length = x.length := Array.length_toList
    rw [List.drop_zero, Nat.sub_zero, ← hl, List.take_length]
  · have h := StrLaws.sliced_plain x hab hb
    simpa using h
theorem slice_to (x : Str) {b : Nat} (hb : b ≤ x.length) : (Txt.slice x none (some (b : Int))).cps.toList = x.cps.toList.take b := by
  have e : Txt.slice x none (some (b : Int)) = Txt.slice x (some 0) (some (b : Int)) := by
    unfold Txt.slice
    rw [StrLaws.sliceIdx_none_lo]
  rw [e]
  have := slice_list x (Nat.zero_le b) hb
  simpa using this
-- part Txt4
theorem slice_mid (s f g r : Str) (hs : s.length = 1) (hf : f.length = 2) (hg : g.length = 2) :
    Txt.slice (s ++ f ++ g ++ r) (some 1) (some 3) = f ∧ Txt.slice (s ++ f ++ g ++ r) (some 3) (some 5) = g := by
  have l1 : s.cps.toList.length = 1 := by rw [Array.length_toList]; exact hs
  have l2 : f.cps.toList.length = 2 := by rw [Array.length_toList]; exact hf
  have l3 : g.cps.toList.length = 2 := by rw [Array.length_toList]; exact hg
  have hl : 5 ≤ (s ++ f ++ g ++ r).length := by simp only [Str.length_append]; omega
  constructor
  · refine Str.ext' (Array.toList_inj.mp ?_)
    have h := slice_list (s ++ f ++ g ++ r) (a := 1) (b := 3) (by decide) (by omega)
    refine h.trans ?_
    simp only [Str.cps_append, Array.toList_append, List.append_assoc]
    rw [List.drop_append_of_le_length (by omega), List.drop_of_length_le (by omega), List.nil_append, List.take_append_of_le_length (by omega), List.take_of_length_le (by omega)]
  · refine Str.ext' (Array.toList_inj.mp ?_)
    have h := slice_list (s ++ f ++ g ++ r) (a := 3) (b := 5) (by decide) (by omega)
    refine h.trans ?_
    simp only [Str.cps_append, Array.toList_append, List.append_assoc]
    rw [← List.append_assoc s.cps.toList, List.drop_append_of_le_length (by rw [List.length_append]; omega), List.drop_of_length_le (by rw [List.length_append]; omega), List.nil_append, List.take_append_of_le_length (by omega), List.take_of_length_le (by omega)]
-- part Txt5
noncomputable def resp257 (x : Str) : Str := Str.ofString "257 \"" ++ Txt.replace x (Str.ofString "\"") (Str.ofString "\"\"") ++ Str.ofString "\" is \"made\"."
theorem resp257_list (x : Str) : (resp257 x).cps.toList = [50, 53, 55, 32, 34] ++ StrLaws.dbl 34 x.cps.toList ++ 34 :: 32 :: [105, 115, 32, 34, 109, 97, 100, 101, 34, 46] := by
  unfold resp257
  have e1 : Str.ofString "\"" = ⟨#[34]⟩ := by decide
  have e2 : Str.ofString "\"\"" = ⟨#[34, 34]⟩ := by decide
  have e3 : (Str.ofString "257 \"").cps.toList = [50, 53, 55, 32, 34] := by decide
  have e4 : (Str.ofString "\" is \"made\".").cps.toList = 34 :: 32 :: [105, 115, 32, 34, 109, 97, 100, 101, 34, 46] := by decide
  rw [Str.cps_append, Str.cps_append, Array.toList_append, Array.toList_append, e1, e2, StrLaws.replace_double, e3, e4]
theorem resp257_len (x : Str) : 5 ≤ (resp257 x).length := by
  have e3 : (Str.ofString "257 \"").length = 5 := by decide
  unfold resp257
  simp only [Str.length_append, e3]
  omega
theorem resp257_tail (x : Str) : ∃ r : List Nat, (resp257 x).cps.toList = 50 :: 53 :: 55 :: 32 :: 34 :: r := by
  rw [resp257_list]
  generalize 34 :: 32 :: [105, 115, 32, 34, 109, 97, 100, 101, 34, 46] = q
  generalize StrLaws.dbl 34 x.cps.toList = p
  exact ⟨p ++ q, rfl⟩
theorem slice_to' (x : Str) {j : Int} {b : Nat} (e : j = (b : Int)) (hb : b ≤ x.length) : (Txt.slice x none (some j)).cps.toList = x.cps.toList.take b := by
  subst e
  exact slice_to x hb
theorem slice_list' (x : Str) {i j : Int} {a b : Nat} (ei : i = (a : Int)) (ej : j = (b : Int)) (hab : a ≤ b) (hb : b ≤ x.length) : (Txt.slice x (some i) (some j)).cps.toList = (x.cps.toList.drop a).take (b - a) := by
  subst ei
  subst ej
  exact slice_list x hab hb
theorem resp257_3 (x : Str) : (Txt.slice (resp257 x) none (some 3) != Str.ofString "257") = false := by
  have h := slice_to' (resp257 x) (j := 3) (b := 3) rfl (by have := resp257_len x; omega)
  obtain ⟨r, er⟩ := resp257_tail x
  have e5 : (Str.ofString "257").cps.toList = [50, 53, 55] := by decide
  have e6 : List.take 3 (50 :: 53 :: 55 :: 32 :: 34 :: r) = [50, 53, 55] := rfl
  rw [er, e6, ← e5] at h
  have e : Txt.slice (resp257 x) none (some 3) = Str.ofString "257" := Str.ext' (Array.toList_inj.mp h)
  rw [e]
  exact bne_self_eq_false _
theorem resp257_5 (x : Str) : (Txt.slice (resp257 x) (some 3) (some 5) != Str.ofString " \"") = false := by
  have h := slice_list' (resp257 x) (i := 3) (j := 5) (a := 3) (b := 5) rfl rfl (by decide) (by have := resp257_len x; omega)
  obtain ⟨r, er⟩ := resp257_tail x
  have e5 : (Str.ofString " \"").cps.toList = [32, 34] := by decide
  have e6 : List.take (5 - 3) (List.drop 3 (50 :: 53 :: 55 :: 32 :: 34 :: r)) = [32, 34] := rfl
  rw [er, e6, ← e5] at h
  have e : Txt.slice (resp257 x) (some 3) (some 5) = Str.ofString " \"" := Str.ext' (Array.toList_inj.mp h)
  rw [e]
  exact bne_self_eq_false _
-- part Cut
section
open PySem.NumText
/-- a list cut at each c -/
noncomputable def cutL (c : Nat) : List Nat → List (List Nat)
  | [] => [[]]
  | a :: r => if a = c then [] :: cutL c r else match cutL c r with
    | h :: t => (a :: h) :: t
    | [] => [[a]]
theorem cutL_free {c : Nat} : ∀ {a : List Nat}, c ∉ a → cutL c a = [a]
  | [], _ => rfl
  | b :: r, h => by
    have hb : b ≠ c := fun e => h (e ▸ .head _)
    have hr : c ∉ r := fun m => h (.tail _ m)
    unfold cutL
    rw [if_neg hb, cutL_free hr]
theorem cutL_more {c : Nat} {b : List Nat} : ∀ {a : List Nat}, c ∉ a → cutL c (a ++ c :: b) = a :: cutL c b
  | [], _ => by
    show cutL c (c :: b) = _
    rw [cutL, if_pos rfl]
  | d :: r, h => by
    have hb : d ≠ c := fun e => h (e ▸ .head _)
    have hr : c ∉ r := fun m => h (.tail _ m)
    rw [List.cons_append, cutL, if_neg hb, cutL_more hr]
theorem cutL_join {c : Nat} : ∀ (p : Str) (r : List Str), (∀ q ∈ p :: r, c ∉ q.cps.toList) → cutL c (Str.join ⟨#[c]⟩ (p :: r)).cps.toList = (p :: r).map (fun q => q.cps.toList)
  | p, [], h => by
    show cutL c p.cps.toList = _
    rw [cutL_free (h p (.head _))]
    rfl
  | p, q :: r, h => by
    show cutL c (p ++ ⟨#[c]⟩ ++ Str.join ⟨#[c]⟩ (q :: r)).cps.toList = _
    rw [Str.cps_append, Str.cps_append, Array.toList_append, Array.toList_append, List.append_assoc]
    show cutL c (p.cps.toList ++ c :: (Str.join ⟨#[c]⟩ (q :: r)).cps.toList) = _
    rw [cutL_more (h p (.head _)), cutL_join q r fun z hz => h z (.tail _ hz)]
    rfl
theorem split_cut (x : Str) (c : Nat) : (Txt.split x ⟨#[c]⟩).map (fun q => q.cps.toList) = cutL c x.cps.toList := by
  have hj := StrLaws.join_split x ⟨#[c]⟩
  have hf := StrLaws.split_free x c
  cases hs : Txt.split x ⟨#[c]⟩ with
  | nil => have := split_pos x ⟨#[c]⟩; rw [hs] at this; exact absurd this (by decide)
  | cons p r =>
    rw [hs] at hj hf
    rw [← cutL_join p r hf, hj]
/-- the three marks, a text free of them, a last mark -/
theorem split_bars (x P : Str) (c : Nat) (hx : x.cps.toList = c :: c :: c :: (P.cps.toList ++ [c])) (hP : c ∉ P.cps.toList) : Txt.split x ⟨#[c]⟩ = [Str.empty, Str.empty, Str.empty, P, Str.empty] := by
  have h := split_cut x c
  have e1 : cutL c ([] ++ c :: (c :: c :: (P.cps.toList ++ [c]))) = [] :: cutL c ([] ++ c :: (c :: (P.cps.toList ++ [c]))) := cutL_more (List.not_mem_nil)
  have e2 : cutL c ([] ++ c :: (c :: (P.cps.toList ++ [c]))) = [] :: cutL c ([] ++ c :: (P.cps.toList ++ [c])) := cutL_more (List.not_mem_nil)
  have e3 : cutL c ([] ++ c :: (P.cps.toList ++ [c])) = [] :: cutL c (P.cps.toList ++ [c]) := cutL_more (List.not_mem_nil)
  have e4 : cutL c (P.cps.toList ++ c :: []) = P.cps.toList :: cutL c [] := cutL_more hP
  rw [hx] at h
  have e5 : cutL c (c :: c :: c :: (P.cps.toList ++ [c])) = [[], [], [], P.cps.toList, []] := by
    rw [show c :: c :: c :: (P.cps.toList ++ [c]) = [] ++ c :: (c :: c :: (P.cps.toList ++ [c])) from rfl, e1, e2, e3, e4]
    rfl
  rw [e5] at h
  have inj : ∀ {a b : List Str}, a.map (fun q => q.cps.toList) = b.map (fun q => q.cps.toList) → a = b := by
    intro a b e
    refine List.map_inj_right (f := fun q : Str => q.cps.toList) (fun u v z => Str.ext' (Array.toList_inj.mp z)) |>.mp e
  exact inj (h.trans rfl)
theorem num_is (m : Nat) : (PySem.Str.ofString (toString ((m : Nat) : Int))).cps.toList = (Nat.toDigits 10 m).map Char.toNat := KIN.signs_num m
theorem num_digits {n : Int} (h0 : 0 ≤ n) : AllDigits (PySem.Str.ofString (toString n)).cps.toList := by
  cases n with
  | negSucc k => exact absurd h0 (Int.not_le.mpr (Int.negSucc_lt_zero k))
  | ofNat m =>
    intro c hc
    have hc' : c ∈ (Nat.toDigits 10 m).map Char.toNat := num_is m ▸ hc
    obtain ⟨ch, hch, rfl⟩ := List.mem_map.mp hc'
    exact digit_range (Nat.isDigit_of_mem_toDigits (by decide) (by decide) hch)
/-- a number's text read back: up to forty figures -/
theorem num_reads' {n : Int} (h0 : 0 ≤ n) (h1 : n < 10 ^ 40) : PySem.intText? (PySem.Str.ofString (toString n)) = some n := by
  have hz : (PySem.Str.ofString (toString n)).length ≤ 4300 := Nat.le_trans (toString_length_le h0 (k := 40) (by decide) h1) (by decide)
  have hd := num_digits h0
  cases n with
  | negSucc k => exact absurd h0 (Int.not_le.mpr (Int.negSucc_lt_zero k))
  | ofNat m =>
    have he : (PySem.Str.ofString (toString (Int.ofNat m))).cps.toList ≠ [] := fun e => by
      have h2 : (Nat.toDigits 10 m).map Char.toNat = [] := (num_is m).symm.trans e
      have h3 := toDigits_len_ge 10 m
      rw [List.map_eq_nil_iff.mp h2] at h3
      cases h3
    have hv : digitsVal (PySem.Str.ofString (toString (Int.ofNat m))).cps.toList = m := (congrArg digitsVal (num_is m)).trans (KIN.val_back m)
    rw [intText_digits hd he hz, hv]
    rfl
end
-- part Txt6
section
open PySem.NumText
noncomputable def resp229 (I : Int) : Str := Str.ofString "229 Zone (|||" ++ Str.ofString (toString I) ++ Str.ofString "|)"
theorem resp229_list (I : Int) : (resp229 I).cps.toList = 50 :: 50 :: 57 :: 32 :: 90 :: 111 :: 110 :: 101 :: 32 :: 40 :: 124 :: 124 :: 124 :: ((Str.ofString (toString I)).cps.toList ++ [124, 41]) := by
  unfold resp229
  have e3 : (Str.ofString "229 Zone (|||").cps.toList = [50, 50, 57, 32, 90, 111, 110, 101, 32, 40, 124, 124, 124] := by decide
  have e4 : (Str.ofString "|)").cps.toList = [124, 41] := by decide
  rw [Str.cps_append, Str.cps_append, Array.toList_append, Array.toList_append, e3, e4]
  generalize (Str.ofString (toString I)).cps.toList = p
  rw [List.append_assoc]
  rfl
theorem resp229_len (I : Int) : (resp229 I).length = (Str.ofString (toString I)).length + 15 := by
  have e : (resp229 I).length = (resp229 I).cps.toList.length := (Array.length_toList).symm
  have e' : (Str.ofString (toString I)).length = (Str.ofString (toString I)).cps.toList.length := (Array.length_toList).symm
  rw [e, e', resp229_list]
  simp only [List.length_append, List.length_cons, List.length_nil]
theorem resp229_3 (I : Int) : (Txt.slice (resp229 I) none (some 3) != Str.ofString "229") = false := by
  have h := slice_to' (resp229 I) (j := 3) (b := 3) rfl (by have := resp229_len I; omega)
  rw [resp229_list] at h
  generalize (Str.ofString (toString I)).cps.toList ++ [124, 41] = r at h
  have e5 : (Str.ofString "229").cps.toList = [50, 50, 57] := by decide
  have e6 : List.take 3 (50 :: 50 :: 57 :: 32 :: 90 :: 111 :: 110 :: 101 :: 32 :: 40 :: 124 :: 124 :: 124 :: r) = [50, 50, 57] := rfl
  rw [e6, ← e5] at h
  have e : Txt.slice (resp229 I) none (some 3) = Str.ofString "229" := Str.ext' (Array.toList_inj.mp h)
  rw [e]
  exact bne_self_eq_false _
theorem at_one (x : Str) (c i : Nat) : StrLaws.At x ⟨#[c]⟩ x.length i ↔ x.cps.toList[i]? = some c := StrLaws.subAt_one x c i
theorem find_first {x : Str} {c i : Nat} (h : x.cps.toList[i]? = some c) (hn : ∀ k, k < i → x.cps.toList[k]? ≠ some c) : Txt.find x ⟨#[c]⟩ = (i : Int) := by
  rcases find_whole x ⟨#[c]⟩ with ⟨_, h2⟩ | ⟨j, e, h2, h3⟩
  · exact absurd ((at_one x c i).mpr h) (h2 i)
  · have h4 := (at_one x c j).mp h2
    have : j = i := by
      rcases Nat.lt_trichotomy j i with l | l | l
      · exact absurd h4 (hn j l)
      · exact l
      · exact absurd ((at_one x c i).mpr h) (h3 i l)
    rw [e, this]
theorem find3_first {x : Str} {c i a : Nat} {j : Int} (ha : fromIndex x.length j = a) (hai : a ≤ i) (h : x.cps.toList[i]? = some c) (hn : ∀ k, a ≤ k → k < i → x.cps.toList[k]? ≠ some c) : Txt.find3 x ⟨#[c]⟩ j = (i : Int) := by
  have hil : i < x.length := by
    rcases Nat.lt_or_ge i x.cps.toList.length with l | l
    · rw [Array.length_toList] at l; exact l
    · rw [List.getElem?_eq_none l] at h; cases h
  rcases StrLaws.find3_spec x c j with ⟨_, h2⟩ | ⟨k, e, h1, h2, h3, h4⟩
  · rw [ha] at h2
    exact absurd (StrLaws.getD_of_getElem? h) (h2 i hai hil)
  · rw [ha] at h1 h4
    have : k = i := by
      rcases Nat.lt_trichotomy k i with l | l | l
      · exact absurd (StrLaws.getElem?_of_getD h2 h3) (hn k h1 l)
      · exact l
      · exact absurd (StrLaws.getD_of_getElem? h) (h4 i hai l)
    rw [e, this]
theorem resp229_l (I : Int) : Txt.find (resp229 I) (Str.ofString "(") = 9 := by
  have e : Str.ofString "(" = ⟨#[40]⟩ := by decide
  rw [e]
  have h : Txt.find (resp229 I) ⟨#[40]⟩ = ((9 : Nat) : Int) := by
    refine find_first ?_ ?_
    · rw [resp229_list]
      generalize (Str.ofString (toString I)).cps.toList ++ [124, 41] = r
      rfl
    · rw [resp229_list]
      generalize (Str.ofString (toString I)).cps.toList ++ [124, 41] = r
      intro k hk
      have hk' : k = 0 ∨ k = 1 ∨ k = 2 ∨ k = 3 ∨ k = 4 ∨ k = 5 ∨ k = 6 ∨ k = 7 ∨ k = 8 := by omega
      rcases hk' with rfl | rfl | rfl | rfl | rfl | rfl | rfl | rfl | rfl <;> (intro q; cases q)
  exact h
theorem digits_get {I : Int} (h0 : 0 ≤ I) {k c : Nat} (h : (Str.ofString (toString I)).cps.toList[k]? = some c) : 48 ≤ c ∧ c ≤ 57 := num_digits h0 c (List.mem_of_getElem? h)
theorem drop13 (I : Int) (k : Nat) : (resp229 I).cps.toList[k + 13]? = ((Str.ofString (toString I)).cps.toList ++ [124, 41])[k]? := by
  rw [resp229_list]
  generalize (Str.ofString (toString I)).cps.toList ++ [124, 41] = r
  rfl
theorem resp229_at {I : Int} : (resp229 I).cps.toList[(Str.ofString (toString I)).length + 13]? = some 124 ∧ (resp229 I).cps.toList[(Str.ofString (toString I)).length + 14]? = some 41 := by
  have e' : (Str.ofString (toString I)).length = (Str.ofString (toString I)).cps.toList.length := (Array.length_toList).symm
  constructor
  · rw [drop13, e', List.getElem?_append_right (Nat.le_refl _), Nat.sub_self]; rfl
  · rw [show (Str.ofString (toString I)).length + 14 = (Str.ofString (toString I)).length + 1 + 13 from rfl, drop13, e', List.getElem?_append_right (by omega), Nat.add_sub_cancel_left]; rfl
theorem resp229_r {I : Int} (h0 : 0 ≤ I) : Txt.find3 (resp229 I) (Str.ofString ")") (9 + 1) = (((Str.ofString (toString I)).length + 14 : Nat) : Int) := by
  have e : Str.ofString ")" = ⟨#[41]⟩ := by decide
  have e' : (Str.ofString (toString I)).length = (Str.ofString (toString I)).cps.toList.length := (Array.length_toList).symm
  have hl := resp229_len I
  rw [e]
  refine find3_first (a := 10) ?_ (by omega) resp229_at.2 ?_
  · unfold fromIndex
    omega
  · intro k hk hk2 q
    have hk' : k = 10 ∨ k = 11 ∨ k = 12 ∨ 13 ≤ k := by omega
    rcases hk' with rfl | rfl | rfl | h13
    iterate 3
      rw [resp229_list] at q
      generalize (Str.ofString (toString I)).cps.toList ++ [124, 41] = r at q
      cases q
    obtain ⟨j, rfl⟩ := Nat.exists_eq_add_of_le' h13
    rw [drop13] at q
    by_cases hj : j < (Str.ofString (toString I)).cps.toList.length
    · rw [List.getElem?_append_left hj] at q
      have := digits_get h0 q
      omega
    · rw [List.getElem?_append_right (by omega)] at q
      have ej : j - (Str.ofString (toString I)).cps.toList.length = 0 := by omega
      rw [ej] at q
      cases q
theorem resp229_item (I : Int) : Txt.item (resp229 I) (9 + 1) = ⟨#[124]⟩ := by
  refine item_of (j := 10) ?_ rfl
  rw [resp229_list]
  generalize (Str.ofString (toString I)).cps.toList ++ [124, 41] = r
  rfl
theorem resp229_c (I : Int) : (Txt.item (resp229 I) (9 + 1) != Txt.item (resp229 I) ((((Str.ofString (toString I)).length + 14 : Nat) : Int) - 1)) = false := by
  rw [resp229_item, item_of (x := resp229 I) (j := (Str.ofString (toString I)).length + 13) resp229_at.1 (by omega)]
  exact bne_self_eq_false _
theorem resp229_p {I : Int} (h0 : 0 ≤ I) : Txt.split (Txt.slice (resp229 I) (some (9 + 1)) (some (((Str.ofString (toString I)).length + 14 : Nat) : Int))) (Txt.item (resp229 I) (9 + 1)) = [Str.empty, Str.empty, Str.empty, Str.ofString (toString I), Str.empty] := by
  rw [resp229_item]
  have hl := resp229_len I
  have e' : (Str.ofString (toString I)).length = (Str.ofString (toString I)).cps.toList.length := (Array.length_toList).symm
  refine split_bars _ _ _ ?_ fun hm => ?_
  · rw [slice_list' (resp229 I) (i := 9 + 1) (j := (((Str.ofString (toString I)).length + 14 : Nat) : Int)) (a := 10) (b := (Str.ofString (toString I)).length + 14) rfl rfl (by omega) (by omega), resp229_list]
    rw [show ∀ r : List Nat, List.drop 10 (50 :: 50 :: 57 :: 32 :: 90 :: 111 :: 110 :: 101 :: 32 :: 40 :: 124 :: 124 :: 124 :: r) = 124 :: 124 :: 124 :: r from fun _ => rfl]
    rw [show (Str.ofString (toString I)).length + 14 - 10 = (Str.ofString (toString I)).length + 1 + 3 from by omega]
    rw [List.take_succ_cons, List.take_succ_cons, List.take_succ_cons, e', List.take_append, List.take_of_length_le (by omega), Nat.add_sub_cancel_left]
    rfl
  · have := num_digits h0 _ hm
    omega
end
-- part Pk1
/-- what the law draws of its five numbers -/
structure Drawn (n0 n1 n2 n3 n4 y mo d sec east ahead Ln : Int) : Prop where
  hy : 1 + n0.fmod (10 ^ 20) = y
  hmo : 1 + n1.fmod 12 = mo
  hL : (lens y).getD (mo - 1).toNat 0 = Ln
  hd : 1 + n2.fmod Ln = d
  hsec : n3.fmod 86400 = sec
  heast : n4.fmod 2879 - 1439 = east
  hy0 : 1 ≤ y
  hy1 : y ≤ 10 ^ 20
  hm0 : 1 ≤ mo
  hm1 : mo ≤ 12
  hL0 : 28 ≤ Ln
  hL1 : Ln ≤ 31
  hd0 : 1 ≤ d
  hd1 : d ≤ 31
  hs0 : 0 ≤ sec
  hs1 : sec < 86400
  he0 : -1439 ≤ east
  he1 : east ≤ 1439
  ha0 : 0 ≤ ahead
  ha1 : ahead < 10 ^ 24
  ha : 365 * (y - 1) + (y - 1).fdiv 4 - (y - 1).fdiv 100 + (y - 1).fdiv 400 + (List.take (mo - 1).toNat [31, if leapB y = true then 29 else 28, 31, 30, 31, 30, 31, 31, 30, 31, 30, 31]).sum + d - 1 = ahead
  hB : Back (ahead + 306) y mo d
theorem lens_bound (y : Int) {k : Nat} (hk : k < 12) : 28 ≤ (lens y).getD k 0 ∧ (lens y).getD k 0 ≤ 31 := by
  have h : ∀ (b : Bool) (k : Fin 12), 28 ≤ ([31, if b then 29 else 28, 31, 30, 31, 30, 31, 31, 30, 31, 30, 31] : List Int).getD k.val 0 ∧ ([31, if b then 29 else 28, 31, 30, 31, 30, 31, 31, 30, 31, 30, 31] : List Int).getD k.val 0 ≤ 31 := by decide +kernel
  exact h (leapB y) ⟨k, hk⟩
theorem cum_take (b : Bool) {k : Nat} (hk : k < 12) : (List.take k [31, if b = true then 29 else 28, 31, 30, 31, 30, 31, 31, 30, 31, 30, 31]).sum = cum (if b = true then 29 else 28) k := by
  have h : ∀ (b : Bool) (k : Fin 12), (List.take k.val [31, if b = true then 29 else 28, 31, 30, 31, 30, 31, 31, 30, 31, 30, 31]).sum = cum (if b = true then 29 else 28) k.val := by decide +kernel
  exact h b ⟨k, hk⟩
theorem cum_bound (b : Bool) {k : Nat} (hk : k < 12) : 0 ≤ cum (if b = true then 29 else 28) k ∧ cum (if b = true then 29 else 28) k ≤ 400 := by
  have h : ∀ (b : Bool) (k : Fin 12), 0 ≤ cum (if b = true then 29 else 28) k.val ∧ cum (if b = true then 29 else 28) k.val ≤ 400 := by decide +kernel
  exact h b ⟨k, hk⟩
theorem drawn_ex (n0 n1 n2 n3 n4 : Int) : ∃ y mo d sec east ahead Ln, Drawn n0 n1 n2 n3 n4 y mo d sec east ahead Ln := by
  obtain ⟨y, hy⟩ : ∃ y, 1 + n0.fmod (10 ^ 20) = y := ⟨_, rfl⟩
  obtain ⟨mo, hmo⟩ : ∃ y, 1 + n1.fmod 12 = y := ⟨_, rfl⟩
  obtain ⟨Ln, hL⟩ : ∃ z, (lens y).getD (mo - 1).toNat 0 = z := ⟨_, rfl⟩
  obtain ⟨d, hd⟩ : ∃ z, 1 + n2.fmod Ln = z := ⟨_, rfl⟩
  obtain ⟨sec, hsec⟩ : ∃ z, n3.fmod 86400 = z := ⟨_, rfl⟩
  obtain ⟨east, heast⟩ : ∃ z, n4.fmod 2879 - 1439 = z := ⟨_, rfl⟩
  have hy0 : 1 ≤ y ∧ y ≤ 10 ^ 20 := by
    have := hy
    rw [Int.fmod_eq_emod_of_nonneg _ (by decide)] at this
    omega
  have hm0 : 1 ≤ mo ∧ mo ≤ 12 := by
    have := hmo
    rw [Int.fmod_eq_emod_of_nonneg _ (by decide)] at this
    omega
  have hk : (mo - 1).toNat < 12 := by omega
  have hLb : 28 ≤ Ln ∧ Ln ≤ 31 := by rw [← hL]; exact lens_bound y hk
  have hdb : 1 ≤ d ∧ d ≤ Ln := by
    have := hd
    rw [Int.fmod_eq_emod_of_nonneg _ (by omega)] at this
    have h1 := Int.emod_nonneg n2 (show Ln ≠ 0 by omega)
    have h2 := Int.emod_lt_of_pos n2 (show 0 < Ln by omega)
    omega
  have hsb : 0 ≤ sec ∧ sec < 86400 := by
    have := hsec
    rw [Int.fmod_eq_emod_of_nonneg _ (by decide)] at this
    omega
  have heb : -1439 ≤ east ∧ east ≤ 1439 := by
    have := heast
    rw [Int.fmod_eq_emod_of_nonneg _ (by decide)] at this
    omega
  obtain ⟨ahead, ha⟩ : ∃ z, 365 * (y - 1) + (y - 1).fdiv 4 - (y - 1).fdiv 100 + (y - 1).fdiv 400 + (List.take (mo - 1).toNat [31, if leapB y = true then 29 else 28, 31, 30, 31, 30, 31, 31, 30, 31, 30, 31]).sum + d - 1 = z := ⟨_, rfl⟩
  have ha' := ha
  rw [cum_take _ hk, Int.fdiv_eq_ediv_of_nonneg _ (by decide), Int.fdiv_eq_ediv_of_nonneg _ (by decide), Int.fdiv_eq_ediv_of_nonneg _ (by decide)] at ha'
  have hc := cum_bound (leapB y) hk
  have hB : Back (ahead + 306) y (((mo - 1).toNat : Nat) + 1) d := calendar hk hdb.1 (by rw [hL]; exact hdb.2) ha'.symm
  have em : (((mo - 1).toNat : Nat) : Int) + 1 = mo := by omega
  rw [em] at hB
  generalize cum (if leapB y = true then 29 else 28) (mo - 1).toNat = q at ha' hc
  refine ⟨y, mo, d, sec, east, ahead, Ln, hy, hmo, hL, hd, hsec, heast, hy0.1, hy0.2, hm0.1, hm0.2, hLb.1, hLb.2, hdb.1, Int.le_trans hdb.2 hLb.2, hsb.1, hsb.2, heb.1, heb.2, ?_, ?_, ha, hB⟩
  · clear hB em ha hL hd hsec heast hmo hy
    omega
  · clear hB em ha hL hd hsec heast hmo hy
    omega
-- part Pk2
theorem fig_back {n : Int} (h : B100 n) : PySem.intText? (fig n 2) = some n ∧ (fig n 2).length = 2 := by
  obtain ⟨h0, h1⟩ := h
  obtain ⟨m, rfl⟩ := Int.eq_ofNat_of_zero_le h0
  exact fig_reads ⟨m, by omega⟩
/-- the zone's hours, its minutes -/
noncomputable abbrev zH (east : Int) : Int := (if east < 0 then -east else east).fdiv 60
noncomputable abbrev zM (east : Int) : Int := (if east < 0 then -east else east).fmod 60
theorem zone_is (east n0 n1 n2 n3 n4 : Int) : zoneT east n0 n1 n2 n3 n4 = (if east < 0 then Str.ofString "-" else Str.ofString "+") ++ fig (zH east) 2 ++ fig (zM east) 2 ++ (Str.ofString " (" ++ Txt.join (Str.ofString "") [mark n0, mark n1, mark n2, mark n3, mark n4] ++ Str.ofString ")") := by
  unfold zoneT
  simp only [Str.append_assoc]
theorem sgn_one (east : Int) : (if east < 0 then Str.ofString "-" else Str.ofString "+").length = 1 := by
  split <;> rfl
theorem zone_len {east : Int} (n0 n1 n2 n3 n4 : Int) (h0 : -1439 ≤ east) (h1 : east ≤ 1439) : 5 ≤ (zoneT east n0 n1 n2 n3 n4).length ∧ (zoneT east n0 n1 n2 n3 n4).length ≤ 100 := by
  have l1 := (fig_back (b_div h0 h1)).2
  have l2 := (fig_back (b_mod (if east < 0 then -east else east))).2
  have l3 := marks_len n0 n1 n2 n3 n4
  have l4 := sgn_one east
  have l5 : (Str.ofString " (").length = 2 := by decide
  have l6 : (Str.ofString ")").length = 1 := by decide
  unfold zoneT
  simp only [Str.length_append, l1, l2, l4, l5, l6]
  omega
theorem zone_sign (east n0 n1 n2 n3 n4 : Int) : (Txt.item (zoneT east n0 n1 n2 n3 n4) 0 == Str.ofString "-") = decide (east < 0) := by
  have e1 : (Str.ofString "-").cps.toList = [45] := by decide
  have e2 : (Str.ofString "+").cps.toList = [43] := by decide
  have e3 : Str.ofString "-" = ⟨#[45]⟩ := by decide
  by_cases h : east < 0
  · rw [item_of (x := zoneT east n0 n1 n2 n3 n4) (i := 0) (j := 0) (c := 45) (by
      rw [zone_is, if_pos h]
      simp only [Str.cps_append, Array.toList_append, e1, List.append_assoc]
      rfl) rfl, e3, decide_eq_true h]
    decide
  · rw [item_of (x := zoneT east n0 n1 n2 n3 n4) (i := 0) (j := 0) (c := 43) (by
      rw [zone_is, if_neg h]
      simp only [Str.cps_append, Array.toList_append, e2, List.append_assoc]
      rfl) rfl, e3, decide_eq_false h]
    decide
theorem zone_reads {east : Int} (n0 n1 n2 n3 n4 : Int) (h0 : -1439 ≤ east) (h1 : east ≤ 1439) :
    PySem.intText? (Txt.slice (zoneT east n0 n1 n2 n3 n4) (some 1) (some 3)) = some (zH east) ∧ PySem.intText? (Txt.slice (zoneT east n0 n1 n2 n3 n4) (some 3) (some 5)) = some (zM east) := by
  have f1 := fig_back (b_div h0 h1)
  have f2 := fig_back (b_mod (if east < 0 then -east else east))
  have hs := slice_mid (if east < 0 then Str.ofString "-" else Str.ofString "+") (fig (zH east) 2) (fig (zM east) 2) (Str.ofString " (" ++ Txt.join (Str.ofString "") [mark n0, mark n1, mark n2, mark n3, mark n4] ++ Str.ofString ")") (sgn_one east) f1.2 f2.2
  rw [zone_is, hs.1, hs.2]
  exact ⟨f1.1, f2.1⟩
theorem zone_shift {east : Int} : (zH east * 60 + zM east) = (if east < 0 then -east else east) := by
  unfold zH zM
  rw [Int.fdiv_eq_ediv_of_nonneg _ (by decide), Int.fmod_eq_emod_of_nonneg _ (by decide)]
  omega
theorem text_len {ahead mo d y sec : Int} {zone : Str} (hd : B100 d) (hy0 : 1 ≤ y) (hy1 : y ≤ 10 ^ 20) (hs0 : 0 ≤ sec) (hs1 : sec < 86400) (hz : zone.length ≤ 100) : (textT ahead mo d y sec zone).length ≤ 300 := by
  have l1 := Txt.slice_le (Str.ofString "MonTueWedThuFriSatSun") (some (3 * ahead.fmod 7)) (some (3 * ahead.fmod 7 + 3))
  have l2 := Txt.slice_le (Str.ofString "JanFebMarAprMayJunJulAugSepOctNovDec") (some (3 * mo - 3)) (some (3 * mo))
  have l3 := f_len hd
  have l4 := y_len hy0 hy1
  have l5 := clock_len (b_hour hs0 hs1) (b_mod (sec.fdiv 60)) (b_mod sec)
  have e1 : (Str.ofString "MonTueWedThuFriSatSun").length = 21 := by decide
  have e2 : (Str.ofString "JanFebMarAprMayJunJulAugSepOctNovDec").length = 36 := by decide
  have e3 : (Str.ofString ", ").length = 2 := by decide
  have e4 : (Str.ofString " ").length = 1 := by decide
  rw [e1] at l1
  rw [e2] at l2
  unfold textT
  simp only [Str.length_append, e3, e4]
  omega
theorem dbl_len (c : Nat) : ∀ l : List Nat, (StrLaws.dbl c l).length ≤ 2 * l.length
  | [] => Nat.le_refl _
  | a :: r => by
    have h := dbl_len c r
    unfold StrLaws.dbl
    split <;> simp only [List.length_cons] <;> omega
theorem resp257_le {x : Str} (h : x.length ≤ 300) : (resp257 x).length ≤ 1000 := by
  have e : (resp257 x).length = (resp257 x).cps.toList.length := (Array.length_toList).symm
  have e' : x.length = x.cps.toList.length := (Array.length_toList).symm
  have h2 := dbl_len 34 x.cps.toList
  rw [e, resp257_list]
  simp only [List.length_append, List.length_cons, List.length_nil]
  omega
theorem ok_append {a b : Str} (ha : PyData.strOk a = true) (hb : PyData.strOk b = true) : PyData.strOk (a ++ b) = true := by
  unfold PyData.strOk at ha hb ⊢
  rw [Str.cps_append, Array.all_append, ha, hb]
  rfl
theorem fig_ok {n k : Int} (h : 0 ≤ n) : PyData.strOk (fig n k) = true := by
  unfold PyData.strOk
  rw [← Array.all_toList, fig_list, List.all_append, Bool.and_eq_true]
  constructor
  · exact List.all_eq_true.mpr fun c hc => by rw [List.eq_of_mem_replicate hc]; rfl
  · exact List.all_eq_true.mpr fun c hc => by have := num_digits h c hc; exact decide_eq_true (by omega)
theorem mark_ok (n : Int) : PyData.strOk (mark n) = true := by
  unfold mark
  split <;> decide +kernel
theorem zone_ok {east : Int} (n0 n1 n2 n3 n4 : Int) (h0 : -1439 ≤ east) (h1 : east ≤ 1439) : PyData.strOk (zoneT east n0 n1 n2 n3 n4) = true := by
  unfold zoneT
  have ej : Txt.join (Str.ofString "") [mark n0, mark n1, mark n2, mark n3, mark n4] = mark n0 ++ Str.ofString "" ++ (mark n1 ++ Str.ofString "" ++ (mark n2 ++ Str.ofString "" ++ (mark n3 ++ Str.ofString "" ++ mark n4))) := by
    show Builtin.Str.glued (Str.ofString "") [mark n0, mark n1, mark n2, mark n3, mark n4] = _
    rw [StrLaws.glued_eq_join]
    rfl
  rw [ej]
  have e0 : PyData.strOk (Str.ofString "") = true := by decide +kernel
  have e1 : PyData.strOk (if east < 0 then Str.ofString "-" else Str.ofString "+") = true := by split <;> decide +kernel
  have e2 : PyData.strOk (Str.ofString " (") = true := by decide +kernel
  have e3 : PyData.strOk (Str.ofString ")") = true := by decide +kernel
  have bh := (b_div h0 h1).1
  have bm := (b_mod (if east < 0 then -east else east)).1
  exact ok_append (ok_append (ok_append (ok_append (ok_append e1 (fig_ok bh)) (fig_ok bm)) e2) (ok_append (ok_append (mark_ok _) e0) (ok_append (ok_append (mark_ok _) e0) (ok_append (ok_append (mark_ok _) e0) (ok_append (ok_append (mark_ok _) e0) (mark_ok _)))))) e3
/-- the law's five calls, by the values that stand between them -/
structure Pack (w : World) (n0 n1 n2 n3 n4 I : Int) (zone text : Str) (y mo d h mi sc wd : Int) : Prop where
  i0 : 0 ≤ I
  i1 : I < 10 ^ 30
  il : (Str.ofString (toString I)).length ≤ 40
  zl : zone.length ≤ 100
  zk : PyData.strOk zone = true
  tl : text.length ≤ 300
  drawn : ∀ mean mg mb D u0 u1 u2 u3 u4, CallW w mean mg mb 2 126 [(D, listO [.int n0 u0, .int n1 u1, .int n2 u2, .int n3 u3, .int n4 u4])] [.ref D]
      (fun v ex => ∃ D' t1 t2 t3, v = .ref D' ∧ ex = [(D', tupO [.int I t1, .str zone t2, .str text t3])])
  p229 : ∀ mean mg mb tr D tz t21, CallW w mean mg mb 1 65 [(D, tupO [.str zone tz, .int 21 t21])] [.str (resp229 I) tr, .ref D] (fun v ex => ∃ D' t1 t2, v = .ref D' ∧ ex = [(D', tupO [.str zone t1, .int I t2])])
  cells : ∀ mean mg mb tz ti, CallW w mean mg mb 4 140 [] [.str zone tz, .int I ti] (fun v ex => ∃ D t1 t2 t3 t4 t5 t6 t7 t8 t9, v = .ref D ∧ ex = [(D, tupO [.int y t1, .int mo t2, .int d t3, .int h t4, .int mi t5, .int sc t6, .int wd t7, .int 0 t8, .int (-1) t9])])
  fmt : ∀ mean mg mb D t1 t2 t3 t4 t5 t6 t7 t8 t9 tz, CallW w mean mg mb 1 21 [(D, tupO [.int y t1, .int mo t2, .int d t3, .int h t4, .int mi t5, .int sc t6, .int wd t7, .int 0 t8, .int (-1) t9])] [.ref D, .str zone tz] (RetS text)
  p257 : ∀ mean mg mb tr, CallW w mean mg mb 1 72 [] [.str (resp257 text) tr] (RetS text)
theorem pack_ex (w : World) (n0 n1 n2 n3 n4 : Int) : ∃ I zone text y mo d h mi sc wd, Pack w n0 n1 n2 n3 n4 I zone text y mo d h mi sc wd := by
  obtain ⟨y, mo, d, sec, east, ahead, Ln, H⟩ := drawn_ex n0 n1 n2 n3 n4
  have hI : (ahead + 306) * 86400 + sec - 60 * east = (ahead + 306) * 86400 + sec - 60 * east := rfl
  have hz := zone_len n0 n1 n2 n3 n4 H.he0 H.he1
  have hr := zone_reads n0 n1 n2 n3 n4 H.he0 H.he1
  have bh := b_div H.he0 H.he1
  have bm := b_mod (if east < 0 then -east else east)
  have ha0 := H.ha0
  have ha1 := H.ha1
  have hs0 := H.hs0
  have hs1 := H.hs1
  have he0 := H.he0
  have he1 := H.he1
  have i0 : 0 ≤ (ahead + 306) * 86400 + sec - 60 * east := by omega
  have i1 : (ahead + 306) * 86400 + sec - 60 * east < 10 ^ 30 := by omega
  have hlo : (ahead + 306) * 86400 + sec = if decide (east < 0) = true then (ahead + 306) * 86400 + sec - 60 * east - (zH east * 60 + zM east) * 60 else (ahead + 306) * 86400 + sec - 60 * east + (zH east * 60 + zM east) * 60 := by
    rw [zone_shift]
    by_cases h : east < 0
    · rw [if_pos (decide_eq_true h), if_pos h]; omega
    · rw [if_neg (by rw [decide_eq_false h]; exact Bool.false_ne_true), if_neg h]; omega
  have q1 : ((ahead + 306) * 86400 + sec) / 86400 = ahead + 306 := by omega
  have q2 : ((ahead + 306) * 86400 + sec) % 86400 = sec := by omega
  have q3 : (ahead + 306 + 2) % 7 = ahead % 7 := by omega
  have hd100 : B100 d := b_day H.hd0 H.hd1
  have il : (Str.ofString (toString ((ahead + 306) * 86400 + sec - 60 * east))).length ≤ 40 := toString_length_le i0 (k := 40) (by decide) (Int.lt_trans i1 (by decide))
  have tl : (textT ahead mo d y sec (zoneT east n0 n1 n2 n3 n4)).length ≤ 300 := text_len hd100 H.hy0 H.hy1 hs0 hs1 hz.2
  refine ⟨(ahead + 306) * 86400 + sec - 60 * east, zoneT east n0 n1 n2 n3 n4, textT ahead mo d y sec (zoneT east n0 n1 n2 n3 n4), y, mo, d, sec / 3600, sec / 60 % 60, sec % 60, ahead % 7, i0, i1, il, hz.2, zone_ok n0 n1 n2 n3 n4 he0 he1, tl, ?_, ?_, ?_, ?_, ?_⟩
  · intro mean mg mb D u0 u1 u2 u3 u4
    exact drawn_c w mean mg mb D n0 n1 n2 n3 n4 u0 u1 u2 u3 u4 y mo d sec east ahead Ln H.hy H.hmo H.hL H.hd H.hsec H.heast H.hy0 H.hy1 H.hm0 H.hm1 H.hL0 H.hL1 H.hd0 H.hd1 hs0 hs1 he0 he1 ha0 ha1 H.ha
  · intro mean mg mb tr D tz t21
    have hl := resp229_len ((ahead + 306) * 86400 + sec - 60 * east)
    exact p229_c w mean mg mb _ tr D _ tz t21 _ _ _ (by rw [hl]; omega) (resp229_3 _) (resp229_l _) (resp229_r i0) (by omega) (by rw [hl]; omega) (resp229_c _) (resp229_p i0) (num_reads' i0 (Int.lt_trans i1 (by decide))) (Nat.le_trans il (by decide))
  · intro mean mg mb tz ti
    have h := cells_c w mean mg mb (zoneT east n0 n1 n2 n3 n4) tz ((ahead + 306) * 86400 + sec - 60 * east) ti (decide (east < 0)) (zH east) (zM east) ((ahead + 306) * 86400 + sec) hz.1 hz.2 (zone_sign east n0 n1 n2 n3 n4) hr.1 hr.2 bh.1 bh.2 bm.1 bm.2 hlo (by omega) (by omega) y mo d (by rw [q1]; exact H.hB)
    rw [q1, q2, q3] at h
    exact h
  · intro mean mg mb D t1 t2 t3 t4 t5 t6 t7 t8 t9 tz
    rw [text_eq ahead mo d y sec _ H.hm0 H.hm1 hs0]
    exact fmt_c w mean mg mb D y mo d (sec / 3600) (sec / 60 % 60) (sec % 60) (ahead % 7) t1 t2 t3 t4 t5 t6 t7 t8 t9 _ tz (by have := H.hy0; omega) (by have := H.hy1; omega) H.hm0 H.hm1 hd100.1 hd100.2 (by omega) (by omega) (by omega) (by omega) (by omega) (by omega) (by omega) (by omega) hz.2
  · intro mean mg mb tr
    exact p257_c w mean mg mb _ tr _ _ (resp257_list _) (resp257_le tl) (Nat.le_trans tl (by decide)) (resp257_3 _) (resp257_5 _)
-- part L9
theorem five_list (ns : List Int) : ∃ a b c d e, List.take 5 ns ++ List.drop (List.take 5 ns).length [1999, 1, 28, 86399, 1229] = [a, b, c, d, e] := by
  match ns with
  | [] => exact ⟨_, _, _, _, _, rfl⟩
  | [_] => exact ⟨_, _, _, _, _, rfl⟩
  | [_, _] => exact ⟨_, _, _, _, _, rfl⟩
  | [_, _, _] => exact ⟨_, _, _, _, _, rfl⟩
  | [_, _, _, _] => exact ⟨_, _, _, _, _, rfl⟩
  | _ :: _ :: _ :: _ :: _ :: r => exact ⟨_, _, _, _, _, rfl⟩
theorem ints_one {vs : List Value} {a : Int} {r : List Int} (h : IntsAre vs (a :: r)) : ∃ t ws, vs = .int a t :: ws ∧ IntsAre ws r := by
  cases h with
  | cons _ t h => exact ⟨t, _, rfl, h⟩
theorem ints_five {vs : List Value} {a b c d e : Int} (h : IntsAre vs [a, b, c, d, e]) : ∃ t0 t1 t2 t3 t4, vs = [.int a t0, .int b t1, .int c t2, .int d t3, .int e t4] := by
  obtain ⟨t0, v1, e1, h1⟩ := ints_one h
  obtain ⟨t1, v2, e2, h2⟩ := ints_one h1
  obtain ⟨t2, v3, e3, h3⟩ := ints_one h2
  obtain ⟨t3, v4, e4, h4⟩ := ints_one h3
  obtain ⟨t4, v5, e5, h5⟩ := ints_one h4
  cases h5
  subst e5 e4 e3 e2 e1
  exact ⟨t0, t1, t2, t3, t4, rfl⟩
section
variable {prog : Program} {w : World} {A : Around} {E : Value → Shared → Prop} {s : Shared} {h₀ : Heap} {L l b : Addr} {m : Str → Option Value} {news : List (Addr × Obj)} {vs ws : List Value} {ns : List Int} {Q : Value → Shared → Prop}
theorem nums_at {j : Nat} {n n' : Nat} (F : Fr h₀ L s.heap m) (N : News h₀ L s.heap news) (hl : (l, PySem.W.listOf vs.toArray n) ∈ news) (hb : (b, PySem.W.listOf ws.toArray n') ∈ news)
    (hi : IntsAre vs (List.take 5 ns)) (hj : IntsAre ws (List.drop j [1999, 1, 28, 86399, 1229])) (hk : j = (List.take 5 ns).length)
    (h : ∀ D n0 n1 n2 n3 n4 u0 u1 u2 u3 u4 h', Fr h₀ L h' m → News h₀ L h' ((D, listO [.int n0 u0, .int n1 u1, .int n2 u2, .int n3 u3, .int n4 u4]) :: news) → (∀ p ∈ news, p.1 < D) → Q (.ref D) { s with heap := h' }) :
    wpAny (model prog w) A (binaryOp .Add (.ref l) (.ref b)) Q E s := by
  subst hk
  have hsz : (List.take 5 ns).length + (List.drop (List.take 5 ns).length [(1999 : Int), 1, 28, 86399, 1229]).length ≤ sizeLine := by
    rw [sizeLine_eq, List.length_drop, List.length_take]
    simp only [List.length_cons, List.length_nil]
    omega
  refine add_lists_ints F N (News.isList N hl) (News.isList N hb) hi hj (fun h' F' N' I => ?_) hsz
  obtain ⟨n0, n1, n2, n3, n4, e⟩ := five_list ns
  rw [e] at I
  obtain ⟨u0, u1, u2, u3, u4, e'⟩ := ints_five I
  rw [e'] at N'
  exact h _ n0 n1 n2 n3 n4 u0 u1 u2 u3 u4 h' F' N' fun p hp => Heap.lt_size (N p hp).1
end
-- part L10
theorem dblq_len {x : Str} (h : x.length ≤ 300) : (Txt.replace x (Str.ofString "\"") (Str.ofString "\"\"")).length ≤ 600 := by
  have e1 : Str.ofString "\"" = ⟨#[34]⟩ := by decide
  have e2 : Str.ofString "\"\"" = ⟨#[34, 34]⟩ := by decide
  have e : (Txt.replace x ⟨#[34]⟩ ⟨#[34, 34]⟩).length = (Txt.replace x ⟨#[34]⟩ ⟨#[34, 34]⟩).cps.toList.length := (Array.length_toList).symm
  have e' : x.length = x.cps.toList.length := (Array.length_toList).symm
  have h2 := dbl_len 34 x.cps.toList
  rw [e1, e2, e, StrLaws.replace_double]
  omega
section
variable {prog : Program} {w : World} {A : Around} {E : Value → Shared → Prop} {s : Shared} {h₀ : Heap} {L l b : Addr} {m : Str → Option Value} {news : List (Addr × Obj)} {vs ws : List Value} {ns : List Int} {Q : Value → Shared → Prop}
theorem nums_pack {j : Nat} {n n' : Nat} (F : Fr h₀ L s.heap m) (N : News h₀ L s.heap news) (hl : (l, PySem.W.listOf vs.toArray n) ∈ news) (hb : (b, PySem.W.listOf ws.toArray n') ∈ news)
    (hi : IntsAre vs (List.take 5 ns)) (hj : IntsAre ws (List.drop j [1999, 1, 28, 86399, 1229])) (hk : j = (List.take 5 ns).length)
    (h : ∀ D n0 n1 n2 n3 n4 u0 u1 u2 u3 u4 I zone text y mo d hh mi sc wd h', Pack w n0 n1 n2 n3 n4 I zone text y mo d hh mi sc wd → 0 ≤ I → I < 10 ^ 30 → (Str.ofString (toString I)).length ≤ 40 → zone.length ≤ 100 → PyData.strOk zone = true → text.length ≤ 300 →
      Fr h₀ L h' m → News h₀ L h' ((D, listO [.int n0 u0, .int n1 u1, .int n2 u2, .int n3 u3, .int n4 u4]) :: news) → (∀ p ∈ news, p.1 < D) → Q (.ref D) { s with heap := h' }) :
    wpAny (model prog w) A (binaryOp .Add (.ref l) (.ref b)) Q E s := by
  refine nums_at F N hl hb hi hj hk fun D n0 n1 n2 n3 n4 u0 u1 u2 u3 u4 h' F' N' lt => ?_
  obtain ⟨I, zone, text, y, mo, d, hh, mi, sc, wd, P⟩ := pack_ex w n0 n1 n2 n3 n4
  exact h D n0 n1 n2 n3 n4 u0 u1 u2 u3 u4 I zone text y mo d hh mi sc wd h' P P.i0 P.i1 P.il P.zl P.zk P.tl F' N' lt
end
theorem ne_told {prog : Program} {w : World} {A : Around} {E : Value → Shared → Prop} {s : Shared} {h₀ : Heap} {L D1 D2 : Addr} {news : List (Addr × Obj)} {Q : Value → Shared → Prop} {z : Str} {i : Int} {t1 t2 t3 t4 : Tok} (N : News h₀ L s.heap news)
    (m1 : (D1, tupO [.str z t1, .int i t2]) ∈ news) (m2 : (D2, tupO [.str z t3, .int i t4]) ∈ news) (hz : PyData.strOk z = true) (hu : A.units + 64 < cLine) (h : Q (.bool false) s) : wpAny (model prog w) A (compareOp .NotEq (.ref D1) (.ref D2)) Q E s := by
  have hsh : SeqAt.shaped (.tuple [.str z, .int i]) = true := by
    simp [SeqAt.shaped, PyData.canLay0, PyData.canLayAll0, PyData.depth, PyData.depthAll, hz]
  refine ne_dataH (da := .tuple [.str z, .int i]) (db := .tuple [.str z, .int i]) (reads_tuple_at (News.get N m1) rfl rfl (.cons (.str _ _) (.cons (.int _ _) .nil))) (reads_tuple_at (News.get N m2) rfl rfl (.cons (.str _ _) (.cons (.int _ _) .nil))) hsh hsh hu ?_
  have e : PyData.eqv (.tuple [.str z, .int i]) (.tuple [.str z, .int i]) = true := by simp [PyData.eqv, PyData.eqvAll]
  rw [e]
  exact h
theorem ne_same {prog : Program} {w : World} {A : Around} {E : Value → Shared → Prop} {s : Shared} {Q : Value → Shared → Prop} {z : Str} {t u : Tok} (h : Q (.bool false) s) : wpAny (model prog w) A (compareOp .NotEq (.str z t) (.str z u)) Q E s := by
  refine ne_str ?_
  rw [bne_self_eq_false]
  exact h
theorem eq_same {prog : Program} {w : World} {A : Around} {E : Value → Shared → Prop} {s : Shared} {Q : Value → Shared → Prop} {z : Str} {t u : Tok} (h : Q (.bool true) s) : wpAny (model prog w) A (compareOp .Eq (.str z t) (.str z u)) Q E s := by
  refine eq_str ?_
  rw [beq_self_eq_true]
  exact h
/-- the walk through the law -/
theorem holds : PySem.Challenge.rw_xo0009_01.Holds := hd (by
  k_with_none
  k_with "kt_len" => ((with_reducible refine dblq_len ?_); assumption)
  k_with "subscriptTail List cons Slice ref ref" => (k_here; k_dflt (refine kba_turn (value' := PySem.Expr.Name (PySem.Str.ofString "x") ⟨0, 0, 0, 0⟩) (fun _ => rfl) ?_; refine' kmk_slice_ints ?mq1F ?mq1N ?mq1l ?mq1p ?mq1q ?mq1i ?mq1m ?mq1c ?_ ?mq1s ?mq1t ?mq1z; (case mq1F => k_asm); (case mq1N => k_asm); (case mq1l => exact News.isList (by k_asm) (by k_mem)); (case mq1p => exact IsPart.int _ _); (case mq1q => exact IsPart.none); (case mq1i => exact (.cons _ _ (.cons _ _ (.cons _ _ (.cons _ _ (.cons _ _ .nil)))))); (case mq1m => exact kmk_from (.cons _ _ (.cons _ _ (.cons _ _ (.cons _ _ (.cons _ _ .nil))))) (Int.natCast_nonneg _)); (case mq1c => exact rfl); (case mq1s => with_unfolding_all rfl); (case mq1t => exact fun _ => rfl); (case mq1z => exact Nat.le_of_ble_eq_true rfl)); intro D' ws' h' F' N' l1 hI' hC' hL'; clear hC' hL'; (try k_lt l1))
  k_with "binaryOp Add str str" => (k_here; (with_reducible show wpAny _ _ (binaryOp Operator.Add (Value.str _ _) (Value.str _ _)) _ _ _); k_dflt (refine' KXadd.add ?mq2kxaa ?mq2kxab ?mq2kxac ?_; (case mq2kxaa => kt_len); (case mq2kxab => kt_len); (case mq2kxac => exact Nat.le_of_ble_eq_true rfl)); intro _ _ kxh; clear kxh)
  k_with "binaryOp Add ref ref" => (k_here; k_dflt (refine' nums_pack ?mq3F ?mq3N ?mq3l ?mq3b ?mq3i ?mq3j ?mq3k ?_; (case mq3F => k_asm); (case mq3N => k_asm); (case mq3l => k_mem); (case mq3b => k_mem); (case mq3i => assumption); (case mq3j => assumption); (case mq3k => exact rfl)); intro D' n0' n1' n2' n3' n4' u0' u1' u2' u3' u4' I' zone' text' y' mo' d' hh' mi' sc' wd' h' P' hI0' hI1' hIl' hzl' hzk' htl' F' N' l1; (try k_lt l1); (try k_sweep))
  k_with "call ref" => (k_here; (with_reducible show wpAny _ _ (call (Value.ref 126) _) _ _ _); (with_reducible rename Pack _ _ _ _ _ _ _ _ _ _ _ _ _ _ _ _ => P'); k_dflt (refine' callW_use ?mq4k1 ?mq4k2 ?mq4k3 ?mq4k4 ?mq4k5 ?mq4kK (Pack.drawn P' _ _ _ _ _ _ _ _ _) ?mq4kl ?mq4kd ?mq4ku ?_; (case mq4k1 => k_asm); (case mq4k2 => k_asm); (case mq4k3 => k_asm); (case mq4k4 => k_asm); (case mq4k5 => k_asm); (case mq4kK => first | exact rfl | assumption); (case mq4kl => k_subL); (case mq4kd => ktr_room); (case mq4ku => ktr_units); k_whole); (refine fun v9 ex9 h9 tk9 F9 N9 o9 => ?_); (obtain ⟨D9, t1, t2, t3, e9, e8⟩ := o9); subst e9; subst e8; (simp only [List.cons_append, List.nil_append] at N9); (try k_sweep); (try dsimp only); (try k_fold))
  k_with "call ref" => (k_here; (with_reducible show wpAny _ _ (call (Value.ref 65) _) _ _ _); (with_reducible rename Pack _ _ _ _ _ _ _ _ _ _ _ _ _ _ _ _ => P'); k_dflt (refine' callW_use ?mq5k1 ?mq5k2 ?mq5k3 ?mq5k4 ?mq5k5 ?mq5kK (Pack.p229 P' _ _ _ _ _ _ _) ?mq5kl ?mq5kd ?mq5ku ?_; (case mq5k1 => k_asm); (case mq5k2 => k_asm); (case mq5k3 => k_asm); (case mq5k4 => k_asm); (case mq5k5 => k_asm); (case mq5kK => first | exact rfl | assumption); (case mq5kl => k_subL); (case mq5kd => ktr_room); (case mq5ku => ktr_units); k_whole); (refine fun v9 ex9 h9 tk9 F9 N9 o9 => ?_); (obtain ⟨D9, t1, t2, e9, e8⟩ := o9); subst e9; subst e8; (simp only [List.cons_append, List.nil_append] at N9); (try k_sweep); (try dsimp only); (try k_fold))
  k_with "call ref" => (k_here; (with_reducible show wpAny _ _ (call (Value.ref 140) _) _ _ _); (with_reducible rename Pack _ _ _ _ _ _ _ _ _ _ _ _ _ _ _ _ => P'); k_dflt (refine' callW_use ?mq6k1 ?mq6k2 ?mq6k3 ?mq6k4 ?mq6k5 ?mq6kK (Pack.cells P' _ _ _ _ _) ?mq6kl ?mq6kd ?mq6ku ?_; (case mq6k1 => k_asm); (case mq6k2 => k_asm); (case mq6k3 => k_asm); (case mq6k4 => k_asm); (case mq6k5 => k_asm); (case mq6kK => first | exact rfl | assumption); (case mq6kl => k_subL); (case mq6kd => ktr_room); (case mq6ku => ktr_units); k_whole); (refine fun v9 ex9 h9 tk9 F9 N9 o9 => ?_); (obtain ⟨D9, t1, t2, t3, t4, t5, t6, t7, t8, t9, e9, e8⟩ := o9); subst e9; subst e8; (simp only [List.cons_append, List.nil_append] at N9); (try k_sweep); (try dsimp only); (try k_fold))
  k_with "call ref" => (k_here; (with_reducible show wpAny _ _ (call (Value.ref 21) _) _ _ _); (with_reducible rename Pack _ _ _ _ _ _ _ _ _ _ _ _ _ _ _ _ => P'); k_dflt (refine' callW_use ?mq7k1 ?mq7k2 ?mq7k3 ?mq7k4 ?mq7k5 ?mq7kK (Pack.fmt P' _ _ _ _ _ _ _ _ _ _ _ _ _ _) ?mq7kl ?mq7kd ?mq7ku ?_; (case mq7k1 => k_asm); (case mq7k2 => k_asm); (case mq7k3 => k_asm); (case mq7k4 => k_asm); (case mq7k5 => k_asm); (case mq7kK => first | exact rfl | assumption); (case mq7kl => k_subL); (case mq7kd => ktr_room); (case mq7ku => ktr_units); k_whole); (refine fun v9 ex9 h9 tk9 F9 N9 o9 => ?_); (obtain ⟨e8, t1, e9⟩ := o9); subst e9; subst e8; (simp only [List.cons_append, List.nil_append] at N9); (try k_sweep); (try dsimp only); (try k_fold))
  k_with "call ref" => (k_here; (with_reducible show wpAny _ _ (call (Value.ref 72) _) _ _ _); (with_reducible rename Pack _ _ _ _ _ _ _ _ _ _ _ _ _ _ _ _ => P'); k_dflt (refine' callW_use ?mq8k1 ?mq8k2 ?mq8k3 ?mq8k4 ?mq8k5 ?mq8kK (Pack.p257 P' _ _ _ _) ?mq8kl ?mq8kd ?mq8ku ?_; (case mq8k1 => k_asm); (case mq8k2 => k_asm); (case mq8k3 => k_asm); (case mq8k4 => k_asm); (case mq8k5 => k_asm); (case mq8kK => first | exact rfl | assumption); (case mq8kl => k_subL); (case mq8kd => ktr_room); (case mq8ku => ktr_units); k_whole); (refine fun v9 ex9 h9 tk9 F9 N9 o9 => ?_); (obtain ⟨e8, t1, e9⟩ := o9); subst e9; subst e8; (simp only [List.cons_append, List.nil_append] at N9); (try k_sweep); (try dsimp only); (try k_fold))
  k_with "compareOp NotEq ref ref" => (k_here; (with_reducible show wpAny _ _ (compareOp CmpOp.NotEq (Value.ref _) (Value.ref _)) _ _ _); k_dflt (refine' ne_told ?mq9N ?mq9m1 ?mq9m2 ?mq9z ?mq9u ?_; (case mq9z => assumption); (case mq9N => k_asm); (case mq9m1 => k_mem); (case mq9m2 => k_mem); (case mq9u => units_room); k_whole))
  k_with "compareOp NotEq str str" => (k_here; (with_reducible refine ne_same ?_))
  k_with "compareOp Eq str str" => (k_here; (with_reducible refine eq_same ?_))
  k_go)
end Mine
theorem PySem.Challenge.cw_xo0009_01_holds : PySem.Challenge.rw_xo0009_01.Holds :=
  Mine.holds
