import PyProof.Rows.All
import Wide.All
import OpenK.AllK
import Wide.FinOn
import PyProof.ExcStrAll.Exception
import PySem.Challenge.RW_ny0061_01
set_option Elab.async false
local macro_rules | `(tactic| walk_at $s:str) => `(tactic| k_extra $s)
section
open PySem PySem.W PyProof.Rows
namespace Mine
set_option maxRecDepth 100000 in
set_option maxHeartbeats 8000000 in
open_top hd for PySem.Challenge.rw_ny0061_01
end Mine
end
section
open PySem PySem.W PySem.Calls PyProof.Rows
set_option maxRecDepth 100000
namespace Mine

/-- how a contract's body ends -/
noncomputable def Done (g : Heap) (L' : Addr) (s : Shared) (post : Value → List (Addr × Obj) → Prop) (v : Value) (s' : Shared) : Prop :=
  ∃ m' own h' tk', s' = { s with heap := h', toks := tk' } ∧ Fr g L' h' m' ∧ News g L' h' own ∧ post v own

theorem Done.intro {g h' : Heap} {L' : Addr} {s : Shared} {post : Value → List (Addr × Obj) → Prop} {v : Value} {tk' : Nat} {m' : Str → Option Value} {news' : List (Addr × Obj)} (own : List (Addr × Obj))
    (F : Fr g L' h' m') (N : News g L' h' news') (hs : ∀ p ∈ own, p ∈ news') (hp : post v own) : Done g L' s post v { s with heap := h', toks := tk' } :=
  ⟨m', own, h', tk', rfl, F, fun p q => N p (hs p q), hp⟩

noncomputable abbrev MyRet (h₀ : Heap) (L : Addr) (m : Str → Option Value) (news : List (Addr × Obj)) (s : Shared) (Q : Value → Shared → Prop) (post : Value → List (Addr × Obj) → Prop) : Prop :=
  ∀ (r : Value) (own : List (Addr × Obj)) (h' : Heap) (tk' : Nat), Fr h₀ L h' m → News h₀ L h' (own ++ news) → (∀ q ∈ news, ∀ p ∈ own, p.1 ≠ q.1) → post r own → Q r { s with heap := h', toks := tk' }

/-- a contract of the def at f -/
noncomputable def Cl (w : World) (mean : ExcName → Option Value) (mg mb : Str → Option Value) (k : Nat) (f : Addr) (vs : List Value) (pre : Heap → Prop) (post : Value → List (Addr × Obj) → Prop) : Prop :=
  ∀ (dp un : Nat) (gd : Option (List Code)) (cn : Str) (cs : Scope) (a : Addr) (ccd : Value) (cl : List (Str × Addr)) (outer : List Env) (A₀ : Around) (base h₀ : Heap) (L : Addr) (m : Str → Option Value) (news : List (Addr × Obj)) (s : Shared) (Q E : Value → Shared → Prop),
    Below A₀ base outer h₀ → Fr h₀ L s.heap m → (hd.heap_39 w.params).In h₀ → News h₀ L s.heap news → Top hd.view_39 (looseW hd.view_39 []) mean mg mb h₀ → cs.kind = .function →
    pre s.heap → dp + k < recursionLimit → un + 10 * k < cLine → MyRet h₀ L m news s Q post →
      wpAny (model PySem.Challenge.rw_ny0061_01.row.prog w) (ktrTop dp un gd cn cs L a ccd cl outer) (call (.ref f) vs) Q E s

section
variable {prog : Program} {w : World} {A₀ A : Around} {s : Shared} {base h₀ : Heap} {outer : List Env} {L : Addr} {m : Str → Option Value} {env : Env} {news : List (Addr × Obj)} {K : Frag}
  {name qual : Str} {params : Arguments} {body : List Stmt} {scope : Scope} {dV kV doc pm cdv ct oc : Value} {an od : Option Addr} {osl : Array (Option Value)} {f : Addr} {args : List Value} {binds : List (Str × Value)}
  {p : Program} {loose : List Str} {mean : ExcName → Option Value} {mg mb : Str → Option Value}

theorem call_clean {Q E : Value → Shared → Prop} {post : Value → List (Addr × Obj) → Prop} (B : Below A₀ base outer h₀) (F : Fr h₀ L s.heap m) (X₀ : K.In h₀) (N : News h₀ L s.heap news) (T : Top p loose mean mg mb h₀) (hA : A.frames = some (env :: outer)) (hf : env.frame = some L) (hke : env.scope.kind = .function)
    (ho : K.lookup f = some ⟨oc, od, .func (fnOf name qual params body scope dV kV doc pm an cdv ct), osl⟩) (hcd : codeIn K cdv qual = true) (hroom : A.depth < recursionLimit)
    (hbind : BindsTo s (fnOf name qual params body scope dV kV doc pm an cdv ct) ⟨args, []⟩ binds) (hloc : ∀ y ∈ binds, scope.names.lookup y.1 = some .local)
    (hco : scope.isCoroutine = false) (hgen : scope.isGenerator = false) (hk : scope.kind = .function) (hcell : ∀ x ∈ scope.names, x.2 ≠ .cell)
    (hret : MyRet h₀ L m news s Q post)
    (h : ∀ L' h₁ tk, Fr s.heap L' h₁ (fun y => binds.reverse.lookup y) → News s.heap L' h₁ [] → Below A base (env :: outer) s.heap → K.In s.heap → Top p loose mean mg mb s.heap → s.toks ≤ tk → (binds ≠ [] → 1 ≤ tk) →
      wpAny (model prog w) (A.deeper (envOf qual scope L' f cdv)) (execs body (envOf qual scope L' f cdv))
        (fun fl s' => Done s.heap L' s post (match fl with | .ret v => v | _ => .none) s')
        (fun e s' => wpAny (model prog w) (A.deeper (envOf qual scope L' f cdv)) (leaving (envOf qual scope L' f cdv) e) (fun _ s'' => E e s'') (fun e' s'' => E e' s'') s')
        { s with heap := h₁, toks := tk }) : wpAny (model prog w) A (call (.ref f) args) Q E s := by
  have B₁ := pushX B F hf hke
  have B₂ : Below A base (env :: outer) s.heap := ⟨hA, B₁.stays, B₁.frames⟩
  refine wpAny_call (codeAny_call_def (fd := fnOf name qual params body scope dV kV doc pm an cdv ct) (body := body) (binds := binds) hroom ((X₀.keeps F.keep) _ _ ho) rfl (T.nolimit.keeps F.keep) (codeRec_of (X₀.keeps F.keep) hcd) rfl hbind hcell hloc (fun h₁ hns hk₁ => ?_) hco hgen hk)
  refine wpAny_mono (h s.heap.objs.size h₁ (s.toks + binds.length) ⟨hns, hk₁, Nat.le_refl _⟩ News.nil B₂ (X₀.keeps F.keep) (T.keeps F.keep) (by omega) (fun hb => ?_)) (fun fl s' hd => ?_) fun _ _ y => y
  · cases binds with
    | nil => exact absurd rfl hb
    | cons _ _ => simp only [List.length_cons]; omega
  · obtain ⟨m', own, h', tk', rfl, F', N', hp⟩ := hd
    obtain ⟨oL, es, ep, hL, hLd, hLk, hLf⟩ := F.ns
    refine hret _ own h' tk' ⟨⟨oL, es, ep, F'.keep L oL hL, hLd, hLk, hLf⟩, fun b o e => F'.keep b o (F.keep b o e), F.above⟩ (fun p hp => ?_) (fun q hq p hp e => ?_) hp
    · rcases List.mem_append.mp hp with hp | hp
      · refine ⟨(N' p hp).1, fun q => ?_, ?_⟩
        · have := (N' p hp).2.2; rw [q, hL] at this; cases this
        · cases q : h₀.get? p.1 with
          | none => rfl
          | some o => have := (N' p hp).2.2; rw [F.keep _ _ q] at this; cases this
      · exact ⟨F'.keep _ _ (N p hp).1, (N p hp).2⟩
    · have h1 := (N' p hp).2.2
      rw [e, (N q hq).1] at h1; cases h1
end
theorem Cl.use {w : World} {mean : ExcName → Option Value} {mg mb : Str → Option Value} {k : Nat} {f : Addr} {vs : List Value} {pre : Heap → Prop} {post : Value → List (Addr × Obj) → Prop} (C : Cl w mean mg mb k f vs pre post)
    {dp un : Nat} {gd : Option (List Code)} {cn : Str} {cs : Scope} {a : Addr} {ccd : Value} {cl : List (Str × Addr)} {outer : List Env} {A₀ : Around} {base h₀ : Heap} {L : Addr} {m : Str → Option Value} {news : List (Addr × Obj)} {s : Shared} {Q E : Value → Shared → Prop}
    (B : Below A₀ base outer h₀) (F : Fr h₀ L s.heap m) (X : (hd.heap_39 w.params).In h₀) (N : News h₀ L s.heap news) (T : Top hd.view_39 (looseW hd.view_39 []) mean mg mb h₀) (hk : cs.kind = .function)
    (hp : pre s.heap) (hd : dp + k < recursionLimit) (hu : un + 10 * k < cLine) (ret : MyRet h₀ L m news s Q post) :
      wpAny (model PySem.Challenge.rw_ny0061_01.row.prog w) (ktrTop dp un gd cn cs L a ccd cl outer) (call (.ref f) vs) Q E s :=
  C _ _ _ _ _ _ _ _ _ _ _ _ _ _ _ _ _ _ B F X N T hk hp hd hu ret
/-- one value back, nothing made -/
theorem Cl.useV {w : World} {mean : ExcName → Option Value} {mg mb : Str → Option Value} {k : Nat} {f : Addr} {vs : List Value} {pre : Heap → Prop} {v : Value} (C : Cl w mean mg mb k f vs pre fun r own => own = [] ∧ r = v)
    {dp un : Nat} {gd : Option (List Code)} {cn : Str} {cs : Scope} {a : Addr} {ccd : Value} {cl : List (Str × Addr)} {outer : List Env} {A₀ : Around} {base h₀ : Heap} {L : Addr} {m : Str → Option Value} {news : List (Addr × Obj)} {s : Shared} {Q E : Value → Shared → Prop}
    (B : Below A₀ base outer h₀) (F : Fr h₀ L s.heap m) (X : (hd.heap_39 w.params).In h₀) (N : News h₀ L s.heap news) (T : Top hd.view_39 (looseW hd.view_39 []) mean mg mb h₀) (hk : cs.kind = .function)
    (hp : pre s.heap) (hd : dp + k < recursionLimit) (hu : un + 10 * k < cLine)
    (ret : ∀ h' tk', Fr h₀ L h' m → News h₀ L h' news → Q v { s with heap := h', toks := tk' }) :
      wpAny (model PySem.Challenge.rw_ny0061_01.row.prog w) (ktrTop dp un gd cn cs L a ccd cl outer) (call (.ref f) vs) Q E s :=
  Cl.use C B F X N T hk hp hd hu fun _ _ _ _ F' N' _ q => by
    obtain ⟨rfl, rfl⟩ := q
    exact ret _ _ F' N'
/-- a text back, nothing made -/
theorem Cl.useS {w : World} {mean : ExcName → Option Value} {mg mb : Str → Option Value} {k : Nat} {f : Addr} {vs : List Value} {pre : Heap → Prop} {y : Str} (C : Cl w mean mg mb k f vs pre fun r own => own = [] ∧ ∃ t, r = .str y t)
    {dp un : Nat} {gd : Option (List Code)} {cn : Str} {cs : Scope} {a : Addr} {ccd : Value} {cl : List (Str × Addr)} {outer : List Env} {A₀ : Around} {base h₀ : Heap} {L : Addr} {m : Str → Option Value} {news : List (Addr × Obj)} {s : Shared} {Q E : Value → Shared → Prop}
    (B : Below A₀ base outer h₀) (F : Fr h₀ L s.heap m) (X : (hd.heap_39 w.params).In h₀) (N : News h₀ L s.heap news) (T : Top hd.view_39 (looseW hd.view_39 []) mean mg mb h₀) (hk : cs.kind = .function)
    (hp : pre s.heap) (hd : dp + k < recursionLimit) (hu : un + 10 * k < cLine)
    (ret : ∀ t h' tk', Fr h₀ L h' m → News h₀ L h' news → Q (.str y t) { s with heap := h', toks := tk' }) :
      wpAny (model PySem.Challenge.rw_ny0061_01.row.prog w) (ktrTop dp un gd cn cs L a ccd cl outer) (call (.ref f) vs) Q E s :=
  Cl.use C B F X N T hk hp hd hu fun _ _ _ _ F' N' _ q => by
    obtain ⟨rfl, t, rfl⟩ := q
    exact ret _ _ _ F' N'
noncomputable abbrev tupObj (vs : List Value) : Obj := { cls := .type "tuple", data := .seq vs.toArray }
/-- a new tuple of three texts back -/
theorem Cl.use3 {w : World} {mean : ExcName → Option Value} {mg mb : Str → Option Value} {k : Nat} {f : Addr} {vs : List Value} {pre : Heap → Prop} {x y z : Str} (C : Cl w mean mg mb k f vs pre fun r own => ∃ l t u v, r = .ref l ∧ own = [(l, tupObj [.str x t, .str y u, .str z v])])
    {dp un : Nat} {gd : Option (List Code)} {cn : Str} {cs : Scope} {a : Addr} {ccd : Value} {cl : List (Str × Addr)} {outer : List Env} {A₀ : Around} {base h₀ : Heap} {L : Addr} {m : Str → Option Value} {news : List (Addr × Obj)} {s : Shared} {Q E : Value → Shared → Prop}
    (B : Below A₀ base outer h₀) (F : Fr h₀ L s.heap m) (X : (hd.heap_39 w.params).In h₀) (N : News h₀ L s.heap news) (T : Top hd.view_39 (looseW hd.view_39 []) mean mg mb h₀) (hk : cs.kind = .function)
    (hp : pre s.heap) (hd : dp + k < recursionLimit) (hu : un + 10 * k < cLine)
    (ret : ∀ l t u v h' tk', Fr h₀ L h' m → News h₀ L h' ((l, tupObj [.str x t, .str y u, .str z v]) :: news) → (∀ q ∈ news, l ≠ q.1) → Q (.ref l) { s with heap := h', toks := tk' }) :
      wpAny (model PySem.Challenge.rw_ny0061_01.row.prog w) (ktrTop dp un gd cn cs L a ccd cl outer) (call (.ref f) vs) Q E s :=
  Cl.use C B F X N T hk hp hd hu fun _ _ _ _ F' N' d q => by
    obtain ⟨l, t, u, v, rfl, rfl⟩ := q
    exact ret _ _ _ _ _ _ F' N' (fun q hq => d q hq _ (.head _))
end Mine
end
section
open PySem PySem.W PySem.Calls PyProof.Rows
set_option maxRecDepth 100000
namespace Mine
section
variable {prog : Program} {w : World} {A : Around} {E : Value → Shared → Prop} {s : Shared}
theorem kind_iscn : builtinKind "issubclass.nested" = none := by decide +kernel
theorem plain_iscn : plainId "issubclass.nested" = true := by decide +kernel
theorem args_iscn_3 (a b c : Value) : argsOk "issubclass.nested" ⟨[a, b, c], []⟩ := by unfold argsOk; kernel_rfl

theorem iscn_str {dep : Int} {tk : Tok} {Q : Fin → Shared → Prop} (hq : Q (.done (.ret (.bool true))) s) :
    wpAny (model prog w) A (Builtin.«issubclass.nested» ⟨[.type "str", .type "str", .int dep tk], []⟩) Q E s := by
  have hm := F.isi_meta_str
  have hself := isSubtype_str_str
  repeat (any_goals (first | assumption | (rw [hm]) | (rw [hself]) | wp_step))

theorem iscn_str_tup {tp : Addr} {cs rest : List Value} {tk : Tok} {n : Nat} {Q : Fin → Shared → Prop}
    (htp : s.heap.get? tp = some { cls := .type "tuple", data := .seq cs.toArray n }) (hcs : cs = .type "str" :: rest)
    (hq : Q (.done (.ret (.bool true))) s) : wpAny (model prog w) A (Builtin.«issubclass.nested» ⟨[.type "str", .ref tp, .int 0 tk], []⟩) Q E s := by
  obtain ⟨h, g, d, t, os⟩ := s
  have hT2 : (⟨h, g, d, t, os⟩ : Shared).TypeIs (.ref tp) "tuple" := ⟨_, htp, rfl⟩
  have f1 := F.isi_sub_tuple
  repeat (any_goals (first | assumption | wp_step))
  refine wpAny_arrayLoop ?_
  simp only [Option.getD_some, List.toList_toArray]
  rw [hcs, List.forIn_cons]
  refine wpAny_bind (wpAny_bind (call_function_meets (S := fun _ R s => R (.ok (.ret (.bool true))) s) kind_iscn plain_iscn F.entry_issubclass_nested (args_iscn_3 _ _ _) (fun _ _ _ _ _ hs => iscn_str hs) ?_))
  show wpAny _ _ (truthy (.bool true) >>= _) _ _ _
  refine wpAny_bind (m := truthy (.bool true)) (wpAny_pure ?_)
  exact wpAny_bind (wpAny_pure (wpAny_pure (wpAny_pure (wpAny_pure hq))))

theorem issubclass_str_tup {tp : Addr} {cs rest : List Value} {n : Nat} {Q : Value → Shared → Prop}
    (htp : s.heap.get? tp = some { cls := .type "tuple", data := .seq cs.toArray n }) (hcs : cs = .type "str" :: rest)
    (hq : Q (.bool true) s) : wpAny (model prog w) A (call (.builtin "issubclass") [.type "str", .ref tp]) Q E s :=
  call_issubclass (S := fun _ R s => s.heap.get? tp = some { cls := .type "tuple", data := .seq cs.toArray n } ∧ R (.ok (.ret (.bool true))) s)
    (fun _ _ _ _ _ hs => issubclass_outer (iscn_str_tup hs.1 hcs hs.2)) ⟨htp, hq⟩
end
end Mine
end
section
open PySem PySem.W PySem.Calls PyProof.Rows
set_option maxRecDepth 100000
namespace Mine
set_option maxHeartbeats 8000000 in
theorem fspath_ok {w : World} {mean : ExcName → Option Value} {mg mb : Str → Option Value} (x : Str) (tx : Tok) :
    Cl w mean mg mb 2 126 [.str x tx] (fun _ => True) (fun r own => own = [] ∧ r = .str x tx) := by
  w_top off
  k_with_none
  (k_with "call builtin:issubclass" => (k_here; k_dflt (refine issubclass_str_tup (News.get (by k_asm) (by k_mem)) rfl ?_); k_whole))
  (
    unfold Cl; k_fill; intro dp un gd cn cs a ccd cl outer A₀ base h₀ L m news s Q E B F X N T hk hpre hdp hun hret
    k_dflt (refine' call_clean B F X N T ?kA ?kF ?kK ?k6 ?k7 ?k8 ?k9 ?kB ?c2 ?c3 ?c4 ?c5 hret ?_; (case kA => exact rfl); (case kF => exact rfl); (case kK => assumption); (case k6 => k_is); (case k7 => k_is); (case k8 => ktr_room); (case k9 => exact BindsTo.of_eq rfl); (case c5 => decide); (case kB => exact locs rfl); (case c2 => exact rfl); (case c3 => exact rfl); (case c4 => exact rfl); k_whole)
    intro L' h' tk F' N' B' X' T' htk0 htk1
    clear hret B X T F N
    have htk : 1 ≤ tk := htk1 (List.cons_ne_nil _ _)
    clear htk1
    (try dsimp only); (try k_lift B'); (try k_fold))
  k_steps
  refine Done.intro [] (by k_asm) (by k_asm) (fun _ h => nomatch h) ⟨rfl, rfl⟩
end Mine
end
section
open PySem PySem.W PySem.Calls PyProof.Rows
set_option maxRecDepth 100000
namespace Mine
/-- what splitroot tells: the slashes ahead, the rest -/
noncomputable def rootOf (x : Str) : Str × Str :=
  if (Txt.slice x none (some 1) != Str.ofString "/") = true then (Str.ofString "", x)
  else if (Txt.slice x (some 1) (some 2) != Str.ofString "/") = true then (Str.ofString "/", Txt.slice x (some 1) none)
  else if (Txt.slice x (some 2) (some 3) == Str.ofString "/") = true then (Str.ofString "/", Txt.slice x (some 1) none)
  else (Txt.slice x none (some 2), Txt.slice x (some 2) none)
set_option maxHeartbeats 8000000 in
theorem splitroot_ok {w : World} {mean : ExcName → Option Value} {mg mb : Str → Option Value} (x : Str) (tx : Tok) :
    Cl w mean mg mb 4 133 [.str x tx] (fun _ => x.length ≤ 1048576) (fun r own => ∃ l t u v, r = .ref l ∧ own = [(l, tupObj [.str (Str.ofString "") t, .str (rootOf x).1 u, .str (rootOf x).2 v])]) := by
  w_top off
  k_with_none
  (k_with "call ref" => (
      k_here
      (with_reducible show wpAny _ _ (call (Value.ref 126) [Value.str _ _]) _ _ _)
      k_dflt (refine' Cl.useV (fspath_ok _ _) ?k1 ?k2 ?k3 ?k4 ?k5 ?k6 ?k7 ?k8 ?k9 ?_; (case k1 => k_asm); (case k2 => k_asm); (case k3 => k_asm); (case k4 => k_asm); (case k5 => k_asm); (case k6 => first | exact rfl | assumption); (case k7 => trivial); (case k8 => ktr_room); (case k9 => ktr_units); k_whole)
      intro h9 tk9 F9 N9
      (try dsimp only)
      (try k_fold)))
  (
    unfold Cl; k_fill; intro dp un gd cn cs a ccd cl outer A₀ base h₀ L m news s Q E B F X N T hk hpre hdp hun hret
    k_dflt (refine' call_clean B F X N T ?kA ?kF ?kK ?k6 ?k7 ?k8 ?k9 ?kB ?c2 ?c3 ?c4 ?c5 hret ?_; (case kA => exact rfl); (case kF => exact rfl); (case kK => assumption); (case k6 => k_is); (case k7 => k_is); (case k8 => ktr_room); (case k9 => exact BindsTo.of_eq rfl); (case c5 => decide); (case kB => exact locs rfl); (case c2 => exact rfl); (case c3 => exact rfl); (case c4 => exact rfl); k_whole)
    intro L' h' tk F' N' B' X' T' htk0 htk1
    clear hret B X T F N
    have htk : 1 ≤ tk := htk1 (List.cons_ne_nil _ _)
    clear htk1
    (try dsimp only); (try k_lift B'); (try k_fold))
  k_steps
  all_goals (refine Done.intro _ (by k_asm) (by k_asm) (fun _ h => h) ?_)
  · rw [show rootOf x = (Str.ofString "", x) by unfold rootOf; rw [if_pos (by assumption)]]; exact ⟨_, _, _, _, rfl, rfl⟩
  · rw [show rootOf x = (Str.ofString "/", Txt.slice x (some 1) none) by unfold rootOf; rw [if_neg (by simp only [*]; decide), if_pos (by assumption)]]; exact ⟨_, _, _, _, rfl, rfl⟩
  · rw [show rootOf x = (Str.ofString "/", Txt.slice x (some 1) none) by unfold rootOf; rw [if_neg (by simp only [*]; decide), if_neg (by simp only [*]; decide), if_pos (by assumption)]]; exact ⟨_, _, _, _, rfl, rfl⟩
  · rw [show rootOf x = (Txt.slice x none (some 2), Txt.slice x (some 2) none) by unfold rootOf; rw [if_neg (by simp only [*]; decide), if_neg (by simp only [*]; decide), if_neg (by simp only [*]; decide)]]; exact ⟨_, _, _, _, rfl, rfl⟩
end Mine
end
section
open PySem PySem.W PySem.Calls PyProof.Rows
set_option maxRecDepth 100000
namespace Mine
section
variable {prog : Program} {w : World} {A : Around} {E : Value → Shared → Prop} {s : Shared} {env : Env} {h₀ : Heap} {x : Str} {body : List Stmt} {Q : Flow → Shared → Prop}

theorem strs_get {vs : List Value} {xs : List Str} (h : StrsAre vs xs) : ∀ {i : Nat} {v : Value}, vs[i]? = some v → ∃ y t, xs[i]? = some y ∧ v = .str y t := by
  induction h with
  | nil => intro i v e; cases e
  | cons y t _ ih =>
    intro i v e
    cases i with
    | zero => exact ⟨y, t, rfl, (Option.some.inj e).symm⟩
    | succ i => exact ih e
theorem strs_len {vs : List Value} {xs : List Str} (h : StrsAre vs xs) : vs.length = xs.length := by
  induction h with
  | nil => rfl
  | cons _ _ _ ih => rw [List.length_cons, List.length_cons, ih]

/-- the state of a loop over texts that fills one list of texts -/
noncomputable def TxS (D : Addr) (rest : List (Addr × Obj)) (x : Str) (m₀ : Str → Option Value) (ys : List Str) (m : Str → Option Value) (nx : List (Addr × Obj)) : Prop :=
  (∃ us c, nx = (D, listOf us.toArray c) :: rest ∧ StrsAre us ys) ∧ ∀ z, z ≠ x → m z = m₀ z

theorem fr_var {L : Addr} {h : Heap} {m m₀ : Str → Option Value} {v : Value} (F : Fr h₀ L h (fun y => if y = x then some v else m y)) (hm : ∀ z, z ≠ x → m z = m₀ z) : Fr h₀ L h (fun y => if y = x then some v else m₀ y) := by
  have e : (fun y => if y = x then some v else m y) = fun y => if y = x then some v else m₀ y := by
    funext y
    by_cases hy : y = x
    · simp [hy]
    · simp [hy, hm y hy]
  rw [← e]; exact F

theorem for_texts {l D : Addr} {vs us₀ : List Value} {xs ys₀ : List Str} {nn c₀ : Nat} {m₀ : Str → Option Value} {rest : List (Addr × Obj)} (step : List Str → Str → List Str)
    (hh : A.handled = none) (hl : (l, listOf vs.toArray nn) ∈ rest) (hx : StrsAre vs xs) (F : Fr h₀ env.locals s.heap m₀) (N : News h₀ env.locals s.heap ((D, listOf us₀.toArray c₀) :: rest)) (hu : StrsAre us₀ ys₀)
    (turn : ∀ (pre : List Str) (y : Str) (post : List Str) (t : Tok) (us : List Value) (c : Nat) (h : Heap) (tk : Nat) (own : List (Addr × Obj)), xs = pre ++ y :: post → StrsAre us (pre.foldl step ys₀) → OwnOff own (D :: rest.map (·.1)) →
      Fr h₀ env.locals h (fun z => if z = x then some (.str y t) else m₀ z) → News h₀ env.locals h ((D, listOf us.toArray c) :: (rest ++ own)) →
      wpAny (model prog w) A (execs body env) (InvPostG h₀ env.locals (TxS D rest x m₀ ((pre ++ [y]).foldl step ys₀)) own { s with heap := h, toks := tk } Q) E { s with heap := h, toks := tk })
    (done : ∀ (us : List Value) (c : Nat) (u : Str → Option Value) (h : Heap) (tk : Nat), StrsAre us (xs.foldl step ys₀) → Fr h₀ env.locals h (fun z => if z = x then u z else m₀ z) → News h₀ env.locals h ((D, listOf us.toArray c) :: rest) → Q .next { s with heap := h, toks := tk }) :
    wpAny (model prog w) A (pyIter (.ref l)) (fun it s₂ => LoopAtV prog w A h₀ env x body Q E it s₂) E s := by
  refine kdl_iter (nn := nn) (vs := vs) (fun i m nx => TxS D rest x m₀ ((xs.take i).foldl step ys₀) m nx) hh (.tail _ hl) F N ⟨⟨us₀, c₀, rfl, by simpa using hu⟩, fun _ _ => rfl⟩ ?_ ?_
  · rintro i v m₁ nx h tk own hv hoff _ ⟨⟨us, c, rfl, hus⟩, hm⟩ F₁ N₁
    obtain ⟨y, t, hy, rfl⟩ := strs_get hx hv
    have hs : xs.take (i + 1) = xs.take i ++ [y] := by simp [List.take_add_one, hy]
    have e : xs = xs.take i ++ y :: xs.drop (i + 1) := by
      have ht := List.take_append_drop (i + 1) xs
      rw [hs, List.append_assoc] at ht
      exact ht.symm
    rw [hs]
    refine wpAny_mono (turn (xs.take i) y _ t us c h tk own e hus hoff (fr_var F₁ hm) N₁) (fun f s₂ p => ?_) fun _ _ e => e
    have hmem : ∀ m' nx, TxS D rest x m₀ ((xs.take i ++ [y]).foldl step ys₀) m' nx → (l, listOf vs.toArray nn) ∈ nx := by
      rintro m' nx ⟨⟨us, c, rfl, _⟩, _⟩; exact .tail _ hl
    cases f with
    | ret v => exact p
    | brk => exact p
    | next =>
      obtain ⟨h', tk, m', news', nx, e, F', N', hn, ho, ha, hj⟩ := p
      exact ⟨h', tk, m', news', nx, e, F', N', hn, ho, ha, hmem _ _ hj, hj⟩
    | cont =>
      obtain ⟨h', tk, m', news', nx, e, F', N', hn, ho, ha, hj⟩ := p
      exact ⟨h', tk, m', news', nx, e, F', N', hn, ho, ha, hmem _ _ hj, hj⟩
  · rintro m₁ nx h tk ⟨⟨us, c, rfl, hus⟩, hm⟩ F₁ N₁
    rw [strs_len hx, List.take_length] at hus
    refine done us c m₁ h tk hus ?_ N₁
    have e : (fun z => if z = x then m₁ z else m₀ z) = m₁ := by
      funext z
      by_cases h1 : z = x
      · simp [h1]
      · simp [h1, hm z h1]
    rw [e]; exact F₁

theorem tx_end {D L : Addr} {rest own news' : List (Addr × Obj)} {m₀ m' : Str → Option Value} {ys zs : List Str} {us : List Value} {c : Nat} {s₁ : Shared} {h' : Heap} {tk : Nat}
    (F : Fr h₀ L h' m') (N : News h₀ L h' news') (hn : ∀ p ∈ (D, listOf us.toArray c) :: (rest ++ own), p ∈ news') (hoff : OwnOff own (D :: rest.map (·.1))) (hu : StrsAre us zs) (e : zs = ys) (hm : ∀ z, z ≠ x → m' z = m₀ z) :
    InvEndG h₀ L (TxS D rest x m₀ ys) own s₁ { s₁ with heap := h', toks := tk } :=
  ⟨h', tk, m', news', (D, listOf us.toArray c) :: rest, rfl, F, N, fun p hp => hn p ((List.mem_cons.mp hp).elim (fun h => h ▸ .head _) fun h => .tail _ (List.mem_append_left _ h)),
    fun p hp => hn p (.tail _ (List.mem_append_right _ hp)), hoff, ⟨⟨us, c, rfl, e ▸ hu⟩, hm⟩⟩

/-- split, its list on the ledger -/
theorem split_N {L : Addr} {m : Str → Option Value} {news : List (Addr × Obj)} {x y : Str} {t u : Tok} {Q : Value → Shared → Prop} (hF : Fr h₀ L s.heap m) (hN : News h₀ L s.heap news) (hy : (y.length == 0) = false) (hsz : x.length ≤ 1048576)
    (h : ∀ D vs h' k, StrsAre vs (Txt.split x y) → Fr h₀ L h' m → News h₀ L h' ((D, listOf vs.toArray 0) :: news) → (∀ p ∈ news, p.1 < D) → Q (.ref D) { s with heap := h', toks := k }) :
    wpAny (model prog w) A (call (.builtin "str.split") [.str x t, .str y u]) Q E s :=
  KSpl.split1 hF hN hy (fun D l h' k e a F' N' d => h D (strValues l) h' k (e ▸ a) F' N' d) (by rw [sizeLine_eq]; omega)
end
end Mine
end
section
open PySem PySem.W PySem.Calls PyProof.Rows
set_option maxRecDepth 100000
namespace Mine
section
variable {prog : Program} {w : World} {A : Around} {E : Value → Shared → Prop} {s : Shared} {h₀ : Heap} {L D : Addr} {m : Str → Option Value} {news tail : List (Addr × Obj)} {c : Nat} {us : List Value} {ys : List Str}

theorem strs_snoc {y : Str} {t : Tok} {us : List Value} {ys : List Str} (h : StrsAre us ys) : StrsAre (us ++ [.str y t]) (ys ++ [y]) := by
  induction h with
  | nil => exact .cons y t .nil
  | cons z u _ ih => exact .cons z u ih
theorem strs_app {us vs : List Value} {ys zs : List Str} (h : StrsAre us ys) (h' : StrsAre vs zs) : StrsAre (us ++ vs) (ys ++ zs) := by
  induction h with
  | nil => exact h'
  | cons z u _ ih => exact .cons z u ih
theorem strs_last {us : List Value} {ys : List Str} (h : StrsAre us ys) : ys ≠ [] → ∃ t, us = us.dropLast ++ [.str (ys.getLastD Str.empty) t] ∧ StrsAre us.dropLast ys.dropLast := by
  induction h with
  | nil => intro h; exact absurd rfl h
  | cons y t r ih =>
    intro _
    cases r with
    | nil => exact ⟨t, rfl, .nil⟩
    | cons y' t' r' =>
      obtain ⟨u, h1, h2⟩ := ih (List.cons_ne_nil _ _)
      exact ⟨u, congrArg (List.cons (Value.str y t)) h1, .cons y t h2⟩
theorem strs_drop {us : List Value} {ys : List Str} (h : StrsAre us ys) : ∀ n, StrsAre (us.drop n) (ys.drop n) := by
  induction h with
  | nil => intro n; rw [List.drop_nil, List.drop_nil]; exact .nil
  | cons y t r ih =>
    intro n
    cases n with
    | zero => exact .cons y t r
    | succ n => exact ih n
theorem strs_take {us : List Value} {ys : List Str} (h : StrsAre us ys) : ∀ n, StrsAre (us.take n) (ys.take n) := by
  induction h with
  | nil => intro n; rw [List.take_nil, List.take_nil]; exact .nil
  | cons y t r ih =>
    intro n
    cases n with
    | zero => exact .nil
    | succ n => exact .cons y t (ih n)

theorem append_T {y : Str} {t : Tok} {Q : Value → Shared → Prop} (F : Fr h₀ L s.heap m) (N : News h₀ L s.heap ((D, listOf us.toArray c) :: tail)) (hu : StrsAre us ys) (hz : us.length ≤ 65536) (hD : ∀ p ∈ tail, p.1 ≠ D)
    (h : ∀ us' c' h', StrsAre us' (ys ++ [y]) → us'.length ≤ us.length + 1 → Fr h₀ L h' m → News h₀ L h' ((D, listOf us'.toArray c') :: tail) → Q .none { s with heap := h' }) : wpAny (model prog w) A (call (.builtin "list.append") [.ref D, .str y t]) Q E s := by
  refine append_K F N (Upd.head hD) (fun h' F' N' => h (us ++ [.str y t]) (c + 1) h' (strs_snoc hu) (by simp) F' ?_) (by rw [sizeLine_eq, List.size_toArray]; omega)
  have e : us.toArray.push (Value.str y t) = (us ++ [Value.str y t]).toArray := by simp
  rw [← e]; exact N'

theorem pop_T {Q : Value → Shared → Prop} (F : Fr h₀ L s.heap m) (N : News h₀ L s.heap ((D, listOf us.toArray c) :: tail)) (hu : StrsAre us ys) (hz : us.length ≤ 65536) (hD : ∀ p ∈ tail, p.1 ≠ D) (hne : ys.isEmpty = false)
    (h : ∀ us' c' h' v, StrsAre us' ys.dropLast → Fr h₀ L h' m → News h₀ L h' ((D, listOf us'.toArray c') :: tail) → Q v { s with heap := h' }) : wpAny (model prog w) A (call (.builtin "list.pop") [.ref D]) Q E s := by
  obtain ⟨t, h1, h2⟩ := strs_last hu (fun e => by rw [e] at hne; cases hne)
  refine kl_pop (p := us.dropLast) (y := .str (ys.getLastD Str.empty) t) F N ?_ (Upd.head hD) (by rw [sizeLine_eq]; simp; omega) fun h' F' N' => h _ _ h' _ h2 F' N'
  have e := kpa_last (.str (ys.getLastD Str.empty) t) us.dropLast
  rw [← h1] at e
  exact e

theorem truthy_T {Q : Bool → Shared → Prop} (N : News h₀ L s.heap news) (hm : (D, listOf us.toArray c) ∈ news) (hu : StrsAre us ys) (hz : us.length ≤ 65536)
    (h : ∀ k, Q (!ys.isEmpty) { s with toks := k }) : wpAny (model prog w) A (truthy (.ref D)) Q E s := by
  refine wpAny_truthy_list (l := D) (items := us.toArray) ⟨_, (N _ hm).1, rfl, c, rfl⟩ (by rw [List.size_toArray]; omega) ?_
  have e : us.toArray.isEmpty = ys.isEmpty := by
    cases hu with
    | nil => rfl
    | cons _ _ _ => simp [Array.isEmpty]
  rw [e]; exact h _

theorem last_T {value slice : Expr} {u : Tok} {Q : Value → Shared → Prop} (N : News h₀ L s.heap news) (hm : (D, listOf us.toArray c) ∈ news) (hu : StrsAre us ys) (hne : ys.isEmpty = false)
    (h : ∀ t, Q (.str (ys.getLastD Str.empty) t) s)
    (hs : subscripted slice false (.ref D) (.int (-1) u) = operate [.ref D, .int (-1) u] (getItem (.ref D) (.int (-1) u)) := by with_unfolding_all rfl) :
    wpAny (model prog w) A (subscriptTail value slice (.ref D) (.int (-1) u)) Q E s := by
  obtain ⟨t, h1, h2⟩ := strs_last hu (fun e => by rw [e] at hne; cases hne)
  have hl : s.heap.IsList D us.toArray := ⟨_, (N _ hm).1, rfl, c, rfl⟩
  have hlen : us.length = us.dropLast.length + 1 := by
    have := congrArg List.length h1
    rw [List.length_append] at this
    exact this
  refine tail_any hl.typeIs slot_list_getitem.lookup (wpAny_getItem_list_neg (x := .str (ys.getLastD Str.empty) t) hl (by decide) (by rw [List.size_toArray]; omega) (by decide) ?_ (h t)) hs
  have e : (-1 + (us.toArray.size : Int)).toNat = us.dropLast.length := by rw [List.size_toArray]; omega
  rw [e, List.getElem?_toArray, h1]
  simp
end
end Mine
end
section
open PySem PySem.W PySem.Calls PyProof.Rows
set_option maxRecDepth 100000
namespace Mine

theorem rootOf_len (x : Str) : (rootOf x).1.length ≤ x.length + 1 ∧ (rootOf x).2.length ≤ x.length := by
  unfold rootOf
  split
  · exact ⟨Nat.zero_le _, Nat.le_refl _⟩
  · split
    · exact ⟨by show 1 ≤ _; omega, Txt.slice_le _ _ _⟩
    · split
      · exact ⟨by show 1 ≤ _; omega, Txt.slice_le _ _ _⟩
      · exact ⟨Nat.le_succ_of_le (Txt.slice_le _ _ _), Txt.slice_le _ _ _⟩

/-- one turn of normpath's loop -/
noncomputable def normStep (init : Bool) (st : List Str) (c : Str) : List Str :=
  if ((c.length : Int) != 0) = false then st
  else if (c == Str.ofString ".") = true then st
  else if (c != Str.ofString "..") = true then st ++ [c]
  else if (!init && st.isEmpty) = true then st ++ [c]
  else if (!st.isEmpty && st.getLastD Str.empty == Str.ofString "..") = true then st ++ [c]
  else st.dropLast
section
variable {i : Bool} {st : List Str} {y r : Str}
theorem ns0 (h : (y.length : Int) = 0) : st = normStep i st y := by unfold normStep; rw [if_pos (by rw [h]; rfl)]
theorem ns1 (h : (y.length : Int) ≠ 0) (h1 : (y == Str.ofString ".") = true) : st = normStep i st y := by
  unfold normStep; rw [if_neg (by rw [bne_iff_ne.mpr h]; decide), if_pos h1]
theorem ns2 (h : (y.length : Int) ≠ 0) (h1 : (y == Str.ofString ".") = false) (h2 : (y != Str.ofString "..") = true) : st ++ [y] = normStep i st y := by
  unfold normStep; rw [if_neg (by rw [bne_iff_ne.mpr h]; decide), if_neg (by rw [h1]; decide), if_pos h2]
theorem ns3 (h : (y.length : Int) ≠ 0) (h1 : (y == Str.ofString ".") = false) (h2 : (y != Str.ofString "..") = false) (h3 : (r.length : Int) ≠ 0) (h4 : st.isEmpty = true) : st = normStep ((r.length : Int) != 0) st y := by
  unfold normStep
  rw [if_neg (by rw [bne_iff_ne.mpr h]; decide), if_neg (by rw [h1]; decide), if_neg (by rw [h2]; decide), if_neg (by rw [bne_iff_ne.mpr h3]; simp), if_neg (by rw [h4]; simp), List.isEmpty_iff.mp h4]; rfl
theorem ns4 (h : (y.length : Int) ≠ 0) (h1 : (y == Str.ofString ".") = false) (h2 : (y != Str.ofString "..") = false) (h4 : st.isEmpty = false) (h5 : (st.getLastD Str.empty == Str.ofString "..") = true) : st ++ [y] = normStep i st y := by
  unfold normStep
  rw [if_neg (by rw [bne_iff_ne.mpr h]; decide), if_neg (by rw [h1]; decide), if_neg (by rw [h2]; decide), if_neg (by rw [h4]; simp), if_pos (by rw [h4, h5]; rfl)]
theorem ns5 (h : (y.length : Int) ≠ 0) (h1 : (y == Str.ofString ".") = false) (h2 : (y != Str.ofString "..") = false) (h4 : st.isEmpty = false) (h5 : (st.getLastD Str.empty == Str.ofString "..") = false) : st.dropLast = normStep i st y := by
  unfold normStep
  rw [if_neg (by rw [bne_iff_ne.mpr h]; decide), if_neg (by rw [h1]; decide), if_neg (by rw [h2]; decide), if_neg (by rw [h4]; simp), if_neg (by rw [h4, h5]; decide)]
theorem ns6 (h : (y.length : Int) ≠ 0) (h1 : (y == Str.ofString ".") = false) (h2 : (y != Str.ofString "..") = false) (h3 : (r.length : Int) = 0) (h4 : st.isEmpty = true) : st ++ [y] = normStep ((r.length : Int) != 0) st y := by
  unfold normStep
  rw [if_neg (by rw [bne_iff_ne.mpr h]; decide), if_neg (by rw [h1]; decide), if_neg (by rw [h2]; decide), if_pos (by rw [h3, h4]; rfl)]
end
theorem normStep_len (init : Bool) (st : List Str) (c : Str) : (normStep init st c).length ≤ st.length + 1 := by
  unfold normStep
  repeat' split
  all_goals simp
  all_goals omega
theorem fold_len {step : List Str → Str → List Str} (hs : ∀ st y, (step st y).length ≤ st.length + 1) : ∀ (xs st : List Str), (xs.foldl step st).length ≤ st.length + xs.length
  | [], st => Nat.le_refl _
  | x :: xs, st => by
    rw [List.foldl_cons, List.length_cons]
    have h1 := fold_len hs xs (step st x)
    have h2 := hs st x
    omega
section
variable {prog : Program} {w : World} {A : Around} {E : Value → Shared → Prop} {s : Shared} {env : Env} {h₀ : Heap} {x : Str} {body : List Stmt} {Q : Flow → Shared → Prop}
theorem norm_loop {r : Str} {tr : Tok} {l D : Addr} {vs : List Value} {xs : List Str} {nn c₀ : Nat} {m₀ : Str → Option Value} {rest : List (Addr × Obj)}
    (hh : A.handled = none) (hl : (l, listOf vs.toArray nn) ∈ rest) (hx : StrsAre vs xs) (F : Fr h₀ env.locals s.heap m₀) (N : News h₀ env.locals s.heap ((D, listOf #[] c₀) :: rest))
    (hb : ∀ y ∈ xs, y.length ≤ 1048576) (hn : xs.length ≤ 65536) (hD : ∀ p ∈ rest, p.1 ≠ D) (_hr : m₀ (Str.ofString "initial_slashes") = some (.str r tr))
    (turn : ∀ (st : List Str) (y : Str) (t : Tok) (us : List Value) (c : Nat) (h : Heap) (tk : Nat) (own : List (Addr × Obj)), y.length ≤ 1048576 → StrsAre us st → us.length ≤ 65536 → OwnOff own (D :: rest.map (·.1)) → (∀ p ∈ rest ++ own, p.1 ≠ D) →
      Fr h₀ env.locals h (fun z => if z = x then some (.str y t) else m₀ z) → News h₀ env.locals h ((D, listOf us.toArray c) :: (rest ++ own)) →
      wpAny (model prog w) A (execs body env) (InvPostG h₀ env.locals (TxS D rest x m₀ (normStep ((r.length : Int) != 0) st y)) own { s with heap := h, toks := tk } Q) E { s with heap := h, toks := tk })
    (done : ∀ (us : List Value) (c : Nat) (u : Str → Option Value) (h : Heap) (tk : Nat), StrsAre us (xs.foldl (normStep ((r.length : Int) != 0)) []) → us.length ≤ 65536 → Fr h₀ env.locals h (fun z => if z = x then u z else m₀ z) → News h₀ env.locals h ((D, listOf us.toArray c) :: rest) → Q .next { s with heap := h, toks := tk }) :
    wpAny (model prog w) A (pyIter (.ref l)) (fun it s₂ => LoopAtV prog w A h₀ env x body Q E it s₂) E s := by
  refine for_texts (us₀ := []) (ys₀ := []) (normStep ((r.length : Int) != 0)) hh hl hx F N .nil (fun pre y post t us c h tk own e hus hoff F' N' => ?_) (fun us c u h tk hus F' N' => ?_)
  · rw [List.foldl_append]
    have h1 := fold_len (normStep_len ((r.length : Int) != 0)) pre []
    have h2 := strs_len hus
    have h3 := congrArg List.length e
    rw [List.length_append, List.length_cons] at h3
    rw [List.length_nil] at h1
    refine turn _ y t us c h tk own (hb y (by rw [e]; simp)) hus (by omega) hoff (fun p hp => ?_) F' N'
    rcases List.mem_append.mp hp with hp | hp
    · exact hD p hp
    · exact hoff p hp D (.head _)
  · have h1 := fold_len (normStep_len ((r.length : Int) != 0)) xs []
    have h2 := strs_len hus
    rw [List.length_nil] at h1
    exact done us c u h tk hus (by omega) F' N'
end

/-- a list's weight: its signs and its items -/
noncomputable def wt (ys : List Str) : Nat := (ys.map (·.length)).sum + ys.length
theorem wt_nil : wt [] = 0 := rfl
theorem wt_cons (y : Str) (ys : List Str) : wt (y :: ys) = y.length + 1 + wt ys := by simp only [wt, List.map_cons, List.sum_cons, List.length_cons]; omega
theorem wt_app (xs ys : List Str) : wt (xs ++ ys) = wt xs + wt ys := by
  induction xs with
  | nil => rw [List.nil_append, wt_nil]; omega
  | cons x r ih => rw [List.cons_append, wt_cons, wt_cons, ih]; omega
theorem wt_len (ys : List Str) : ys.length ≤ wt ys := Nat.le_add_left _ _
theorem wt_mem {y : Str} {ys : List Str} (h : y ∈ ys) : y.length ≤ wt ys := by
  induction ys with
  | nil => cases h
  | cons z r ih =>
    rw [wt_cons]
    rcases List.mem_cons.mp h with e | e
    · rw [e]; omega
    · have := ih e; omega
theorem wt_dropLast (ys : List Str) : wt ys.dropLast ≤ wt ys := by
  induction ys with
  | nil => exact Nat.le_refl _
  | cons y r ih =>
    cases r with
    | nil => exact Nat.zero_le _
    | cons z r' =>
      have e : (y :: z :: r').dropLast = y :: (z :: r').dropLast := rfl
      rw [e, wt_cons, wt_cons]; omega
theorem wt_split (x : Str) : wt (Txt.split x (Str.ofString "/")) ≤ x.length + 1 := PyProof.Rows.split_weight x (Str.ofString "/") (by decide +kernel)
theorem normStep_wt (init : Bool) (st : List Str) (c : Str) : wt (normStep init st c) ≤ wt st + (c.length + 1) := by
  have h1 := wt_app st [c]
  have h2 := wt_cons c []
  have h3 := wt_dropLast st
  rw [wt_nil] at h2
  unfold normStep
  repeat' split
  all_goals omega
theorem fold_wt {step : List Str → Str → List Str} (hs : ∀ st y, wt (step st y) ≤ wt st + (y.length + 1)) : ∀ (xs st : List Str), wt (xs.foldl step st) ≤ wt st + wt xs
  | [], st => Nat.le_refl _
  | x :: xs, st => by
    rw [List.foldl_cons, wt_cons]
    have h1 := fold_wt hs xs (step st x)
    have h2 := hs st x
    omega
theorem join_wt (ys : List Str) : (Str.join (Str.ofString "/") ys).length ≤ wt ys := by
  have h := StrLaws.join_length_le (Str.ofString "/") ys
  have e : (Str.ofString "/").length = 1 := by decide +kernel
  rw [e, Nat.mul_one] at h
  exact h
section
variable {prog : Program} {w : World} {A : Around} {E : Value → Shared → Prop} {s : Shared} {h₀ : Heap} {L D : Addr} {news : List (Addr × Obj)} {c : Nat} {us : List Value} {ys : List Str}
theorem join_T {t : Tok} {Q : Value → Shared → Prop} (N : News h₀ L s.heap news) (hm : (D, listOf us.toArray c) ∈ news) (hu : StrsAre us ys) (hw : wt ys ≤ 1048576)
    (h : ∀ t' k, (Str.join (Str.ofString "/") ys).length ≤ 1048576 → Q (.str (Str.join (Str.ofString "/") ys) t') { s with toks := k }) : wpAny (model prog w) A (call (.builtin "str.join") [.str (Str.ofString "/") t, .ref D]) Q E s := by
  refine join_listW (D := D) (items := us.toArray) ⟨_, (N _ hm).1, rfl, c, rfl⟩ hu (by decide +kernel) hw fun t' k => ?_
  have e : Txt.join (Str.ofString "/") ys = Str.join (Str.ofString "/") ys := StrLaws.glued_eq_join _ _
  rw [e]
  exact h t' k (Nat.le_trans (join_wt ys) hw)
theorem add_T {x y : Str} {t u : Tok} {Q : Value → Shared → Prop} (hz : x.length + y.length ≤ 4000000) (h : ∀ t' k, (x ++ y).length = x.length + y.length → Q (.str (x ++ y) t') { s with toks := k }) : wpAny (model prog w) A (binaryOp .Add (.str x t) (.str y u)) Q E s :=
  add_str (fun t' k => h t' k (Str.length_append x y)) (by rw [sizeLine_eq]; omega)
end
/-- what normpath tells -/
noncomputable def normTail (x : Str) : Str := (rootOf x).1 ++ Str.join (Str.ofString "/") ((Txt.split (rootOf x).2 (Str.ofString "/")).foldl (normStep (((rootOf x).1.length : Int) != 0)) [])
noncomputable def norm (x : Str) : Str := if (x.length : Int) = 0 then Str.ofString "." else if ((normTail x).length : Int) = 0 then Str.ofString "." else normTail x
end Mine
end
section
open PySem PySem.W PySem.Calls PyProof.Rows
set_option maxRecDepth 100000
namespace Mine
noncomputable abbrev nTail (x : Str) : Str := (rootOf x).1 ++ Str.join (Str.ofString "/") (List.foldl (normStep (((rootOf x).1.length : Int) != 0)) [] (Txt.split (rootOf x).2 (Str.ofString "/")))
theorem norm_a {x : Str} (h : (x.length : Int) ≠ 0) (h2 : ((nTail x).length : Int) ≠ 0) : norm x = nTail x := by rw [norm, if_neg h]; exact if_neg h2
theorem norm_b {x : Str} (h : (x.length : Int) ≠ 0) (h2 : ((nTail x).length : Int) = 0) : norm x = Str.ofString "." := by rw [norm, if_neg h]; exact if_pos h2
theorem norm_c {x : Str} (h : (x.length : Int) = 0) : norm x = Str.ofString "." := by rw [norm, if_pos h]
theorem new_nil {prog : Program} {w : World} {A : Around} {E : Value → Shared → Prop} {s : Shared} {h₀ : Heap} {L : Addr} {m : Str → Option Value} {news : List (Addr × Obj)} {Q : Value → Shared → Prop} (F : Fr h₀ L s.heap m) (N : News h₀ L s.heap news)
    (h : ∀ l h', Fr h₀ L h' m → News h₀ L h' ((l, listOf #[] 0) :: news) → (∀ p ∈ news, p.1 < l) → Q (.ref l) { s with heap := h' }) : wpAny (model prog w) A (newList []) Q E s :=
  newList_K F N h (Nat.zero_le _)
set_option maxHeartbeats 8000000 in
theorem norm_ok {w : World} {mean : ExcName → Option Value} {mg mb : Str → Option Value} (x : Str) (tx : Tok) :
    Cl w mean mg mb 6 140 [.str x tx] (fun _ => x.length ≤ 60000) (fun r own => own = [] ∧ ∃ t, r = .str (norm x) t) := by
  w_top off
  k_with_none
  (k_with "call ref" => (
      k_here
      (with_reducible show wpAny _ _ (call (Value.ref 126) [Value.str _ _]) _ _ _)
      k_dflt (refine' Cl.useV (fspath_ok _ _) ?k1 ?k2 ?k3 ?k4 ?k5 ?k6 ?k7 ?k8 ?k9 ?_; (case k1 => k_asm); (case k2 => k_asm); (case k3 => k_asm); (case k4 => k_asm); (case k5 => k_asm); (case k6 => first | exact rfl | with_reducible assumption); (case k7 => trivial); (case k8 => ktr_room); (case k9 => ktr_units); k_whole)
      intro h9 tk9 F9 N9
      (try dsimp only)
      (try k_fold)))
  (k_with "call ref" => (
      k_here
      (with_reducible show wpAny _ _ (call (Value.ref 133) [Value.str _ _]) _ _ _)
      k_dflt (refine' Cl.use3 (splitroot_ok _ _) ?k1 ?k2 ?k3 ?k4 ?k5 ?k6 ?k7 ?k8 ?k9 ?_; (case k1 => k_asm); (case k2 => k_asm); (case k3 => k_asm); (case k4 => k_asm); (case k5 => k_asm); (case k6 => first | exact rfl | with_reducible assumption); (case k7 => with_reducible assumption); (case k8 => ktr_room); (case k9 => ktr_units); k_whole)
      intro l9 t9 u9 v9 h9 tk9 F9 N9 d9
      (try dsimp only)
      (try k_fold)))
  (k_with "call builtin:str.split" => (
      k_here
      (with_reducible show wpAny _ _ (call (Value.builtin "str.split") [Value.str _ _, Value.str _ _]) _ _ _)
      (refine split_N (by k_asm) (by k_asm) (by decide) (by first | with_reducible assumption | omega) ?_)
      intro D' vs' h' k' a' F' N' l1
      (try k_lt l1)))
  (k_with "call builtin:list.append" => (
      k_here
      (with_reducible show wpAny _ _ (call (Value.builtin "list.append") [Value.ref _, Value.str _ _]) _ _ _)
      k_dflt (refine append_T (by k_asm) (by k_asm) (by with_reducible assumption) (by with_reducible assumption) (by with_reducible assumption) ?_)
      intro us' c' h' a' e' F' N'))
  (k_with "call builtin:list.pop" => (
      k_here
      (with_reducible show wpAny _ _ (call (Value.builtin "list.pop") [Value.ref _]) _ _ _)
      k_dflt (refine pop_T (by k_asm) (by k_asm) (by with_reducible assumption) (by with_reducible assumption) (by with_reducible assumption) (by with_reducible assumption) ?_)
      intro us' c' h' v' a' F' N'))
  (k_with "truthy ref" => (
      k_here
      (with_reducible show wpAny _ _ (truthy (Value.ref _)) _ _ _)
      k_dflt (refine truthy_T (by k_asm) (by exact List.Mem.head _) (by with_reducible assumption) (by with_reducible assumption) ?_)
      intro k'))
  (k_with "truthy str" => (
      k_here
      (with_reducible show wpAny _ _ (truthy (Value.str _ _)) _ _ _)
      (refine KXt.truthy rfl (by omega) ?_)
      intro k'))
  (k_with "subscriptTail Name UnaryOp ref int" => (
      k_here
      (with_reducible show wpAny _ _ (subscriptTail _ _ (Value.ref _) (Value.int _ _)) _ _ _)
      k_dflt (refine last_T (by k_asm) (by exact List.Mem.head _) (by with_reducible assumption) (by with_reducible assumption) ?_)
      intro t'))
  (k_with "call builtin:str.join" => (
      k_here
      (with_reducible show wpAny _ _ (call (Value.builtin "str.join") [Value.str _ _, Value.ref _]) _ _ _)
      (refine join_T (by k_asm) (by k_mem) (by with_reducible assumption) (by with_reducible assumption) ?_)
      intro t' k' a'))
  (k_with "binaryOp Add str str" => (
      k_here
      (with_reducible show wpAny _ _ (binaryOp Operator.Add (Value.str _ _) (Value.str _ _)) _ _ _)
      (refine add_T (by omega) ?_)
      intro t' k' a'))
  (k_with "pyIter ref" => (
      k_here
      k_dflt (refine' norm_loop ?k1 ?k2 ?k3 ?k4 ?k5 ?k6 ?k7 ?k8 ?k9 ?_ ?_; (case k1 => exact rfl); (case k3 => with_reducible assumption);  (case k4 => k_asm); (case k5 => k_asm); (case k2 => k_mem); (case k6 => with_reducible assumption); (case k7 => with_reducible assumption); (case k8 => k_all); (case k9 => exact rfl))))
  (k_with "newList" => (
      k_here
      (with_reducible show wpAny _ _ (newList []) _ _ _)
      k_dflt (refine' new_nil ?k1 ?k2 ?_; (case k1 => with_reducible assumption); (case k2 => with_reducible assumption); k_whole)
      intro l' h' F' N' l1
      (try k_lt l1)))
  (
    unfold Cl; k_fill; intro dp un gd cn cs a ccd cl outer A₀ base h₀ L m news s Q E B F X N T hk hpre hdp hun hret
    k_dflt (refine' call_clean B F X N T ?kA ?kF ?kK ?k6 ?k7 ?k8 ?k9 ?kB ?c2 ?c3 ?c4 ?c5 hret ?_; (case kA => exact rfl); (case kF => exact rfl); (case kK => with_reducible assumption); (case k6 => k_is); (case k7 => k_is); (case k8 => ktr_room); (case k9 => exact BindsTo.of_eq rfl); (case c5 => decide); (case kB => exact locs rfl); (case c2 => exact rfl); (case c3 => exact rfl); (case c4 => exact rfl); k_whole)
    intro L' h' tk F' N' B' X' T' htk0 htk1
    clear hret B X T F N
    have htk : 1 ≤ tk := htk1 (List.cons_ne_nil _ _)
    clear htk1
    (try dsimp only); (try k_lift B'); (try k_fold))
  have hpre1 : x.length ≤ 1048576 := by omega
  have hlen := rootOf_len x
  have hlen1 : (rootOf x).2.length ≤ 1048576 := by omega
  have hlen2 : ∀ y ∈ Txt.split (rootOf x).2 (Str.ofString "/"), y.length ≤ 1048576 := fun y hy => Nat.le_trans (part_short hy) hlen1
  have hwt := wt_split (rootOf x).2
  have hlen3 : (Txt.split (rootOf x).2 (Str.ofString "/")).length ≤ 65536 := by have := wt_len (Txt.split (rootOf x).2 (Str.ofString "/")); omega
  have hlen4 : wt ((Txt.split (rootOf x).2 (Str.ofString "/")).foldl (normStep (((rootOf x).1.length : Int) != 0)) []) ≤ 1048576 := by
    have := fold_wt (normStep_wt (((rootOf x).1.length : Int) != 0)) (Txt.split (rootOf x).2 (Str.ofString "/")) []
    rw [wt_nil] at this
    omega
  k_steps
  all_goals try (
    with_reducible show InvEndG _ _ (TxS _ _ _ _ _) _ _ _
    refine tx_end (by k_asm) (by k_asm) (fun _ h => h) (by with_reducible assumption) (by with_reducible assumption) ?_ (fun z hz => if_neg hz)
    (first | exact ns0 (by with_reducible assumption) | exact ns1 (by with_reducible assumption) (by with_reducible assumption) | exact ns2 (by with_reducible assumption) (by with_reducible assumption) (by with_reducible assumption) | exact ns4 (by with_reducible assumption) (by with_reducible assumption) (by with_reducible assumption) (by with_reducible assumption) (by with_reducible assumption) | exact ns5 (by with_reducible assumption) (by with_reducible assumption) (by with_reducible assumption) (by with_reducible assumption) (by with_reducible assumption) | exact ns3 (by with_reducible assumption) (by with_reducible assumption) (by with_reducible assumption) (by with_reducible assumption) (by with_reducible assumption) | exact ns6 (by with_reducible assumption) (by with_reducible assumption) (by with_reducible assumption) (by with_reducible assumption) (by with_reducible assumption)))
  all_goals (with_reducible show Done _ _ _ _ _ _)
  · refine Done.intro [] (by k_asm) (by k_asm) (fun _ h => nomatch h) ?_
    rw [norm_a (by with_reducible assumption) (by with_reducible assumption)]; exact ⟨rfl, _, rfl⟩
  · refine Done.intro [] (by k_asm) (by k_asm) (fun _ h => nomatch h) ?_
    rw [norm_b (by with_reducible assumption) (by with_reducible assumption)]; exact ⟨rfl, _, rfl⟩
  · refine Done.intro [] (by k_asm) (by k_asm) (fun _ h => nomatch h) ?_
    rw [norm_c (by with_reducible assumption)]; exact ⟨rfl, _, rfl⟩
end Mine
end
section
open PySem PySem.W PySem.Calls PyProof.Rows
set_option maxRecDepth 100000
namespace Mine
set_option maxHeartbeats 8000000 in
theorem doubled_ok {w : World} {mean : ExcName → Option Value} {mg mb : Str → Option Value} (x : Str) (tx : Tok) :
    Cl w mean mg mb 2 154 [.str x tx] (fun _ => x.length ≤ 1048576) (fun r own => own = [] ∧ ∃ t, r = .str (Txt.replace x (Str.ofString "\"") (Str.ofString "\"\"")) t) := by
  w_top off
  k_with_none
  (
    unfold Cl; k_fill; intro dp un gd cn cs a ccd cl outer A₀ base h₀ L m news s Q E B F X N T hk hpre hdp hun hret
    k_dflt (refine' call_clean B F X N T ?kA ?kF ?kK ?k6 ?k7 ?k8 ?k9 ?kB ?c2 ?c3 ?c4 ?c5 hret ?_; (case kA => exact rfl); (case kF => exact rfl); (case kK => assumption); (case k6 => k_is); (case k7 => k_is); (case k8 => ktr_room); (case k9 => exact BindsTo.of_eq rfl); (case c5 => decide); (case kB => exact locs rfl); (case c2 => exact rfl); (case c3 => exact rfl); (case c4 => exact rfl); k_whole)
    intro L' h' tk F' N' B' X' T' htk0 htk1
    clear hret B X T F N
    have htk : 1 ≤ tk := htk1 (List.cons_ne_nil _ _)
    clear htk1
    (try dsimp only); (try k_lift B'); (try k_fold))
  k_steps
  refine SC.replaceW (by show @Ne Nat _ _; omega) (by show @Ne Nat _ _; omega) (by show @Ne Nat _ _; omega) (by decide +kernel) (by assumption) (by decide +kernel) ?_
  intro t' k'
  k_steps
  refine Done.intro [] (by k_asm) (by k_asm) (fun _ h => nomatch h) ⟨rfl, _, rfl⟩
end Mine
end
section
open PySem PySem.W PySem.Calls PyProof.Rows
set_option maxRecDepth 100000
namespace Mine
section
variable {prog : Program} {w : World} {A : Around} {E : Value → Shared → Prop} {s : Shared} {K : Frag} {e t C : Addr} {oe ot : Obj} {ws : Array Value} {nt : Nat} {x : Str} {tx : Tok}
open Builtin Builtin.Str Builtin.BaseException Builtin.Exceptions in
theorem exc_bstr {Q : Fin → Shared → Prop} (he : s.heap.get? e = some oe) (hd : oe.data = .fields ws) (h0 : ws[0]? = some (.ref t)) (ht : s.heap.get? t = some ot) (htd : ot.data = .seq [Value.str x tx].toArray nt)
    (hq : Q (.done (.ret (.str x tx))) s) : wpAny (model prog w) A (Builtin.«BaseException.__str__» ⟨[.ref e], []⟩) Q E s := by
  have hb : ∀ {A : Around} {E : Value → Shared → Prop} {Q : Value × List Value → Shared → Prop}, Q (.ref t, [.str x tx]) s → wpAny (model prog w) A (bexcArgs (.ref e)) Q E s := by
    intro A E Q h
    unfold bexcArgs
    refine wpAny_bind (wpAny_field he hd h0 (wpAny_bind (wpAny_seqItems ht htd ?_)))
    exact wpAny_pure h
  unfold Builtin.«BaseException.__str__»
  repeat (first | with_reducible refine hb ?_ | wp_step)
  exact hq
open Builtin Builtin.Str in
theorem exc_str {Q : Value → Shared → Prop} (hu : A.in1.in1.units < cLine) (X : K.In s.heap) (hs : findIn K (.ref C) "__str__" = some (some (.builtin "BaseException.__str__"))) (hm : mroIn K C (.type "BaseException") = some true)
    (he : s.heap.get? e = some oe) (hc : oe.cls = .ref C) (hd : oe.data = .fields ws) (h0 : ws[0]? = some (.ref t)) (ht : s.heap.get? t = some ot) (htd : ot.data = .seq [Value.str x tx].toArray nt)
    (h : Q (.str x tx) s) : wpAny (model prog w) A (call (.type "str") [.ref e]) Q E s := by
  have hty : Looks (model prog w) s.heap (typeOf (.ref e)) (.ref C) := by
    refine (Looks.ld (part := none) he).andThen ?_
    rw [hc]
    exact .now
  refine callType_codes (T := "str") (Bi := Builtin.«object.__init__») (Q₁ := fun r s₁ => ∃ y u, r = .str y u ∧ Q r s₁) PySem.F.called_str (PySem.F.typeCall_str_1 _) PySem.F.entry_object_init ?_ ?_
  · refine codeAny_of_tree ?_
    show wpAny _ A.in1.in1 (do checkBuiltinCall "str.__new__" ⟨[.type "str", .ref e], []⟩; again (.builtin "str.__new__" ⟨[.type "str", .ref e], []⟩)) _ _ s
    refine wpAny_bind (wpAny_of_eq (PySem.F.newCall_str_1 _) (wpAny_pure ⟨plainId_quiet (by decide +kernel) _, codeAny_builtin PySem.F.entry_str_new ?_⟩))
    rw [Around.under_plainId (by decide +kernel) _]
    rw [str_new_tree]
    refine wpAny_bind (wpAny_pure ?_)
    refine wpAny_bind (wpAny_of_eq isSubtype_str_str ?_)
    have key : wpAny (model prog w) A.in1.in1 (PySem.Builtin.Str.strOf (.ref e)) (fun r s₁ => ∃ y u, r = .str y u ∧ Q r s₁) E s := by
      unfold PySem.Builtin.Str.strOf
      rw [show isExactStr (.ref e) = false from rfl]
      refine wpAny_bind (m := cRoomFor _ _) (wpAny_cRoomFor hu ?_)
      refine wpAny_bind (m := callSpecial? (.ref e) (Str.ofString "__str__")) ?_
      refine wpAny_bind (wpAny_bind (hty.here ((looks_findIn X hs).here (wpAny_holding (wpAny_bind ((Looks.of_pure (PySem.F.excStr_Exception.str.bind _)).here (wpAny_bind ?_)))))))
      refine wpAny_call (codeAny_call_builtin PySem.F.excStr_Exception.str.plain PySem.F.entry_bexc_str (check_slot (i := "BaseException.__str__") (owner := "BaseException") (n := "__str__") (by decide +kernel) (by decide +kernel) (hty.andThen (looks_mroIn X hm)) (PySem.F.args_bexc_str _) ?_))
      refine exc_bstr he hd h0 ht htd ?_
      exact wpAny_pure (wpAny_pure ⟨_, _, rfl, h⟩)
    exact wpAny_bind (wpAny_mono key (fun r s₁ hr => wpAny_pure hr) fun _ _ y => y)
  · rintro obj s₁ ⟨y, u, rfl, hq⟩
    exact ⟨typeIs_str _ _ _, PySem.F.args_object_init_2 _ _, object_init_meets PySem.F.called_str.init.lookup PySem.F.called_str.made (by decide) prog w A.in1 _ s₁ ⟨typeIs_str _ _ _, rfl, hq⟩⟩
end
end Mine
end
section
open PySem PySem.W PySem.Calls PyProof.Rows
set_option maxRecDepth 100000
namespace Mine

/-- what parse257 reads behind the first quote: up to the first lone quote, doubled ones taken once -/
noncomputable def p257 : List Nat → List Nat
  | [] => []
  | c :: r => if c = 34 then (match r with
      | [] => []
      | c' :: r' => if c' = 34 then 34 :: p257 r' else []) else c :: p257 r
theorem p257_one {c : Nat} {r : List Nat} (h : c ≠ 34) : p257 (c :: r) = c :: p257 r := by
  cases r with
  | nil => simp [p257, h]
  | cons _ _ => simp [p257, h]
noncomputable def parseOf (x : Str) : Str := ⟨(p257 (x.cps.toList.drop 5)).toArray⟩

theorem drop_at {x : Str} {i : Nat} (h : i < x.length) : x.cps.toList.drop i = x.cps.getD i 0 :: x.cps.toList.drop (i + 1) := by
  have h' : i < x.cps.toList.length := by simpa [Str.length] using h
  rw [List.drop_eq_getElem_cons h']
  have h2 : i < x.cps.size := h
  simp [Array.getD, h2]
theorem drop_out {x : Str} {i : Nat} (h : ¬ i < x.length) : x.cps.toList.drop i = [] := by
  refine List.drop_eq_nil_of_le ?_
  have : x.cps.toList.length = x.length := by simp [Str.length]
  omega
theorem item_eq {x : Str} {i : Nat} (h : i < x.length) : Txt.item x (i : Int) = ⟨#[x.cps.getD i 0]⟩ := item_at (by omega) (by omega) (by omega)
theorem quote_eq : Str.ofString "\"" = ⟨#[34]⟩ := by decide +kernel
theorem item_q {x : Str} {i : Nat} (h : i < x.length) : (Txt.item x (i : Int) == Str.ofString "\"") = decide (x.cps.getD i 0 = 34) := by
  rw [item_eq h, quote_eq]
  by_cases q : x.cps.getD i 0 = 34
  · rw [q]; decide
  · have : (⟨#[x.cps.getD i 0]⟩ : Str) ≠ ⟨#[34]⟩ := fun e => q (by
      have := congrArg (fun z : Str => z.cps.getD 0 0) e
      simpa using this)
    rw [beq_eq_false_iff_ne.mpr this, decide_eq_false q]

/-- the loop's word -/
noncomputable def Pj (x d : Str) (i : Nat) : Prop := 5 ≤ i ∧ d.length ≤ i ∧ d.cps.toList ++ p257 (x.cps.toList.drop i) = p257 (x.cps.toList.drop 5)
theorem pj_end {x d : Str} {i : Nat} (h : Pj x d i) (hi : ¬ (i : Int) < x.length) : d = parseOf x := by
  obtain ⟨_, _, e⟩ := h
  rw [drop_out (by omega)] at e
  simp only [p257, List.append_nil] at e
  unfold parseOf
  rw [← e]
theorem pj_brk0 {x d : Str} {i : Nat} (h : Pj x d i) (hi : (i : Int) < x.length) (hq : (Txt.item x (i : Int) == Str.ofString "\"") = true) (h2 : ((i : Int) + 1) ≥ x.length) : d = parseOf x := by
  obtain ⟨_, _, e⟩ := h
  rw [item_q (by omega)] at hq
  have hq' := of_decide_eq_true hq
  rw [drop_at (by omega), hq', drop_out (i := i + 1) (by omega)] at e
  simp only [p257, if_true, List.append_nil] at e
  unfold parseOf
  rw [← e]
theorem pj_brk1 {x d : Str} {i : Nat} (h : Pj x d i) (hi : (i : Int) < x.length) (hq : (Txt.item x (i : Int) == Str.ofString "\"") = true) (h2 : ¬ ((i : Int) + 1) ≥ x.length) (h3 : (Txt.item x ((i : Int) + 1) != Str.ofString "\"") = true) : d = parseOf x := by
  obtain ⟨_, _, e⟩ := h
  rw [item_q (by omega)] at hq
  have hq' := of_decide_eq_true hq
  have h3' : (Txt.item x (((i + 1 : Nat)) : Int) == Str.ofString "\"") = false := by
    have := h3; simp only [bne, Bool.not_eq_true'] at this; exact_mod_cast this
  rw [item_q (by omega)] at h3'
  have h4 := of_decide_eq_false h3'
  rw [drop_at (by omega), hq', drop_at (i := i + 1) (by omega)] at e
  simp only [p257, if_true, if_neg h4, List.append_nil] at e
  unfold parseOf
  rw [← e]
theorem pj_two {x d : Str} {i : Nat} (h : Pj x d i) (hi : (i : Int) < x.length) (hq : (Txt.item x (i : Int) == Str.ofString "\"") = true) (h2 : ¬ ((i : Int) + 1) ≥ x.length) (h3 : (Txt.item x ((i : Int) + 1) != Str.ofString "\"") = false) : Pj x (d ++ Txt.item x (i : Int)) (i + 2) := by
  obtain ⟨a, b, e⟩ := h
  rw [item_q (by omega)] at hq
  have hq' := of_decide_eq_true hq
  have h3' : (Txt.item x (((i + 1 : Nat)) : Int) == Str.ofString "\"") = true := by
    have := h3; simp only [bne, Bool.not_eq_false'] at this; exact_mod_cast this
  rw [item_q (by omega)] at h3'
  have h4 := of_decide_eq_true h3'
  refine ⟨by omega, by rw [Str.length_append]; show d.length + 1 ≤ _; omega, ?_⟩
  rw [drop_at (by omega), hq', drop_at (i := i + 1) (by omega), h4] at e
  simp only [p257, if_true] at e
  rw [item_eq (by omega), hq', ← e, Str.cps_append]
  simp
theorem pj_one {x d : Str} {i : Nat} (h : Pj x d i) (hi : (i : Int) < x.length) (hq : (Txt.item x (i : Int) == Str.ofString "\"") = false) : Pj x (d ++ Txt.item x (i : Int)) (i + 1) := by
  obtain ⟨a, b, e⟩ := h
  rw [item_q (by omega)] at hq
  have hq' := of_decide_eq_false hq
  refine ⟨by omega, by rw [Str.length_append]; show d.length + 1 ≤ _; omega, ?_⟩
  rw [drop_at (by omega)] at e
  rw [p257_one hq'] at e
  rw [item_eq (by omega), ← e, Str.cps_append]
  simp

section
variable {prog : Program} {w : World} {A : Around} {E : Value → Shared → Prop} {Q : Flow → Shared → Prop} {s : Shared} {env : Env} {h₀ : Heap} {L : Addr}
noncomputable def nI : Str := Str.ofString "i"
noncomputable def nC : Str := Str.ofString "c"
noncomputable def nD : Str := Str.ofString "dirname"
noncomputable def PjS (x : Str) (m₀ : Str → Option Value) (news : List (Addr × Obj)) (n : Nat) (m : Str → Option Value) (nx : List (Addr × Obj)) : Prop :=
  nx = news ∧ ∃ (i : Nat) (d : Str) (ti td : Tok), m (Str.ofString "i") = some (.int i ti) ∧ m (Str.ofString "dirname") = some (.str d td) ∧ Pj x d i ∧ n = x.length - i ∧ ∀ z, z ≠ Str.ofString "c" → z ≠ Str.ofString "i" → z ≠ Str.ofString "dirname" → m z = m₀ z

theorem parse_while {x : Str} {test : Expr} {body : List Stmt} {pos : Pos} {m₀ : Str → Option Value} {news : List (Addr × Obj)} {t5 td0 : Tok}
    (F : Fr h₀ L s.heap m₀) (N : News h₀ L s.heap news) (hi0 : m₀ (Str.ofString "i") = some (.int 5 t5)) (hd0 : m₀ (Str.ofString "dirname") = some (.str (Str.ofString "") td0)) {tr : Tok} (_hr : m₀ (Str.ofString "resp") = some (.str x tr))
    (turn : ∀ (i : Nat) (d : Str) (ti td : Tok) (u : Str → Option Value) (h : Heap) (tk : Nat), Pj x d i → d.length ≤ i → Fr h₀ L h (fun z => if z = Str.ofString "c" then u z else if z = Str.ofString "i" then some (.int i ti) else if z = Str.ofString "dirname" then some (.str d td) else m₀ z) → News h₀ L h news →
      wpAny (model prog w) A (isTrue test env (eval test env)) (fun b s₂ =>
        if b = true then wpAny (model prog w) A (execs body env) (WhileStep2 h₀ L s (PjS x m₀ news) Q (x.length - i)) E s₂ else Q .next s₂) E { s with heap := h, toks := tk })
    (hE : PassesOwn (model prog w) A env E) :
    wpAny (model prog w) A (exec (.While test body [] pos) env) Q E s := by
  refine While_inv2 (PjS x m₀ news) (n₀ := x.length - 5) F N ⟨rfl, 5, Str.ofString "", t5, td0, hi0, hd0, ⟨Nat.le_refl _, Nat.zero_le _, rfl⟩, rfl, fun _ _ _ _ => rfl⟩ ?_ hE
  rintro n m₁ news₁ h₁ tk₁ F₁ N₁ ⟨rfl, i, d, ti, td, hi, hd, hp, rfl, hm⟩
  refine turn i d ti td m₁ h₁ tk₁ hp hp.2.1 ?_ N₁
  have e : (fun z => if z = Str.ofString "c" then m₁ z else if z = Str.ofString "i" then some (Value.int i ti) else if z = Str.ofString "dirname" then some (Value.str d td) else m₀ z) = m₁ := by
    funext z
    by_cases h1 : z = Str.ofString "c"
    · simp only [h1, if_true]
    · rw [if_neg h1]
      by_cases h2 : z = Str.ofString "i"
      · rw [if_pos h2, h2, hi]
      · rw [if_neg h2]
        by_cases h3 : z = Str.ofString "dirname"
        · rw [if_pos h3, h3, hd]
        · rw [if_neg h3]; exact (hm z h1 h2 h3).symm
  rw [e]; exact F₁

theorem pj_step {x d' : Str} {m₀ m' : Str → Option Value} {news : List (Addr × Obj)} {n : Nat} {h' : Heap} {tk : Nat} {i' : Nat} {ti td : Tok} {s₀ : Shared}
    (F : Fr h₀ L h' m') (N : News h₀ L h' news) {z : Int} (hi : m' (Str.ofString "i") = some (.int z ti)) (hd : m' (Str.ofString "dirname") = some (.str d' td)) (hp : Pj x d' i') (hz : z = (i' : Int)) (hn : x.length - i' < n)
    (hm : ∀ z, z ≠ Str.ofString "c" → z ≠ Str.ofString "i" → z ≠ Str.ofString "dirname" → m' z = m₀ z) :
    WhileStep2 h₀ L s₀ (PjS x m₀ news) Q n .next { s₀ with heap := h', toks := tk } :=
  ⟨h', tk, m', news, x.length - i', rfl, F, N, hn, rfl, i', d', ti, td, hz ▸ hi, hd, hp, rfl, hm⟩
end
end Mine
end
section
open PySem PySem.W PySem.Calls PyProof.Rows
set_option maxRecDepth 100000
namespace Mine
theorem exc_str_got {prog : Program} {w : World} {A : Around} {E : Value → Shared → Prop} {s : Shared} {K : Frag} {e t C L : Addr} {g : Heap} {n₂ : List (Addr × Obj)} {x : Str} {tx : Tok} {Q : Value → Shared → Prop}
    (hu : A.in1.in1.units < cLine) (X : K.In s.heap) (G : Got n₂ e t (.ref C) [.str x tx]) (N : News g L s.heap n₂) (hs : findIn K (.ref C) "__str__" = some (some (.builtin "BaseException.__str__"))) (hm : mroIn K C (.type "BaseException") = some true)
    (h : Q (.str x tx) s) : wpAny (model prog w) A (call (.type "str") [.ref e]) Q E s := by
  obtain ⟨oe, ot, ws, nt, h1, h2, h3, h4, h5, h6, h7⟩ := G
  exact exc_str hu X hs hm (N _ h1).1 h3 h4 h5 (N _ h2).1 h7 h
noncomputable def readRes (x : Str) : Str × Str :=
  if (Txt.slice x none (some 3) != Str.ofString "257") = true then (Str.ofString "refused", x)
  else if (Txt.slice x (some 3) (some 5) != Str.ofString " \"") = true then (Str.ofString "told", Str.ofString "")
  else (Str.ofString "told", parseOf x)
theorem readRes_0 {x : Str} (h : (Txt.slice x none (some 3) != Str.ofString "257") = true) : readRes x = (Str.ofString "refused", x) := by unfold readRes; rw [if_pos h]
theorem readRes_1 {x : Str} (h : (Txt.slice x none (some 3) != Str.ofString "257") = false) (h1 : (Txt.slice x (some 3) (some 5) != Str.ofString " \"") = true) : readRes x = (Str.ofString "told", Str.ofString "") := by unfold readRes; rw [if_neg (by rw [h]; decide), if_pos h1]
theorem readRes_2 {x d : Str} (h : (Txt.slice x none (some 3) != Str.ofString "257") = false) (h1 : (Txt.slice x (some 3) (some 5) != Str.ofString " \"") = false) (e : d = parseOf x) : readRes x = (Str.ofString "told", d) := by unfold readRes; rw [if_neg (by rw [h]; decide), if_neg (by rw [h1]; decide), e]
set_option maxHeartbeats 8000000 in
theorem read_ok {w : World} {mean : ExcName → Option Value} {mg mb : Str → Option Value} {cn : Str} {cs : Scope} {a L : Addr} {ccd : Value} {h₀ : Heap} {m : Str → Option Value} {news : List (Addr × Obj)} {s : Shared} {Q E : Value → Shared → Prop} (x : Str) (tx : Tok)
    (B : Below callerA h₀ [] h₀) (F : Fr h₀ L s.heap m) (X : (hd.heap_39 w.params).In h₀) (N : News h₀ L s.heap news) (T : Top hd.view_39 (looseW hd.view_39 []) mean mg mb h₀) (hk : cs.kind = .function)
    (hx : x.length ≤ 60000)
    (ret : ∀ l t u v h' tk', Fr h₀ L h' m → News h₀ L h' ((l, tupObj [.str x t, .str (readRes x).1 u, .str (readRes x).2 v]) :: news) → Q (.ref l) { s with heap := h', toks := tk' }) :
    wpAny (model PySem.Challenge.rw_ny0061_01.row.prog w) (callerA.deeper (envOf cn cs L a ccd)) (call (.ref 161) [.str x tx]) Q E s := by
  w_top off
  k_with_none
  (k_with "call type:str" => (
      k_here
      (with_reducible show wpAny _ _ (call (Value.type "str") [Value.ref _]) _ _ _)
      k_dflt (refine' exc_str_got ?k1 ?k2 ?k3 ?k4 ?k5 ?k6 ?_; (case k1 => k_units); (case k2 => k_in); (case k3 => assumption); (case k4 => assumption); (case k5 => k_is); (case k6 => k_is); k_whole)))
  (k_with "exec While Compare cons nil" => (
      k_here
      k_dflt (refine' parse_while ?k1 ?k2 ?k3 ?k4 ?k5 ?_ ?k6; (case k1 => k_asm); (case k2 => k_asm); (case k3 => exact rfl); (case k4 => exact rfl); (case k5 => exact rfl); (case k6 => passes_own); k_whole)))
  (k_with "binaryOp Add str str" => (
      k_here
      (with_reducible show wpAny _ _ (binaryOp Operator.Add (Value.str _ _) (Value.str _ _)) _ _ _)
      (refine add_T (by omega) ?_)
      intro t' k' a'))
  revert X
  k_fill
  intro X
  refine wpAny_call ?_
  k_dflt (refine' code_defS0 ?k1 ?k2 ?k3 ?k4 ?k5 ?kA ?k6 ?k7 ?k8 ?k9 ?kB ?_ ?cK ?c2 ?c3 ?c4 ?c5; (case kA => exact rfl); (case k2 => k_asm); (case k1 => k_asm); (case k3 => k_asm); (case k4 => k_asm); (case k5 => k_asm); (case k6 => k_is); (case k7 => k_is); (case k8 => k_room); (case k9 => exact BindsTo.of_eq rfl); (case kB => exact locs rfl); (case cK => assumption); (case c2 => exact rfl); (case c3 => exact rfl); (case c4 => exact rfl); (case c5 => decide); k_whole; intro g' L' h' FG' F' N' B' X' T' D'; (try dsimp only); (try k_lift B'); (try k_fold))
  k_steps
  all_goals try (
    (with_reducible show WhileStep2 _ _ _ _ _ _ Flow.next _)
    first | refine pj_step (by k_asm) (by k_asm) (by exact rfl) (by exact rfl) (pj_two (by assumption) (by assumption) (by assumption) (by assumption) (by assumption)) (by omega) (by omega) ?_ | refine pj_step (by k_asm) (by k_asm) (by exact rfl) (by exact rfl) (pj_one (by assumption) (by assumption) (by assumption)) (by omega) (by omega) ?_
    intro z h1 h2 h3
    simp only [if_neg h1, if_neg h2, if_neg h3])
  all_goals try (dsimp only [WhileStep2]; k_steps)
  · rw [readRes_0 (by assumption)] at ret
    exact ret _ _ _ _ _ _ (by k_asm) (by k_asm)
  · rw [readRes_1 (by assumption) (by assumption)] at ret
    exact ret _ _ _ _ _ _ (by k_asm) (by k_asm)
  · rw [readRes_2 (by assumption) (by assumption) (pj_brk0 (by assumption) (by assumption) (by assumption) (by assumption))] at ret
    exact ret _ _ _ _ _ _ (by k_asm) (by k_asm)
  · rw [readRes_2 (by assumption) (by assumption) (pj_brk1 (by assumption) (by assumption) (by assumption) (by assumption) (by assumption))] at ret
    exact ret _ _ _ _ _ _ (by k_asm) (by k_asm)
  · rw [readRes_2 (by assumption) (by assumption) (pj_end (by assumption) (by assumption))] at ret
    exact ret _ _ _ _ _ _ (by k_asm) (by k_asm)
end Mine
end
section
open PySem PySem.W PySem.Calls PyProof.Rows
set_option maxRecDepth 100000
namespace Mine
/-- what _law_piece tells -/
noncomputable def signF (x : Int) : Str := ⟨#[(if (x.fdiv 8).fmod 1112064 < 55296 then (x.fdiv 8).fmod 1112064 else (x.fdiv 8).fmod 1112064 + 2048).toNat]⟩
noncomputable def pieceF (x : Int) : Str :=
  if x.fmod 8 = 0 then Str.ofString ".."
  else if x.fmod 8 = 1 then (if (x.fdiv 8).fmod 2 = 0 then Str.ofString "257" else Str.ofString "250")
  else if x.fmod 8 = 2 then Txt.mul (Str.ofString "\"") (1 + (x.fdiv 8).fmod 3)
  else if x.fmod 8 = 3 then Str.ofString ""
  else if x.fmod 8 = 4 then Str.ofString "."
  else if x.fmod 8 = 5 then Str.ofString "..\" "
  else if x.fmod 8 = 6 then Str.ofString "..."
  else if (signF x == Str.ofString "/") = true then Str.ofString "a" else signF x
section
variable {x : Int}
theorem pf0 (h : x.fmod 8 = 0) : pieceF x = Str.ofString ".." := by simp only [pieceF, h]; rfl
theorem pf1a (h : x.fmod 8 = 1) (h2 : (x.fdiv 8).fmod 2 = 0) : pieceF x = Str.ofString "257" := by simp only [pieceF, h, h2]; rfl
theorem pf1b (h : x.fmod 8 = 1) (h2 : (x.fdiv 8).fmod 2 = 1) : pieceF x = Str.ofString "250" := by simp only [pieceF, h, h2]; rfl
theorem pf2 (h : x.fmod 8 = 2) : pieceF x = Txt.mul (Str.ofString "\"") (1 + (x.fdiv 8).fmod 3) := by simp only [pieceF, h]; rfl
theorem pf3 (h : x.fmod 8 = 3) : pieceF x = Str.ofString "" := by simp only [pieceF, h]; rfl
theorem pf4 (h : x.fmod 8 = 4) : pieceF x = Str.ofString "." := by simp only [pieceF, h]; rfl
theorem pf5 (h : x.fmod 8 = 5) : pieceF x = Str.ofString "..\" " := by simp only [pieceF, h]; rfl
theorem pf6 (h : x.fmod 8 = 6) : pieceF x = Str.ofString "..." := by simp only [pieceF, h]; rfl
theorem pf7 (h : ¬ x.fmod 8 < 7) : pieceF x = if (signF x == Str.ofString "/") = true then Str.ofString "a" else signF x := by
  unfold pieceF
  rw [if_neg (by omega), if_neg (by omega), if_neg (by omega), if_neg (by omega), if_neg (by omega), if_neg (by omega), if_neg (by omega)]
theorem pf7aa (h : ¬ x.fmod 8 < 7) (h2 : (x.fdiv 8).fmod 1112064 < 55296) (h3 : ((⟨#[((x.fdiv 8).fmod 1112064).toNat]⟩ : Str) == Str.ofString "/") = true) : pieceF x = Str.ofString "a" := by
  rw [pf7 h, signF, if_pos h2, if_pos h3]
theorem pf7ab (h : ¬ x.fmod 8 < 7) (h2 : (x.fdiv 8).fmod 1112064 < 55296) (h3 : ((⟨#[((x.fdiv 8).fmod 1112064).toNat]⟩ : Str) == Str.ofString "/") = false) : pieceF x = ⟨#[((x.fdiv 8).fmod 1112064).toNat]⟩ := by
  rw [pf7 h, signF, if_pos h2, if_neg (by rw [h3]; decide)]
theorem pf7ba (h : ¬ x.fmod 8 < 7) (h2 : ¬ (x.fdiv 8).fmod 1112064 < 55296) (h3 : ((⟨#[((x.fdiv 8).fmod 1112064 + 2048).toNat]⟩ : Str) == Str.ofString "/") = true) : pieceF x = Str.ofString "a" := by
  rw [pf7 h, signF, if_neg h2, if_pos h3]
theorem pf7bb (h : ¬ x.fmod 8 < 7) (h2 : ¬ (x.fdiv 8).fmod 1112064 < 55296) (h3 : ((⟨#[((x.fdiv 8).fmod 1112064 + 2048).toNat]⟩ : Str) == Str.ofString "/") = false) : pieceF x = ⟨#[((x.fdiv 8).fmod 1112064 + 2048).toNat]⟩ := by
  rw [pf7 h, signF, if_neg h2, if_neg (by rw [h3]; decide)]
end
set_option maxHeartbeats 8000000 in
theorem piece_ok {w : World} {mean : ExcName → Option Value} {mg mb : Str → Option Value} (x : Int) (tx : Tok) :
    Cl w mean mg mb 2 147 [.int x tx] (fun _ => True) (fun r own => own = [] ∧ ∃ t, r = .str (pieceF x) t) := by
  w_top off
  k_with_none
  (
    unfold Cl; k_fill; intro dp un gd cn cs a ccd cl outer A₀ base h₀ L m news s Q E B F X N T hk hpre hdp hun hret
    k_dflt (refine' call_clean B F X N T ?kA ?kF ?kK ?k6 ?k7 ?k8 ?k9 ?kB ?c2 ?c3 ?c4 ?c5 hret ?_; (case kA => exact rfl); (case kF => exact rfl); (case kK => assumption); (case k6 => k_is); (case k7 => k_is); (case k8 => ktr_room); (case k9 => exact BindsTo.of_eq rfl); (case c5 => decide); (case kB => exact locs rfl); (case c2 => exact rfl); (case c3 => exact rfl); (case c4 => exact rfl); k_whole)
    intro L' h' tk F' N' B' X' T' htk0 htk1
    clear hret B X T F N
    have htk : 1 ≤ tk := htk1 (List.cons_ne_nil _ _)
    clear htk1
    (try dsimp only); (try k_lift B'); (try k_fold))
  k_steps
  all_goals (
    show Done _ _ _ _ _ _
    refine Done.intro [] (by k_asm) (by k_asm) (fun _ h => nomatch h) ?_
    first | rw [pf0 (by assumption)] | rw [pf1a (by assumption) (by assumption)] | rw [pf1b (by assumption) (by assumption)] | rw [pf2 (by assumption)] | rw [pf3 (by assumption)] | rw [pf4 (by assumption)] | rw [pf5 (by assumption)] | rw [pf6 (by assumption)] | rw [pf7aa (by assumption) (by assumption) (by assumption)] | rw [pf7ab (by assumption) (by assumption) (by assumption)] | rw [pf7ba (by assumption) (by assumption) (by assumption)] | rw [pf7bb (by assumption) (by assumption) (by assumption)]
    exact ⟨rfl, _, rfl⟩)
end Mine
end
section
open PySem PySem.W PySem.Calls PyProof.Rows
set_option maxRecDepth 100000
namespace Mine
section
variable {prog : Program} {w : World} {A : Around} {E : Value → Shared → Prop} {s : Shared} {env : Env} {h₀ : Heap} {x : Str} {body : List Stmt} {Q : Flow → Shared → Prop}
/-- a loop over a list of the base heap, whatever it holds (the library's iter_invG, turned from ints to any values) -/
theorem iter_base {l : Addr} {vs : List Value} {m₀ : Str → Option Value} {news : List (Addr × Obj)} (J : Nat → (Str → Option Value) → List (Addr × Obj) → Prop)
    (hh : A.handled = none) (hl : h₀.IsList l vs.toArray) (F : Fr h₀ env.locals s.heap m₀) (N : News h₀ env.locals s.heap news) (hj : J 0 m₀ news)
    (turn : ∀ i v m₁ news₁ h tk own, vs[i]? = some v → OwnOff own (news₁.map (·.1)) → J i m₁ news₁ → Fr h₀ env.locals h (fun y => if y = x then some v else m₁ y) → News h₀ env.locals h (news₁ ++ own) →
      wpAny (model prog w) A (execs body env) (InvPostG h₀ env.locals (J (i + 1)) own { s with heap := h, toks := tk } Q) E { s with heap := h, toks := tk })
    (done : ∀ m₁ news₁ h tk, J vs.length m₁ news₁ → Fr h₀ env.locals h m₁ → News h₀ env.locals h news₁ → Q .next { s with heap := h, toks := tk }) :
    wpAny (model prog w) A (pyIter (.ref l)) (fun it s₂ => LoopAtV prog w A h₀ env x body Q E it s₂) E s := by
  have hls : s.heap.IsList l vs.toArray := hl.at fun o e => F.keep l o e
  obtain ⟨ol, hol, _⟩ := id hl
  have hlt : l < h₀.objs.size := Heap.lt_size hol
  have hne : l ≠ s.heap.objs.size := Nat.ne_of_lt (Nat.lt_trans (Nat.lt_of_lt_of_le hlt F.above) F.ns.lt)
  refine wpAny_pyIter_list hls ?_
  have W := Walks.list (prog := prog) (w := w) hh s.heap.objs.size l hne vs.toArray
  have hlen : vs.toArray.size = vs.length := by simp
  rw [hlen] at W
  refine ⟨_, _, _, vs.length, _, _, m₀, news, J, rfl, W, ?_, ?_, ?_, ⟨⟨_, Heap.get?_push_size _ rfl, rfl, rfl⟩, hls.at fun o e => Heap.get?_push_of_some _ e⟩, F.push _, (fun p hp => ⟨Heap.get?_push_of_some _ (N p hp).1, (N p hp).2⟩), hj, ?_, ?_⟩
  · intro hm
    rcases List.mem_cons.mp hm with e | hm
    · exact absurd F.ns.lt (e ▸ Nat.lt_irrefl _)
    · exact absurd (Nat.lt_of_lt_of_le hlt F.above) ((List.mem_singleton.mp hm) ▸ Nat.lt_irrefl _)
  · intro b hb
    rw [List.mem_singleton.mp hb]
    exact next_is_new F
  · intro p hp hI
    exact absurd (Heap.lt_size (N p hp).1) ((List.mem_singleton.mp hI) ▸ Nat.lt_irrefl _)
  · rintro i v m₁ news₁ s₁ own ⟨hh', tk', rfl⟩ hin hP hJ hoff hown _ hfp hst F₁ N₁
    have hI0 : h₀.get? s.heap.objs.size = none := next_is_new F
    obtain ⟨⟨oI, hoI, _⟩, _⟩ := id hst
    have hIown : (s.heap.objs.size, oI) ∈ own := hfp _ (List.mem_cons.mpr (.inl rfl)) hI0 _ hoI
    have hsep : OwnOff own (news₁.map (·.1)) := by
      intro p hp b hb e
      obtain ⟨q, hq, rfl⟩ := List.mem_map.mp hb
      rcases List.mem_cons.mp (hown p hp) with h1 | h1
      · exact hoff q hq (List.mem_singleton.mpr (e ▸ h1))
      · have h2 := List.mem_singleton.mp h1
        have h3 := (N₁ q (List.mem_append.mpr (.inr hq))).2.2
        rw [← e, h2, hol] at h3
        cases h3
    have hP' : vs[i]? = some v := by simpa using hP
    have N₂ : News h₀ env.locals hh' (news₁ ++ own) := fun p hp => N₁ p ((List.mem_append.mp hp).elim (fun h => List.mem_append.mpr (.inr h)) fun h => List.mem_append.mpr (.inl h))
    refine wpAny_mono (turn i v m₁ news₁ hh' tk' own hP' hsep hJ F₁ N₂) (fun f s₂ p => ?_) fun _ _ e => e
    have fin : InvEndG h₀ env.locals (J (i + 1)) own { s with heap := hh', toks := tk' } s₂ → LoopStepU h₀ env.locals [s.heap.objs.size] own (J (i + 1)) { s with heap := hh', toks := tk' } .next s₂ := by
      rintro ⟨h', tk, m', news', nx, e, F', N', hn, ho, ha, hm⟩
      refine ⟨rfl, h', tk, m', nx, e, F', fun p hp => N' p ((List.mem_append.mp hp).elim (ho p) (hn p)), fun p hp hq => ?_, hm⟩
      exact ha _ hIown p.1 (List.mem_map.mpr ⟨p, hp, rfl⟩) (List.mem_singleton.mp hq).symm
    cases f with
    | ret v => exact .ret p
    | brk => exact .brk p
    | next => exact .next (fin p)
    | cont => exact .cont (fin p)
  · rintro h' tk m' news' F' N' _ hJ
    exact done m' news' h' tk hJ F' N'
end

/-- the ints that _law_due counts -/
noncomputable def dlt (y : Str) : Int := if (y == Str.ofString "..") = true then -1 else if (y == Str.ofString "" || y == Str.ofString ".") = true then 0 else 1
noncomputable def htStep (ns : List Int) (y : Str) : List Int := ns ++ [ns.getLastD 0 + dlt y]
noncomputable def HtS (D : Addr) (rest : List (Addr × Obj)) (x : Str) (m₀ : Str → Option Value) (ns : List Int) (m : Str → Option Value) (nx : List (Addr × Obj)) : Prop :=
  (∃ us c, nx = (D, listOf us.toArray c) :: rest ∧ IntsAre us ns) ∧ ∀ z, z ≠ x → m z = m₀ z
theorem htFold_len (xs : List Str) : ∀ ns : List Int, (xs.foldl htStep ns).length = ns.length + xs.length := by
  induction xs with
  | nil => intro ns; rfl
  | cons y r ih => intro ns; rw [List.foldl_cons, ih, htStep, List.length_append, List.length_cons]; simp; omega

section
variable {prog : Program} {w : World} {A : Around} {E : Value → Shared → Prop} {s : Shared} {env : Env} {h₀ : Heap} {x : Str} {body : List Stmt} {Q : Flow → Shared → Prop}
theorem ht_loop {l D : Addr} {vs us₀ : List Value} {xs : List Str} {ns₀ : List Int} {c₀ : Nat} {m₀ : Str → Option Value} {rest : List (Addr × Obj)}
    (hh : A.handled = none) (hl : h₀.IsList l vs.toArray) (hx : StrsAre vs xs) (F : Fr h₀ env.locals s.heap m₀) (N : News h₀ env.locals s.heap ((D, listOf us₀.toArray c₀) :: rest)) (hu : IntsAre us₀ ns₀)
    (hb : wt xs ≤ 1000) (hn0 : ns₀.length = 1) (hD : ∀ p ∈ rest, p.1 ≠ D)
    (turn : ∀ (ns : List Int) (y : Str) (t : Tok) (us : List Value) (c : Nat) (h : Heap) (tk : Nat) (own : List (Addr × Obj)), y.length ≤ 1000 → IntsAre us ns → us.length ≤ 2000 → 0 < us.length → 0 < ns.length → OwnOff own (D :: rest.map (·.1)) → (∀ p ∈ rest ++ own, p.1 ≠ D) →
      Fr h₀ env.locals h (fun z => if z = x then some (.str y t) else m₀ z) → News h₀ env.locals h ((D, listOf us.toArray c) :: (rest ++ own)) →
      wpAny (model prog w) A (execs body env) (InvPostG h₀ env.locals (HtS D rest x m₀ (htStep ns y)) own { s with heap := h, toks := tk } Q) E { s with heap := h, toks := tk })
    (done : ∀ (us : List Value) (c : Nat) (u : Str → Option Value) (h : Heap) (tk : Nat), IntsAre us (xs.foldl htStep ns₀) → us.length = xs.length + 1 → 0 < (xs.foldl htStep ns₀).length → Fr h₀ env.locals h (fun z => if z = x then u z else m₀ z) → News h₀ env.locals h ((D, listOf us.toArray c) :: rest) → Q .next { s with heap := h, toks := tk }) :
    wpAny (model prog w) A (pyIter (.ref l)) (fun it s₂ => LoopAtV prog w A h₀ env x body Q E it s₂) E s := by
  refine iter_base (fun i m nx => HtS D rest x m₀ ((xs.take i).foldl htStep ns₀) m nx) hh hl F N ⟨⟨us₀, c₀, rfl, by simpa using hu⟩, fun _ _ => rfl⟩ ?_ ?_
  · rintro i v m₁ nx h tk own hv hoff ⟨⟨us, c, rfl, hus⟩, hm⟩ F₁ N₁
    obtain ⟨y, t, hy, rfl⟩ := strs_get hx hv
    have hs : xs.take (i + 1) = xs.take i ++ [y] := by simp [List.take_add_one, hy]
    have hlen := hus.length
    rw [htFold_len, List.length_take] at hlen
    have h4 := wt_len xs
    have h5 := wt_mem (List.mem_of_getElem? hy)
    rw [hs, List.foldl_append]
    refine turn _ y t us c h tk own (by omega) hus (by omega) (by omega) (by rw [htFold_len]; omega) hoff (fun p hp => ?_) (fr_var F₁ hm) N₁
    rcases List.mem_append.mp hp with hp | hp
    · exact hD p hp
    · exact hoff p hp D (.head _)
  · rintro m₁ nx h tk ⟨⟨us, c, rfl, hus⟩, hm⟩ F₁ N₁
    rw [strs_len hx, List.take_length] at hus
    have hlen := hus.length
    rw [htFold_len, hn0] at hlen
    refine done us c m₁ h tk hus (by omega) (by rw [htFold_len]; omega) ?_ N₁
    have e : (fun z => if z = x then m₁ z else m₀ z) = m₁ := by
      funext z
      by_cases h1 : z = x
      · simp [h1]
      · simp [h1, hm z h1]
    rw [e]; exact F₁
theorem ht_end {D L : Addr} {rest own news' : List (Addr × Obj)} {m₀ m' : Str → Option Value} {ns ms : List Int} {us : List Value} {c : Nat} {s₁ : Shared} {h' : Heap} {tk : Nat}
    (F : Fr h₀ L h' m') (N : News h₀ L h' news') (hn : ∀ p ∈ (D, listOf us.toArray c) :: (rest ++ own), p ∈ news') (hoff : OwnOff own (D :: rest.map (·.1))) (hu : IntsAre us ms) (e : ms = ns) (hm : ∀ z, z ≠ x → m' z = m₀ z) :
    InvEndG h₀ L (HtS D rest x m₀ ns) own s₁ { s₁ with heap := h', toks := tk } :=
  ⟨h', tk, m', news', (D, listOf us.toArray c) :: rest, rfl, F, N, fun p hp => hn p ((List.mem_cons.mp hp).elim (fun h => h ▸ .head _) fun h => .tail _ (List.mem_append_left _ h)),
    fun p hp => hn p (.tail _ (List.mem_append_right _ hp)), hoff, ⟨⟨us, c, rfl, e ▸ hu⟩, hm⟩⟩
end
end Mine
end
section
open PySem PySem.W PySem.Calls PyProof.Rows
set_option maxRecDepth 100000
namespace Mine
section
variable {prog : Program} {w : World} {A : Around} {E : Value → Shared → Prop} {s : Shared} {h₀ : Heap} {L D l b : Addr} {m : Str → Option Value} {news tail : List (Addr × Obj)} {c : Nat} {us vs ws : List Value} {ns : List Int} {xs ys : List Str}
theorem ints_snoc {i : Int} {t : Tok} {us : List Value} {ns : List Int} (h : IntsAre us ns) : IntsAre (us ++ [.int i t]) (ns ++ [i]) := by
  induction h with
  | nil => exact .cons i t .nil
  | cons k u _ ih => exact .cons k u ih
theorem append_I {i : Int} {t : Tok} {Q : Value → Shared → Prop} (F : Fr h₀ L s.heap m) (N : News h₀ L s.heap ((D, listOf us.toArray c) :: tail)) (hu : IntsAre us ns) (hz : us.length ≤ 2000) (hD : ∀ p ∈ tail, p.1 ≠ D)
    (h : ∀ us' c' h', IntsAre us' (ns ++ [i]) → Fr h₀ L h' m → News h₀ L h' ((D, listOf us'.toArray c') :: tail) → Q .none { s with heap := h' }) : wpAny (model prog w) A (call (.builtin "list.append") [.ref D, .int i t]) Q E s := by
  refine append_K F N (Upd.head hD) (fun h' F' N' => h (us ++ [.int i t]) (c + 1) h' (ints_snoc hu) F' ?_) (by rw [sizeLine_eq, List.size_toArray]; omega)
  have e : us.toArray.push (Value.int i t) = (us ++ [Value.int i t]).toArray := by simp
  rw [← e]; exact N'
theorem last_I {value slice : Expr} {u : Tok} {Q : Value → Shared → Prop} (hl : s.heap.IsList l us.toArray) (hu : IntsAre us ns) (hne : 0 < us.length)
    (h : ∀ t, Q (.int (ns.getLastD 0) t) s)
    (hs : subscripted slice false (.ref l) (.int (-1) u) = operate [.ref l, .int (-1) u] (getItem (.ref l) (.int (-1) u)) := by with_unfolding_all rfl) :
    wpAny (model prog w) A (subscriptTail value slice (.ref l) (.int (-1) u)) Q E s := by
  obtain ⟨y, t, h1, rfl, h2⟩ := kpa_ints hu hne
  have hlen : us.length = us.dropLast.length + 1 := by
    have := congrArg List.length h1
    rw [List.length_append] at this
    exact this
  refine tail_any hl.typeIs slot_list_getitem.lookup (wpAny_getItem_list_neg (x := .int (ns.getLastD 0) t) hl (by decide) (by rw [List.size_toArray]; omega) (by decide) ?_ (h t)) hs
  have e : (-1 + (us.toArray.size : Int)).toNat = us.dropLast.length := by rw [List.size_toArray]; omega
  rw [e, List.getElem?_toArray, h1]
  simp
theorem len_T {Q : Value → Shared → Prop} (hl : s.heap.IsList l vs.toArray) (hx : StrsAre vs xs) (hb : wt xs ≤ 100000) (h : ∀ t k, xs.length ≤ wt xs → Q (.int xs.length t) { s with toks := k }) : wpAny (model prog w) A (call (.builtin "len") [.ref l]) Q E s := by
  have h1 := strs_len hx
  have h2 := wt_len xs
  refine len_list hl (by rw [List.size_toArray]; omega) ?_
  rw [List.size_toArray, h1]
  exact h _ _ h2
theorem strs_at {vs : List Value} {xs : List Str} (h : StrsAre vs xs) : ∀ {k : Nat}, k < xs.length → ∃ t, vs[k]? = some (.str (xs.getD k Str.empty) t) := by
  induction h with
  | nil => intro k hk; exact absurd hk (Nat.not_lt_zero _)
  | cons y t _ ih =>
    intro k hk
    cases k with
    | zero => exact ⟨t, rfl⟩
    | succ k => exact ih (Nat.lt_of_succ_lt_succ hk)
theorem ints_at {vs : List Value} {ns : List Int} (h : IntsAre vs ns) : ∀ {k : Nat}, k < ns.length → ∃ t, vs[k]? = some (.int (ns.getD k 0) t) := by
  induction h with
  | nil => intro k hk; exact absurd hk (Nat.not_lt_zero _)
  | cons y t _ ih =>
    intro k hk
    cases k with
    | zero => exact ⟨t, rfl⟩
    | succ k => exact ih (Nat.lt_of_succ_lt_succ hk)
theorem item_T {value slice : Expr} {k : Int} {u : Tok} {Q : Value → Shared → Prop} (hl : s.heap.IsList l vs.toArray) (hx : StrsAre vs xs) (hb : wt xs ≤ 100000) (h0 : 0 ≤ k) (h1 : k < xs.length)
    (h : ∀ t, Q (.str (xs.getD k.toNat Str.empty) t) s)
    (hs : subscripted slice false (.ref l) (.int k u) = operate [.ref l, .int k u] (getItem (.ref l) (.int k u)) := by with_unfolding_all rfl) :
    wpAny (model prog w) A (subscriptTail value slice (.ref l) (.int k u)) Q E s := by
  obtain ⟨t, e⟩ := strs_at hx (k := k.toNat) (by omega)
  have h2 := wt_len xs
  exact tail_any hl.typeIs slot_list_getitem.lookup (wpAny_getItem_list hl h0 (by omega) (by rw [List.getElem?_toArray]; exact e) (h t)) hs
theorem item_I {value slice : Expr} {k : Int} {u : Tok} {Q : Value → Shared → Prop} (hl : s.heap.IsList l vs.toArray) (hx : IntsAre vs ns) (hb : vs.length ≤ 100000) (h0 : 0 ≤ k) (h1 : k < vs.length)
    (h : ∀ t, Q (.int (ns.getD k.toNat 0) t) s)
    (hs : subscripted slice false (.ref l) (.int k u) = operate [.ref l, .int k u] (getItem (.ref l) (.int k u)) := by with_unfolding_all rfl) :
    wpAny (model prog w) A (subscriptTail value slice (.ref l) (.int k u)) Q E s := by
  have hlen := hx.length
  obtain ⟨t, e⟩ := ints_at hx (k := k.toNat) (by omega)
  exact tail_any hl.typeIs slot_list_getitem.lookup (wpAny_getItem_list hl h0 (by omega) (by rw [List.getElem?_toArray]; exact e) (h t)) hs
theorem add_TT {Q : Value → Shared → Prop} (F : Fr h₀ L s.heap m) (N : News h₀ L s.heap news) (hl : s.heap.IsList l vs.toArray) (hb : s.heap.IsList b ws.toArray) (hx : StrsAre vs xs) (hy : StrsAre ws ys) (hz : wt xs ≤ 100000) (hz' : wt ys ≤ 100000)
    (h : ∀ D us h', StrsAre us (xs ++ ys) → wt (xs ++ ys) = wt xs + wt ys → Fr h₀ L h' m → News h₀ L h' ((D, listOf us.toArray 0) :: news) → (∀ p ∈ news, p.1 < D) → Q (.ref D) { s with heap := h' }) :
    wpAny (model prog w) A (binaryOp .Add (.ref l) (.ref b)) Q E s := by
  have h1 := strs_len hx
  have h2 := strs_len hy
  have h3 := wt_len xs
  have h4 := wt_len ys
  exact add_lists F N hl hb (fun h' F' N' => h _ (vs ++ ws) h' (strs_app hx hy) (wt_app xs ys) F' N' fun p hp => Heap.lt_size (N p hp).1) (by rw [sizeLine_eq]; omega)
end
end Mine
end
section
open PySem PySem.W PySem.Calls PyProof.Rows
set_option maxRecDepth 100000
namespace Mine
section
variable {prog : Program} {w : World} {A : Around} {E : Value → Shared → Prop} {s : Shared} {env : Env} {h₀ : Heap} {x : Str} {body : List Stmt} {Q : Flow → Shared → Prop}
theorem kfold_len {step : List Str → Nat → List Str} (hs : ∀ st k, (step st k).length ≤ st.length + 1) : ∀ i, ((List.range i).foldl step []).length ≤ i
  | 0 => Nat.le_refl _
  | i + 1 => by
    rw [List.range_succ, List.foldl_append]
    have h1 := kfold_len hs i
    have h2 := hs ((List.range i).foldl step []) i
    exact Nat.le_trans h2 (by omega)
theorem kept_loop {r D : Addr} {b₀ : Int} {t₀ u₀ v₀ : Tok} {n c₀ : Nat} {m₀ : Str → Option Value} {rest : List (Addr × Obj)} (step : List Str → Nat → List Str) (hst : ∀ st k, (step st k).length ≤ st.length + 1)
    (hh : A.handled = none) (hr : IsRange s.heap r 0 b₀ 1 t₀ u₀ v₀) (hb : b₀ = (n : Int)) (hn : n ≤ 1000) (F : Fr h₀ env.locals s.heap m₀) (N : News h₀ env.locals s.heap ((D, listOf #[] c₀) :: rest)) (hD : ∀ p ∈ rest, p.1 ≠ D)
    (turn : ∀ (st : List Str) (k : Nat) (t : Tok) (us : List Value) (c : Nat) (h : Heap) (tk : Nat) (own : List (Addr × Obj)), k < n → StrsAre us st → us.length ≤ 65536 → OwnOff own (D :: rest.map (·.1)) → (∀ p ∈ rest ++ own, p.1 ≠ D) →
      Fr h₀ env.locals h (fun z => if z = x then some (.int k t) else m₀ z) → News h₀ env.locals h ((D, listOf us.toArray c) :: (rest ++ own)) →
      wpAny (model prog w) A (execs body env) (InvPostG h₀ env.locals (TxS D rest x m₀ (step st k)) own { s with heap := h, toks := tk } Q) E { s with heap := h, toks := tk })
    (done : ∀ (us : List Value) (c : Nat) (u : Str → Option Value) (h : Heap) (tk : Nat), StrsAre us ((List.range n).foldl step []) → us.length ≤ 65536 → Fr h₀ env.locals h (fun z => if z = x then u z else m₀ z) → News h₀ env.locals h ((D, listOf us.toArray c) :: rest) → Q .next { s with heap := h, toks := tk }) :
    wpAny (model prog w) A (pyIter (.ref r)) (fun it s₂ => LoopAtV prog w A h₀ env x body Q E it s₂) E s := by
  subst hb
  have hsz : Builtin.Range.rangeSize 0 (n : Int) 1 = (n : Int) := by
    have := rangeSize_nat 0 (n : Int)
    rw [this]; simp
  refine wpAny_pyIter_range hr (small_one (by omega) (by omega) (by omega) (by omega)) ?_
  have W : Walks prog w A s.heap.objs.size [s.heap.objs.size] [s.heap.objs.size] n (fun i v => i < n ∧ ∃ t, v = .int (0 + i * 1) t)
      (fun i h => IsRangeIter h s.heap.objs.size (0 + (i : Nat) * 1) ((n : Int) - (i : Nat)) 1) := (Walks.range hh _ 0 1 n).bound
  refine kdr_loop (fun i m nx => TxS D rest x m₀ ((List.range i).foldl step []) m nx) W (fun _ h => h) (fun _ h => h) ?_ ?_ ?_ ?_ (by show IsRangeIter _ _ _ _ _; rw [hsz]; simpa using Heap.get?_push_size _ rfl) (F.push _) (fun p hp => ⟨Heap.get?_push_of_some _ (N p hp).1, (N p hp).2⟩) ⟨⟨[], c₀, rfl, .nil⟩, fun _ _ => rfl⟩ ?_ ?_
  · intro i h hi b hb
    rw [List.mem_singleton.mp hb]
    exact ⟨_, hi⟩
  · intro hm
    exact absurd F.ns.lt ((List.mem_singleton.mp hm) ▸ Nat.lt_irrefl _)
  · intro b hb
    rw [List.mem_singleton.mp hb]
    exact next_is_new F
  · intro p hp hI
    exact absurd (Heap.lt_size (N p hp).1) ((List.mem_singleton.mp hI) ▸ Nat.lt_irrefl _)
  · rintro i v m₁ nx h tk own hi ⟨_, t, rfl⟩ hoff ⟨⟨us, c, rfl, hus⟩, hm⟩ F₁ N₁
    have e1 : (0 : Int) + (i : Int) * 1 = (i : Int) := by omega
    rw [e1] at F₁
    rw [List.range_succ, List.foldl_append]
    have h1 := kfold_len hst i
    have h2 := strs_len hus
    refine turn _ i t us c h tk own hi hus (by omega) hoff (fun p hp => ?_) (fr_var F₁ hm) N₁
    rcases List.mem_append.mp hp with hp | hp
    · exact hD p hp
    · exact hoff p hp D (.head _)
  · rintro m₁ nx h tk ⟨⟨us, c, rfl, hus⟩, hm⟩ F₁ N₁
    have h1 := kfold_len hst n
    have h2 := strs_len hus
    refine done us c m₁ h tk hus (by omega) ?_ N₁
    have e : (fun z => if z = x then m₁ z else m₀ z) = m₁ := by
      funext z
      by_cases h1 : z = x
      · simp [h1]
      · simp [h1, hm z h1]
    rw [e]; exact F₁
end
end Mine
end
section
open PySem PySem.W PySem.Calls PyProof.Rows
set_option maxRecDepth 100000
namespace Mine
noncomputable def keptStep (hts : List Int) (xs : List Str) (st : List Str) (k : Nat) : List Str :=
  if hts.getD (k + 1) 0 > hts.getD k 0 ∧ (∀ a ∈ hts.drop (k + 1), hts.getD (k + 1) 0 ≤ a) then st ++ [xs.getD k Str.empty] else st
theorem keptStep_len (hts : List Int) (xs : List Str) (st : List Str) (k : Nat) : (keptStep hts xs st k).length ≤ st.length + 1 := by
  unfold keptStep; split <;> simp
theorem ks_no1 {hts : List Int} {xs st : List Str} {k : Nat} (h : ¬ hts.getD (k + 1) 0 > hts.getD k 0) : st = keptStep hts xs st k := by unfold keptStep; rw [if_neg (fun q => h q.1)]
theorem getD_el {ns : List Int} {j : Nat} (h : j < ns.length) : ns.getD j 0 = ns[j] := by
  simp [List.getD, h]
theorem getD_mem_drop {hts : List Int} {j : Nat} (h : j < hts.length) : hts.getD j 0 ∈ hts.drop j := by
  rw [List.drop_eq_getElem_cons h, getD_el h]; exact .head _
theorem ks_no2 {hts : List Int} {xs st : List Str} {k : Nat} {M : Int} (hM : M ∈ hts.drop (k + 1)) (h : ¬ M = hts.getD (k + 1) 0) (hle : ∀ a ∈ hts.drop (k + 1), M ≤ a) (hk : k + 1 < hts.length) : st = keptStep hts xs st k := by
  unfold keptStep
  rw [if_neg (fun q => h ?_)]
  have h1 := hle _ (getD_mem_drop hk)
  have h2 := q.2 M hM
  omega
theorem ks_yes {hts : List Int} {xs st : List Str} {k : Nat} {M : Int} (h : hts.getD (k + 1) 0 > hts.getD k 0) (hM : M = hts.getD (k + 1) 0) (hle : ∀ a ∈ hts.drop (k + 1), M ≤ a) : st ++ [xs.getD k Str.empty] = keptStep hts xs st k := by
  unfold keptStep
  rw [if_pos ⟨h, fun a ha => by rw [← hM]; exact hle a ha⟩]
theorem ints_drop {us : List Value} {ns : List Int} (h : IntsAre us ns) : ∀ n, IntsAre (us.drop n) (ns.drop n) := by
  induction h with
  | nil => intro n; rw [List.drop_nil, List.drop_nil]; exact .nil
  | cons y t r ih =>
    intro n
    cases n with
    | zero => exact .cons y t r
    | succ n => exact ih n
section
variable {prog : Program} {w : World} {A : Around} {E : Value → Shared → Prop} {s : Shared} {env : Env} {h₀ : Heap} {x : Str} {body : List Stmt} {Q : Flow → Shared → Prop}
theorem kept_loop2 {r D : Addr} {b₀ : Int} {t₀ u₀ v₀ : Tok} {c₀ : Nat} {m₀ : Str → Option Value} {rest : List (Addr × Obj)} {uh vs : List Value} {hts : List Int} {xs : List Str}
    (hI : IntsAre uh hts) (hl : uh.length = xs.length + 1) (_hx : StrsAre vs xs) (hw : wt xs ≤ 1000)
    (hh : A.handled = none) (hr : IsRange s.heap r 0 b₀ 1 t₀ u₀ v₀) (hb : b₀ = (xs.length : Int)) (F : Fr h₀ env.locals s.heap m₀) (N : News h₀ env.locals s.heap ((D, listOf #[] c₀) :: rest)) (hD : ∀ p ∈ rest, p.1 ≠ D)
    (turn : ∀ (st : List Str) (k : Nat) (t : Tok) (us : List Value) (c : Nat) (h : Heap) (tk : Nat) (own : List (Addr × Obj)), k < xs.length → (k : Int) < xs.length → (k : Int) + 1 < uh.length → 0 < (List.drop ((k : Int) + 1).toNat hts).length → StrsAre us st → us.length ≤ 65536 → OwnOff own (D :: rest.map (·.1)) → (∀ p ∈ rest ++ own, p.1 ≠ D) →
      Fr h₀ env.locals h (fun z => if z = x then some (.int k t) else m₀ z) → News h₀ env.locals h ((D, listOf us.toArray c) :: (rest ++ own)) →
      wpAny (model prog w) A (execs body env) (InvPostG h₀ env.locals (TxS D rest x m₀ (keptStep hts xs st k)) own { s with heap := h, toks := tk } Q) E { s with heap := h, toks := tk })
    (done : ∀ (us : List Value) (c : Nat) (u : Str → Option Value) (h : Heap) (tk : Nat), StrsAre us ((List.range xs.length).foldl (keptStep hts xs) []) → us.length ≤ 65536 → Fr h₀ env.locals h (fun z => if z = x then u z else m₀ z) → News h₀ env.locals h ((D, listOf us.toArray c) :: rest) → Q .next { s with heap := h, toks := tk }) :
    wpAny (model prog w) A (pyIter (.ref r)) (fun it s₂ => LoopAtV prog w A h₀ env x body Q E it s₂) E s :=
  kept_loop (keptStep hts xs) (keptStep_len hts xs) hh hr hb (by have := wt_len xs; omega) F N hD (fun st k t us c h tk own hk => turn st k t us c h tk own hk (by omega) (by omega) (by rw [List.length_drop]; have := hI.length; omega)) done
theorem ht_end2 {D L : Addr} {rest own news' : List (Addr × Obj)} {m₀ m' : Str → Option Value} {ns ms : List Int} {its : Array Value} {c : Nat} {s₁ : Shared} {h' : Heap} {tk : Nat}
    (F : Fr h₀ L h' m') (N : News h₀ L h' news') (hn : ∀ p ∈ (D, listOf its c) :: (rest ++ own), p ∈ news') (hoff : OwnOff own (D :: rest.map (·.1))) (hu : IntsAre its.toList ms) (e : ms = ns) (hm : ∀ z, z ≠ x → m' z = m₀ z) :
    InvEndG h₀ L (HtS D rest x m₀ ns) own s₁ { s₁ with heap := h', toks := tk } :=
  ht_end (us := its.toList) F N (by rw [Array.toArray_toList]; exact hn) hoff hu e hm
theorem ints_push {us : List Value} {ns : List Int} {i : Int} {t : Tok} (h : IntsAre us ns) : IntsAre (us.toArray.push (.int i t)).toList (ns ++ [i]) := by
  have := ints_snoc (i := i) (t := t) h
  simpa using this
theorem getD_last (ns : List Int) (h : 0 < ns.length) : ns.getD (-1 + (ns.length : Int)).toNat 0 = ns.getLastD 0 := by
  have e : (-1 + (ns.length : Int)).toNat = ns.length - 1 := by omega
  rw [e, getD_el (by omega), List.getLastD_eq_getLast?, List.getLast?_eq_getElem?, List.getElem?_eq_getElem (by omega)]; rfl
theorem hs_dd {ns : List Int} {y : Str} (h : 0 < ns.length) (h1 : (y == Str.ofString "..") = true) : ns ++ [ns.getD (-1 + (ns.length : Int)).toNat 0 + -1] = htStep ns y := by
  rw [getD_last ns h, htStep, dlt, if_pos h1]
theorem any_two {y : Str} {b : Bool} (h2 : ([Str.ofString "", Str.ofString "."].any fun x => x == y) = b) : (y == Str.ofString "" || y == Str.ofString ".") = b := by
  rw [← h2]
  simp only [List.any_cons, List.any_nil, Bool.or_false]
  rw [Bool.beq_comm (a := y), Bool.beq_comm (a := y)]
theorem hs_0 {ns : List Int} {y : Str} (h : 0 < ns.length) (h1 : (y == Str.ofString "..") = false) (h2 : ([Str.ofString "", Str.ofString "."].any fun x => x == y) = true) : ns ++ [ns.getD (-1 + (ns.length : Int)).toNat 0 + 0] = htStep ns y := by
  rw [getD_last ns h, htStep, dlt, if_neg (by rw [h1]; decide), if_pos (any_two h2)]
theorem hs_1 {ns : List Int} {y : Str} (h : 0 < ns.length) (h1 : (y == Str.ofString "..") = false) (h2 : ([Str.ofString "", Str.ofString "."].any fun x => x == y) = false) : ns ++ [ns.getD (-1 + (ns.length : Int)).toNat 0 + 1] = htStep ns y := by
  rw [getD_last ns h, htStep, dlt, if_neg (by rw [h1]; decide), if_neg (by rw [any_two h2]; decide)]
end
end Mine
end
section
open PySem PySem.W PySem.Calls PyProof.Rows
set_option maxRecDepth 100000
namespace Mine
theorem kt_nat (k : Nat) : ((k : Int)).toNat = k := by omega
theorem kt_nat1 (k : Nat) : ((k : Int) + 1).toNat = k + 1 := by omega
theorem kd_no1 {hts : List Int} {xs st : List Str} {k : Nat} (h : ¬ hts.getD ((k : Int)).toNat 0 < hts.getD ((k : Int) + 1).toNat 0) : st = keptStep hts xs st k := by
  rw [kt_nat, kt_nat1] at h
  exact ks_no1 h
theorem kd_no2 {hts : List Int} {xs st : List Str} {k : Nat} {M : Int} (hM : M ∈ hts.drop ((k : Int) + 1).toNat) (h : ¬ M = hts.getD ((k : Int) + 1).toNat 0) (hle : ∀ a ∈ hts.drop ((k : Int) + 1).toNat, M ≤ a) (hk : 0 < (hts.drop ((k : Int) + 1).toNat).length) : st = keptStep hts xs st k := by
  rw [kt_nat1] at hM h hle hk
  rw [List.length_drop] at hk
  exact ks_no2 hM h hle (by omega)
theorem kd_yes {hts : List Int} {xs st : List Str} {k : Nat} {M : Int} (h : hts.getD ((k : Int)).toNat 0 < hts.getD ((k : Int) + 1).toNat 0) (hM : M = hts.getD ((k : Int) + 1).toNat 0) (hle : ∀ a ∈ hts.drop ((k : Int) + 1).toNat, M ≤ a) : st ++ [xs.getD ((k : Int)).toNat Str.empty] = keptStep hts xs st k := by
  rw [kt_nat, kt_nat1] at h
  rw [kt_nat1] at hM hle
  rw [kt_nat]
  exact ks_yes h hM hle
noncomputable def keptOf (hts : List Int) (xs : List Str) : List Str := (List.range xs.length).foldl (keptStep hts xs) []
theorem keptStep_wt (hts : List Int) (xs st : List Str) (i : Nat) : wt (keptStep hts xs st i) ≤ wt st + wt [xs.getD i Str.empty] := by
  unfold keptStep
  split
  · rw [wt_app]; exact Nat.le_refl _
  · exact Nat.le_add_right _ _
theorem kept_wt (hts : List Int) (xs : List Str) : ∀ i, i ≤ xs.length → wt ((List.range i).foldl (keptStep hts xs) []) ≤ wt (xs.take i)
  | 0, _ => Nat.zero_le _
  | i + 1, h => by
    rw [List.range_succ, List.foldl_append]
    have ih := kept_wt hts xs i (by omega)
    have e : xs.take (i + 1) = xs.take i ++ [xs.getD i Str.empty] := by
      rw [List.take_add_one]
      have : xs[i]? = some xs[i] := List.getElem?_eq_getElem (by omega)
      rw [this]
      simp [List.getD, this]
    rw [e, wt_app]
    exact Nat.le_trans (keptStep_wt hts xs _ i) (Nat.add_le_add_right ih _)
theorem keptOf_wt (hts : List Int) (xs : List Str) : wt (keptOf hts xs) ≤ wt xs := by
  have := kept_wt hts xs xs.length (Nat.le_refl _)
  rwa [List.take_length] at this
theorem strs_push {us : List Value} {ys : List Str} {y : Str} {t : Tok} (h : StrsAre us ys) : StrsAre (us.toArray.push (.str y t)).toList (ys ++ [y]) := by
  have := strs_snoc (y := y) (t := t) h
  simpa using this
section
variable {prog : Program} {w : World} {A : Around} {E : Value → Shared → Prop} {s : Shared} {env : Env} {h₀ : Heap} {x : Str}
theorem tx_end2 {D L : Addr} {rest own news' : List (Addr × Obj)} {m₀ m' : Str → Option Value} {ys zs : List Str} {its : Array Value} {c : Nat} {s₁ : Shared} {h' : Heap} {tk : Nat}
    (F : Fr h₀ L h' m') (N : News h₀ L h' news') (hn : ∀ p ∈ (D, listOf its c) :: (rest ++ own), p ∈ news') (hoff : OwnOff own (D :: rest.map (·.1))) (hu : StrsAre its.toList zs) (e : zs = ys) (hm : ∀ z, z ≠ x → m' z = m₀ z) :
    InvEndG h₀ L (TxS D rest x m₀ ys) own s₁ { s₁ with heap := h', toks := tk } :=
  tx_end (us := its.toList) F N (by rw [Array.toArray_toList]; exact hn) hoff hu e hm
theorem foldl_rep (v : Value) : ∀ n : Nat, ∀ acc : Array Value, (List.foldl (fun x1 x2 => x1 ++ x2) acc (List.replicate n #[v])).toList = acc.toList ++ List.replicate n v
  | 0, acc => by simp
  | n + 1, acc => by
    rw [List.replicate_succ, List.foldl_cons, foldl_rep v n]
    simp [List.replicate_succ]
theorem strs_rep {y : Str} {t : Tok} : ∀ n : Nat, StrsAre (List.replicate n (.str y t)) (List.replicate n y)
  | 0 => .nil
  | n + 1 => .cons y t (strs_rep n)
theorem wt_rep (y : Str) : ∀ n : Nat, wt (List.replicate n y) = n * (y.length + 1)
  | 0 => by simp [wt_nil]
  | n + 1 => by rw [List.replicate_succ, wt_cons, wt_rep y n, Nat.succ_mul]; omega
/-- a list of one text, n times -/
theorem mul_T {L l : Addr} {m : Str → Option Value} {news : List (Addr × Obj)} {y : Str} {ty : Tok} {c : Nat} {n : Int} {u : Tok} {Q : Value → Shared → Prop} (F : Fr h₀ L s.heap m) (N : News h₀ L s.heap news) (hm : (l, listOf #[.str y ty] c) ∈ news) (hlo : -1000000 ≤ n) (hhi : n ≤ 1000000)
    (h : ∀ D us h', StrsAre us (List.replicate n.toNat y) → wt (List.replicate n.toNat y) = n.toNat * (y.length + 1) → Fr h₀ L h' m → News h₀ L h' ((D, listOf us.toArray 0) :: news) → (∀ p ∈ news, p.1 < D) → Q (.ref D) { s with heap := h' }) :
    wpAny (model prog w) A (binaryOp .Mult (.ref l) (.int n u)) Q E s := by
  refine mul_list (l := l) (items := #[.str y ty]) (k := c) F N (N _ hm).1 (by omega) (by omega) (by simp; omega) fun h' F' N' => ?_
  have e : (List.foldl (fun x1 x2 => x1 ++ x2) #[] (List.replicate (if (#[Value.str y ty] : Array Value).isEmpty = true then 0 else n.toNat) #[Value.str y ty])) = (List.replicate n.toNat (Value.str y ty)).toArray := by
    apply Array.ext'
    rw [if_neg (by simp), foldl_rep]
    simp
  rw [e] at N'
  exact h _ _ h' (strs_rep n.toNat) (wt_rep y n.toNat) F' N' fun p hp => Heap.lt_size (N p hp).1
end
end Mine
end
section
open PySem PySem.W PySem.Calls PyProof.Rows
set_option maxRecDepth 100000
namespace Mine
section
variable {prog : Program} {w : World} {A : Around} {h₀ : Heap} {L : Addr} {m : Str → Option Value} {env : Env} {elt : Expr} {x : Str} {scope : Scope} {cl : List (Str × Addr)} {s : Shared} {S : List (Addr × Obj) → Prop} {Fin : List Value → List (Addr × Obj) → Prop} {news : List (Addr × Obj)}
/-- a comprehension without a test over a list of any data, each element a text -/
theorem comp_rest {α : Type} {vs : List Value} {xs : List α} (enc : α → Tok → Value) (g : α → Str) (hlen : vs.length = xs.length) (hx : ∀ (i : Nat) (v : Value), vs[i]? = some v → ∃ (y : α) (t : Tok), xs[i]? = some y ∧ v = enc y t)
    (turn : ∀ (y : α) (t : Tok) I oI C oC D m₂ ys h tk (E' : Value → Shared → Prop), y ∈ xs → LCg.NsObj oC m₂ → m₂ x = some (enc y t) → Fr h₀ L h m → News h₀ L h ((I, oI) :: (C, oC) :: (D, LCg.lst ys) :: news) → LCg.Off3 I C D news → ((@Ne Nat I C) ∧ (@Ne Nat I D) ∧ (@Ne Nat C D)) →
      wpAny (model prog w) A (eval elt (compEnvC scope cl C env)) (LCg.CompEnd h₀ L m { s with heap := h, toks := tk } I oI C oC D (LCg.lst ys) S (fun v news' => KCtEl news (g y) v news')) E' { s with heap := h, toks := tk })
    (fin : ∀ ys, StrsAre ys (xs.map g) → Fin ys news) : LCg.CompRest prog w A h₀ L m env elt x scope cl s S (fun i v => vs.toArray[i]? = some v) Fin vs.toArray.size 0 [] news := by
  have key : ∀ (j i : Nat) (ys : List Value), i + j = vs.length → StrsAre ys ((xs.take i).map g) → LCg.CompRest prog w A h₀ L m env elt x scope cl s S (fun i v => vs.toArray[i]? = some v) Fin j i ys news := by
    intro j
    induction j with
    | zero =>
      intro i ys hi hy
      have e : i = xs.length := by omega
      subst e
      rw [List.take_length] at hy
      exact LCg.CompRest.zero (fin ys hy)
    | succ j ih =>
      intro i ys hi hy
      refine LCg.CompRest.succ ?_
      intro v I oI C oC D m₂ h tk E' hv hC hm F N off ne
      obtain ⟨y, t, hk, rfl⟩ := hx i v (by simpa using hv)
      refine wpAny_mono (turn y t I oI C oC D m₂ ys h tk E' (List.mem_of_getElem? hk) hC hm F N off ne) (fun y' s₂ hq => ?_) fun _ _ e => e
      obtain ⟨h', tk', nw, e, F', N', off', hS, hn, t', hy'⟩ := hq
      rw [hn] at N' off' hS
      refine ⟨h', tk', news, e, F', N', off', hS, ?_⟩
      rw [hy']
      refine ih (i + 1) _ (by omega) ?_
      rw [List.take_add_one, hk]
      simpa using strs_snoc hy
  rw [List.size_toArray]
  exact key vs.length 0 [] (by omega) (by simp only [List.take_zero, List.map_nil]; exact .nil)
theorem comp_texts {vs : List Value} {xs : List Str} (g : Str → Str) (hx : StrsAre vs xs)
    (turn : ∀ (y : Str) (t : Tok) I oI C oC D m₂ ys h tk (E' : Value → Shared → Prop), y ∈ xs → LCg.NsObj oC m₂ → m₂ x = some (.str y t) → Fr h₀ L h m → News h₀ L h ((I, oI) :: (C, oC) :: (D, LCg.lst ys) :: news) → LCg.Off3 I C D news → ((@Ne Nat I C) ∧ (@Ne Nat I D) ∧ (@Ne Nat C D)) →
      wpAny (model prog w) A (eval elt (compEnvC scope cl C env)) (LCg.CompEnd h₀ L m { s with heap := h, toks := tk } I oI C oC D (LCg.lst ys) S (fun v news' => KCtEl news (g y) v news')) E' { s with heap := h, toks := tk })
    (fin : ∀ ys, StrsAre ys (xs.map g) → Fin ys news) : LCg.CompRest prog w A h₀ L m env elt x scope cl s S (fun i v => vs.toArray[i]? = some v) Fin vs.toArray.size 0 [] news :=
  comp_rest (fun y t => .str y t) g (strs_len hx) (fun _ _ hv => strs_get hx hv) turn fin
end
end Mine
end
section
open PySem PySem.W PySem.Calls PyProof.Rows
set_option maxRecDepth 100000
namespace Mine
theorem dlt_b (y : Str) : -1 ≤ dlt y ∧ dlt y ≤ 1 := by
  unfold dlt
  repeat' split
  all_goals omega
theorem getLastD_mem : ∀ (ns : List Int), ns ≠ [] → ns.getLastD 0 ∈ ns
  | [], h => absurd rfl h
  | [a], _ => .head _
  | a :: b :: r, _ => .tail _ (getLastD_mem (b :: r) (List.cons_ne_nil _ _))
theorem ht_bound (xs : List Str) : ∀ (ns : List Int) (B : Int), ns ≠ [] → (∀ a ∈ ns, -B ≤ a ∧ a ≤ B) → ∀ a ∈ xs.foldl htStep ns, -(B + xs.length) ≤ a ∧ a ≤ B + xs.length := by
  induction xs with
  | nil =>
    intro ns B _ h a ha
    have := h a ha
    simp only [List.length_nil]; omega
  | cons y r ih =>
    intro ns B hne h a ha
    rw [List.foldl_cons] at ha
    have h2 := ih (htStep ns y) (B + 1) (by unfold htStep; simp) (fun b hb => by
      unfold htStep at hb
      rcases List.mem_append.mp hb with hb | hb
      · have := h b hb; omega
      · rw [List.mem_singleton.mp hb]
        have h3 := h _ (getLastD_mem ns hne)
        have h4 := dlt_b y
        omega) a ha
    rw [List.length_cons]; omega
theorem hts_bound {xf xo : List Str} (hf : wt xf ≤ 1000) (ho : wt xo ≤ 1000) : ∀ a ∈ xo.foldl htStep [(xf.length : Int)], -2000 ≤ a ∧ a ≤ 2000 := by
  intro a ha
  have h1 := wt_len xf
  have h2 := wt_len xo
  have := ht_bound xo [(xf.length : Int)] 1000 (List.cons_ne_nil _ _) (fun b hb => by rw [List.mem_singleton.mp hb]; omega) a ha
  omega
section
variable {prog : Program} {w : World} {A : Around} {E : Value → Shared → Prop} {s : Shared} {h₀ : Heap} {L l : Addr} {m : Str → Option Value} {news : List (Addr × Obj)} {vs : List Value} {ns : List Int}
theorem min_B {Q : Value → Shared → Prop} (hh : A.handled = none) (F : Fr h₀ L s.heap m) (N : News h₀ L s.heap news) (hl : s.heap.IsList l vs.toArray) (hi : IntsAre vs ns) (hne : 0 < ns.length) (hB : ∀ a ∈ ns, -2000 ≤ a ∧ a ≤ 2000)
    (h : ∀ h' M (t : Tok) tk, Fr h₀ L h' m → News h₀ L h' news → M ∈ ns → (∀ a, a ∈ ns → M ≤ a) → -2000 ≤ M → M ≤ 2000 → Q (.int M t) { s with heap := h', toks := tk }) :
    wpAny (model prog w) A (call (.builtin "min") [.ref l]) Q E s :=
  min_list_N hh F N hl hi hne fun h' M t tk F' N' hM hle => h h' M t tk F' N' hM hle (hB M hM).1 (hB M hM).2
theorem join_T2 {D : Addr} {c : Nat} {us : List Value} {ys : List Str} {t : Tok} {Q : Value → Shared → Prop} (N : News h₀ L s.heap news) (hm : (D, listOf us.toArray c) ∈ news) (hu : StrsAre us ys) (hw : wt ys ≤ 100000)
    (h : ∀ t' k, (Str.join (Str.ofString "/") ys).length ≤ wt ys → Q (.str (Str.join (Str.ofString "/") ys) t') { s with toks := k }) : wpAny (model prog w) A (call (.builtin "str.join") [.str (Str.ofString "/") t, .ref D]) Q E s :=
  join_T N hm hu (by omega) fun t' k _ => h t' k (join_wt ys)
end
end Mine
end
section
open PySem PySem.W PySem.Calls PyProof.Rows
set_option maxRecDepth 100000
namespace Mine
/-- a text, its quotes doubled -/
noncomputable def dq (x : Str) : Str := Txt.replace x (Str.ofString "\"") (Str.ofString "\"\"")
theorem qq_eq : Str.ofString "\"\"" = ⟨#[34, 34]⟩ := by decide +kernel
theorem q_eq : Str.ofString "\"" = ⟨#[34]⟩ := by decide +kernel
theorem dq_list (x : Str) : (dq x).cps.toList = StrLaws.dbl 34 x.cps.toList := by
  unfold dq
  rw [qq_eq, q_eq]
  exact StrLaws.replace_double x 34
theorem dbl_len : ∀ l : List Nat, (StrLaws.dbl 34 l).length ≤ 2 * l.length
  | [] => Nat.le_refl _
  | c :: r => by
    have e : c :: r = [c] ++ r := rfl
    rw [e, StrLaws.dbl_append, List.length_append]
    have h1 := dbl_len r
    have h2 : (StrLaws.dbl 34 [c]).length ≤ 2 := by
      by_cases h : c = 34
      · rw [h, StrLaws.dbl_one]; exact Nat.le_refl _
      · rw [StrLaws.dbl_free 34 [c] (by simp; omega)]; simp
    simp only [List.length_append, List.length_cons, List.length_nil]
    omega
theorem dq_len (x : Str) : (dq x).length ≤ 2 * x.length := by
  have h := dbl_len x.cps.toList
  rw [← dq_list] at h
  simpa [Str.length] using h
section
theorem doubled_use {w : World} {mean : ExcName → Option Value} {mg mb : Str → Option Value} {x : Str} {tx : Tok}
    {dp un : Nat} {gd : Option (List Code)} {cn : Str} {cs : Scope} {a : Addr} {ccd : Value} {cl : List (Str × Addr)} {outer : List Env} {A₀ : Around} {base h₀ : Heap} {L : Addr} {m : Str → Option Value} {news : List (Addr × Obj)} {s : Shared} {Q E : Value → Shared → Prop}
    (B : Below A₀ base outer h₀) (F : Fr h₀ L s.heap m) (X : (hd.heap_39 w.params).In h₀) (N : News h₀ L s.heap news) (T : Top hd.view_39 (looseW hd.view_39 []) mean mg mb h₀) (hk : cs.kind = .function)
    (hp : x.length ≤ 1048576) (hd : dp + 2 < recursionLimit) (hu : un + 10 * 2 < cLine)
    (ret : ∀ t h' tk', (dq x).length ≤ 2 * x.length → Fr h₀ L h' m → News h₀ L h' news → Q (.str (dq x) t) { s with heap := h', toks := tk' }) :
      wpAny (model PySem.Challenge.rw_ny0061_01.row.prog w) (ktrTop dp un gd cn cs L a ccd cl outer) (call (.ref 154) [.str x tx]) Q E s :=
  Cl.useS (doubled_ok x tx) B F X N T hk hp hd hu fun t h' tk' F' N' => ret t h' tk' (dq_len x) F' N'
end
section
variable {prog : Program} {w : World} {A : Around} {h₀ : Heap} {L : Addr} {m : Str → Option Value} {env : Env} {elt : Expr} {x : Str} {scope : Scope} {cl : List (Str × Addr)} {s : Shared} {S : List (Addr × Obj) → Prop} {Fin : List Value → List (Addr × Obj) → Prop} {news : List (Addr × Obj)}
theorem wt_map_dq (xs : List Str) : wt (xs.map dq) ≤ 2 * wt xs := by
  induction xs with
  | nil => exact Nat.zero_le _
  | cons y r ih =>
    rw [List.map_cons, wt_cons, wt_cons]
    have := dq_len y
    omega
theorem comp_dq {vs : List Value} {xs : List Str} (hx : StrsAre vs xs) (hw : wt xs ≤ 100000)
    (turn : ∀ (y : Str) (t : Tok) I oI C oC D m₂ ys h tk (E' : Value → Shared → Prop), y.length ≤ 100000 → LCg.NsObj oC m₂ → m₂ x = some (.str y t) → Fr h₀ L h m → News h₀ L h ((I, oI) :: (C, oC) :: (D, LCg.lst ys) :: news) → LCg.Off3 I C D news → ((@Ne Nat I C) ∧ (@Ne Nat I D) ∧ (@Ne Nat C D)) →
      wpAny (model prog w) A (eval elt (compEnvC scope cl C env)) (LCg.CompEnd h₀ L m { s with heap := h, toks := tk } I oI C oC D (LCg.lst ys) S (fun v news' => KCtEl news (dq y) v news')) E' { s with heap := h, toks := tk })
    (fin : ∀ ys, StrsAre ys (xs.map dq) → wt (xs.map dq) ≤ 2 * wt xs → Fin ys news) : LCg.CompRest prog w A h₀ L m env elt x scope cl s S (fun i v => vs.toArray[i]? = some v) Fin vs.toArray.size 0 [] news :=
  comp_texts dq hx (fun y t I oI C oC D m₂ ys h tk E' hy => turn y t I oI C oC D m₂ ys h tk E' (by have := wt_mem hy; omega)) fun ys h => fin ys h (wt_map_dq xs)
theorem src_dq {Fin : Shared → List Value → List (Addr × Obj) → Prop} {ax : Addr} {k : Nat} {s₁ : Shared} {us : List Value} {xs : List Str}
    (hh : A.handled = none) (F : Fr h₀ L s₁.heap m) (N : News h₀ L s₁.heap news) (hm : (ax, listOf us.toArray k) ∈ news) (hx : StrsAre us xs) (hw : wt xs ≤ 100000)
    (turn : ∀ g (y : Str) (t : Tok) I oI C oC D m₂ ys h tk (E' : Value → Shared → Prop), y.length ≤ 100000 → LCg.SrcAt h₀ ax us.toArray news → LCg.NsObj oC m₂ → m₂ x = some (.str y t) → Fr h₀ L h m → News h₀ L h ((I, oI) :: (C, oC) :: (D, LCg.lst ys) :: news) → LCg.Off3 I C D news → ((@Ne Nat I C) ∧ (@Ne Nat I D) ∧ (@Ne Nat C D)) →
      wpAny (model prog w) A (eval elt (compEnvC scope cl C env)) (LCg.CompEnd h₀ L m { ({ s₁ with heap := g } : Shared) with heap := h, toks := tk } I oI C oC D (LCg.lst ys) (LCg.SrcAt h₀ ax us.toArray) (fun v news' => KCtEl news (dq y) v news')) E' { ({ s₁ with heap := g } : Shared) with heap := h, toks := tk })
    (fin : ∀ g ys, StrsAre ys (xs.map dq) → wt (xs.map dq) ≤ 2 * wt xs → Fin { s₁ with heap := g } ys news) :
    LCg.CompSrc prog w A h₀ L m env elt x scope cl Fin (.ref ax) s₁ := by
  have h1 := strs_len hx
  have h2 := wt_len xs
  refine LCg.CompSrc.ledger hh F N hm (by rw [sizeLine_eq, List.size_toArray]; omega) fun g => ?_
  exact comp_dq hx hw (fun y t I oI C oC D m₂ ys h tk E' hy hC => turn g y t I oI C oC D m₂ ys h tk E' hy (.inr ⟨_, hm, rfl, _, rfl⟩) hC) (fin g)
end
end Mine
end
section
open PySem PySem.W PySem.Calls PyProof.Rows
namespace Mine
/-- the two dots that no name ahead of them pays -/
noncomputable def unp : List Str → Nat
  | [] => 0
  | y :: r => if dlt y = 1 then unp r - 1 else if dlt y = -1 then unp r + 1 else unp r
/-- the names that stay -/
noncomputable def keep : List Str → List Str
  | [] => []
  | y :: r => if dlt y = 1 ∧ unp r = 0 then y :: keep r else keep r
noncomputable def hgt (b : Int) : List Str → List Int
  | [] => [b]
  | y :: r => b :: hgt (b + dlt y) r
theorem dlt_c (y : Str) : dlt y = -1 ∨ dlt y = 0 ∨ dlt y = 1 := by
  unfold dlt
  repeat' split
  all_goals simp
theorem ht_hgt (xs : List Str) : ∀ (pre : List Int) (b : Int), xs.foldl htStep (pre ++ [b]) = pre ++ hgt b xs := by
  induction xs with
  | nil => intro pre b; rfl
  | cons y r ih =>
    intro pre b
    rw [List.foldl_cons]
    have e : htStep (pre ++ [b]) y = (pre ++ [b]) ++ [b + dlt y] := by
      unfold htStep
      congr 2
      simp
    rw [e, ih]
    simp [hgt]
theorem ht_hgt0 (xs : List Str) (b : Int) : xs.foldl htStep [b] = hgt b xs := ht_hgt xs [] b
theorem hgt_le (xs : List Str) : ∀ (b : Int), ∀ a ∈ hgt b xs, b - unp xs ≤ a := by
  induction xs with
  | nil => intro b a ha; rw [List.mem_singleton.mp ha]; simp [unp]
  | cons y r ih =>
    intro b a ha
    rcases List.mem_cons.mp ha with e | h
    · rw [e]; omega
    · have h1 := ih _ a h
      unfold unp
      rcases dlt_c y with q | q | q <;> rw [q] at h1 ⊢
      · rw [if_neg (by decide), if_pos rfl]; push_cast; omega
      · rw [if_neg (by decide), if_neg (by decide)]; omega
      · rw [if_pos rfl]; omega
theorem hgt_head (b : Int) (xs : List Str) : b ∈ hgt b xs := by
  cases xs with
  | nil => exact .head _
  | cons y r => exact .head _
theorem hgt_mem (xs : List Str) : ∀ (b : Int), b - unp xs ∈ hgt b xs := by
  induction xs with
  | nil => intro b; simp [unp, hgt]
  | cons y r ih =>
    intro b
    have h1 := ih (b + dlt y)
    unfold unp
    rcases dlt_c y with q | q | q
    · rw [if_neg (by rw [q]; decide), if_pos q]
      refine .tail _ ?_
      have e : b - ((unp r + 1 : Nat) : Int) = b + dlt y - (unp r : Int) := by rw [q]; push_cast; omega
      rw [e]; exact h1
    · rw [if_neg (by rw [q]; decide), if_neg (by rw [q]; decide)]
      refine .tail _ ?_
      have e : b - (unp r : Int) = b + dlt y - (unp r : Int) := by rw [q]; omega
      rw [e]; exact h1
    · rw [if_pos q]
      by_cases h0 : unp r = 0
      · rw [h0]; simp [hgt]
      · refine .tail _ ?_
        have e : b - ((unp r - 1 : Nat) : Int) = b + dlt y - (unp r : Int) := by rw [q]; omega
        rw [e]; exact h1
theorem min_hgt {xs : List Str} {b M : Int} (h : M ∈ hgt b xs) (h' : ∀ a ∈ hgt b xs, M ≤ a) : M = b - unp xs := by
  have h1 := hgt_le xs b M h
  have h2 := h' _ (hgt_mem xs b)
  omega
theorem hgt_all (xs : List Str) (b : Int) : (∀ a ∈ hgt b xs, b ≤ a) ↔ unp xs = 0 := by
  constructor
  · intro h
    have := h _ (hgt_mem xs b)
    omega
  · intro h a ha
    have := hgt_le xs b a ha
    omega
theorem hgt_get0 (xs : List Str) (b : Int) : (hgt b xs).getD 0 0 = b := by cases xs <;> rfl
theorem keep_fold (xs : List Str) : ∀ (b : Int) (st : List Str), (List.range xs.length).foldl (keptStep (hgt b xs) xs) st = st ++ keep xs := by
  induction xs with
  | nil => intro b st; simp [keep]
  | cons y r ih =>
    intro b st
    rw [List.length_cons, List.range_succ_eq_map, List.foldl_cons, List.foldl_map]
    have e : (fun (x : List Str) (y_1 : Nat) => keptStep (hgt b (y :: r)) (y :: r) x y_1.succ) = keptStep (hgt (b + dlt y) r) r := by
      funext st k
      unfold keptStep
      simp [hgt]
    rw [e, ih]
    have e0 : keptStep (hgt b (y :: r)) (y :: r) st 0 = st ++ (if dlt y = 1 ∧ unp r = 0 then [y] else []) := by
      unfold keptStep
      have h1 : (hgt b (y :: r)).getD (0 + 1) 0 = b + dlt y := by
        show (b :: hgt (b + dlt y) r).getD (0 + 1) 0 = _
        rw [List.getD_cons_succ, hgt_get0]
      have h2 : (hgt b (y :: r)).getD 0 0 = b := hgt_get0 _ _
      have h3 : (hgt b (y :: r)).drop (0 + 1) = hgt (b + dlt y) r := rfl
      rw [h1, h2, h3]
      have h4 := dlt_c y
      by_cases q : dlt y = 1 ∧ unp r = 0
      · rw [if_pos q, if_pos ⟨by omega, (hgt_all r _).mpr q.2⟩]; rfl
      · rw [if_neg q, if_neg (fun z => q ⟨by omega, (hgt_all r _).mp z.2⟩)]; simp
    rw [e0, List.append_assoc]
    congr 1
    conv => rhs; unfold keep
    by_cases q : dlt y = 1 ∧ unp r = 0
    · rw [if_pos q, if_pos q]; rfl
    · rw [if_neg q, if_neg q]; rfl
theorem keptOf_keep (xs : List Str) (b : Int) : keptOf (xs.foldl htStep [b]) xs = keep xs := by
  rw [ht_hgt0]
  unfold keptOf
  rw [keep_fold]; rfl

/-! normpath's machine -/
theorem dlt_m1 {y : Str} (h : dlt y = -1) : y = Str.ofString ".." := by
  unfold dlt at h
  split at h
  · rename_i q; exact eq_of_beq q
  · split at h <;> exact absurd h (by decide)
theorem dlt_0 {y : Str} (h : dlt y = 0) : y = Str.ofString "" ∨ y = Str.ofString "." := by
  unfold dlt at h
  split at h
  · exact absurd h (by decide)
  · split at h
    · rename_i q
      rcases Bool.or_eq_true_iff.mp q with q | q
      · exact .inl (eq_of_beq q)
      · exact .inr (eq_of_beq q)
    · exact absurd h (by decide)
theorem dlt_dd : dlt (Str.ofString "..") = -1 := by decide +kernel
theorem dlt_e : dlt (Str.ofString "") = 0 := by decide +kernel
theorem dlt_d : dlt (Str.ofString ".") = 0 := by decide +kernel
theorem dlt_1 {y : Str} (h1 : y ≠ Str.ofString "") (h2 : y ≠ Str.ofString ".") (h3 : y ≠ Str.ofString "..") : dlt y = 1 := by
  rcases dlt_c y with q | q | q
  · exact absurd (dlt_m1 q) h3
  · rcases dlt_0 q with q | q
    · exact absurd q h1
    · exact absurd q h2
  · exact q
theorem str_len0 {y : Str} (h : y.length = 0) : y = Str.ofString "" := by
  have e : Str.ofString "" = ⟨#[]⟩ := by decide +kernel
  rw [e]
  obtain ⟨c⟩ := y
  congr 1
  exact Array.eq_empty_of_size_eq_zero h
theorem nst_0 {i : Bool} {st : List Str} {y : Str} (h : dlt y = 0) : normStep i st y = st := by
  rcases dlt_0 h with rfl | rfl
  · exact (ns0 (by decide +kernel)).symm
  · exact (ns1 (by decide +kernel) (by decide +kernel)).symm
theorem nst_1 {i : Bool} {st : List Str} {y : Str} (h : dlt y = 1) : normStep i st y = st ++ [y] := by
  have h1 : y ≠ Str.ofString "" := fun e => by rw [e, dlt_e] at h; exact absurd h (by decide)
  have h2 : y ≠ Str.ofString "." := fun e => by rw [e, dlt_d] at h; exact absurd h (by decide)
  have h3 : y ≠ Str.ofString ".." := fun e => by rw [e, dlt_dd] at h; exact absurd h (by decide)
  refine (ns2 (fun e => h1 (str_len0 (by omega))) (beq_eq_false_iff_ne.mpr h2) (bne_iff_ne.mpr h3)).symm
theorem nst_dd (i : Bool) (st : List Str) : normStep i st (Str.ofString "..") = if (!i && st.isEmpty) = true then st ++ [Str.ofString ".."] else if (!st.isEmpty && st.getLastD Str.empty == Str.ofString "..") = true then st ++ [Str.ofString ".."] else st.dropLast := by
  conv => lhs; unfold normStep
  rw [if_neg (by decide +kernel), if_neg (by decide +kernel), if_neg (by decide +kernel)]
noncomputable def Names (l : List Str) : Prop := ∀ y ∈ l, dlt y = 1
theorem names_last {l : List Str} (h : Names l) (hne : l ≠ []) : (l.getLastD Str.empty == Str.ofString "..") = false := by
  refine beq_eq_false_iff_ne.mpr fun e => ?_
  have hm : l.getLastD Str.empty ∈ l := by
    rw [List.getLastD_eq_getLast?, List.getLast?_eq_some_getLast hne]
    exact List.getLast_mem hne
  have := h _ hm
  rw [e, dlt_dd] at this
  exact absurd this (by decide)
theorem names_drop {l : List Str} (h : Names l) : Names l.dropLast := fun y hy => h y (List.dropLast_subset _ hy)
theorem getLastD_app {l r : List Str} (h : r ≠ []) (d : Str) : (l ++ r).getLastD d = r.getLastD d := by
  rw [List.getLastD_eq_getLast?, List.getLastD_eq_getLast?, List.getLast?_append, List.getLast?_eq_some_getLast h]
  rfl
theorem mach (xs : List Str) : ∀ (u : Nat) (ns : List Str), Names ns → xs.foldl (normStep false) (List.replicate u (Str.ofString "..") ++ ns) = List.replicate (u + (unp xs - ns.length)) (Str.ofString "..") ++ ns.take (ns.length - unp xs) ++ keep xs := by
  induction xs with
  | nil => intro u ns _; simp [unp, keep]
  | cons y r ih =>
    intro u ns hn
    rw [List.foldl_cons]
    unfold unp keep
    rcases dlt_c y with q | q | q
    · rw [if_neg (by rw [q]; decide), if_pos q, if_neg (by rw [q]; simp)]
      rw [dlt_m1 q, nst_dd]
      cases hns : ns with
      | nil =>
        have e : (if (!false && (List.replicate u (Str.ofString "..") ++ []).isEmpty) = true then List.replicate u (Str.ofString "..") ++ [] ++ [Str.ofString ".."]
            else if (!(List.replicate u (Str.ofString "..") ++ []).isEmpty && (List.replicate u (Str.ofString "..") ++ []).getLastD Str.empty == Str.ofString "..") = true then List.replicate u (Str.ofString "..") ++ [] ++ [Str.ofString ".."] else (List.replicate u (Str.ofString "..") ++ []).dropLast) = List.replicate (u + 1) (Str.ofString "..") ++ [] := by
          simp only [List.append_nil]
          have e1 : List.replicate u (Str.ofString "..") ++ [Str.ofString ".."] = List.replicate (u + 1) (Str.ofString "..") := (List.replicate_succ' ..).symm
          rw [e1]
          cases u with
          | zero => rfl
          | succ n =>
            rw [if_neg (by simp [List.replicate_succ])]
            rw [if_pos]
            rw [List.replicate_succ']
            simp
        rw [e, ih (u + 1) [] (by intro y hy; cases hy)]
        have e2 : u + 1 + (unp r - ([] : List Str).length) = u + (unp r + 1 - ([] : List Str).length) := Nat.add_right_comm u 1 (unp r)
        rw [e2, List.take_nil, List.take_nil]
      | cons a t =>
        rw [← hns]
        have hne : ns ≠ [] := by rw [hns]; exact List.cons_ne_nil _ _
        have hl := names_last hn hne
        rw [if_neg (by simp [hne]), getLastD_app hne, hl, if_neg (by simp), List.dropLast_append_of_ne_nil hne, ih u ns.dropLast (names_drop hn)]
        obtain ⟨k, hk⟩ := Nat.exists_eq_add_one_of_ne_zero (Nat.ne_of_gt (List.length_pos_iff.mpr hne))
        rw [List.length_dropLast, List.dropLast_eq_take, List.take_take, hk, Nat.add_sub_cancel, Nat.add_sub_add_right, Nat.add_sub_add_right, Nat.min_eq_left (Nat.sub_le _ _)]
    · rw [if_neg (by rw [q]; decide), if_neg (by rw [q]; decide), if_neg (by rw [q]; simp), nst_0 q, ih u ns hn]
    · rw [if_pos q, nst_1 q, List.append_assoc]
      rw [ih u (ns ++ [y]) (fun z hz => (List.mem_append.mp hz).elim (hn z) fun h => by rw [List.mem_singleton.mp h]; exact q)]
      rw [List.length_append, List.length_singleton]
      by_cases h0 : unp r = 0
      · rw [if_pos ⟨q, h0⟩, h0, Nat.sub_zero, Nat.sub_zero, List.take_of_length_le (by simp), List.take_of_length_le (by simp)]
        simp
      · rw [if_neg (fun z => h0 z.2)]
        obtain ⟨k, hk⟩ := Nat.exists_eq_add_one_of_ne_zero h0
        rw [hk, Nat.add_sub_add_right, Nat.add_sub_add_right, Nat.add_sub_cancel, List.take_append_of_le_length (Nat.sub_le _ _)]
theorem machR (xs : List Str) : ∀ (ns : List Str), Names ns → xs.foldl (normStep true) ns = ns.take (ns.length - unp xs) ++ keep xs := by
  induction xs with
  | nil => intro ns _; simp [unp, keep]
  | cons y r ih =>
    intro ns hn
    rw [List.foldl_cons]
    unfold unp keep
    rcases dlt_c y with q | q | q
    · rw [if_neg (by rw [q]; decide), if_pos q, if_neg (by rw [q]; simp)]
      rw [dlt_m1 q, nst_dd, if_neg (by simp)]
      have e0 : (if (!ns.isEmpty && ns.getLastD Str.empty == Str.ofString "..") = true then ns ++ [Str.ofString ".."] else ns.dropLast) = ns.dropLast := by
        cases hns : ns with
        | nil => rfl
        | cons a t =>
          rw [← hns]
          have hne : ns ≠ [] := by rw [hns]; exact List.cons_ne_nil _ _
          rw [names_last hn hne, if_neg (by simp)]
      rw [e0, ih ns.dropLast (names_drop hn)]
      rw [List.length_dropLast, List.dropLast_eq_take, List.take_take, Nat.sub_sub, Nat.add_comm 1, Nat.min_eq_left (Nat.sub_le_sub_left (Nat.le_add_left 1 _) _)]
    · rw [if_neg (by rw [q]; decide), if_neg (by rw [q]; decide), if_neg (by rw [q]; simp), nst_0 q, ih ns hn]
    · rw [if_pos q, nst_1 q]
      rw [ih (ns ++ [y]) (fun z hz => (List.mem_append.mp hz).elim (hn z) fun h => by rw [List.mem_singleton.mp h]; exact q)]
      rw [List.length_append, List.length_singleton]
      by_cases h0 : unp r = 0
      · rw [if_pos ⟨q, h0⟩, h0, Nat.sub_zero, Nat.sub_zero, List.take_of_length_le (by simp), List.take_of_length_le (by simp)]
        simp
      · rw [if_neg (fun z => h0 z.2)]
        obtain ⟨k, hk⟩ := Nat.exists_eq_add_one_of_ne_zero h0
        rw [hk, Nat.add_sub_add_right, Nat.add_sub_cancel, List.take_append_of_le_length (Nat.sub_le _ _)]
theorem keep_names (xs : List Str) : Names (keep xs) := by
  induction xs with
  | nil => intro y hy; cases hy
  | cons y r ih =>
    unfold keep
    split
    · rename_i q
      intro z hz
      rcases List.mem_cons.mp hz with e | e
      · rw [e]; exact q.1
      · exact ih z e
    · exact ih
theorem keep_sub (xs : List Str) : ∀ y ∈ keep xs, y ∈ xs := by
  induction xs with
  | nil => intro y hy; cases hy
  | cons y r ih =>
    unfold keep
    split
    · intro z hz
      rcases List.mem_cons.mp hz with e | e
      · rw [e]; exact .head _
      · exact .tail _ (ih z e)
    · exact fun z hz => .tail _ (ih z hz)
end Mine
end
section
open PySem PySem.W PySem.Calls PyProof.Rows
set_option maxRecDepth 100000
namespace Mine
section
variable {prog : Program} {w : World} {A : Around} {E : Value → Shared → Prop} {s : Shared} {h₀ : Heap}
theorem mul_T2 {L l : Addr} {m : Str → Option Value} {news : List (Addr × Obj)} {y : Str} {ty : Tok} {c : Nat} {n : Int} {u : Tok} {Q : Value → Shared → Prop} (F : Fr h₀ L s.heap m) (N : News h₀ L s.heap news) (hm : (l, listOf #[.str y ty] c) ∈ news) (hy : y.length = 2) (hlo : -2000 ≤ n) (hhi : n ≤ 2000)
    (h : ∀ D us h', StrsAre us (List.replicate n.toNat y) → wt (List.replicate n.toNat y) ≤ 6000 → Fr h₀ L h' m → News h₀ L h' ((D, listOf us.toArray 0) :: news) → (∀ p ∈ news, p.1 < D) → Q (.ref D) { s with heap := h' }) :
    wpAny (model prog w) A (binaryOp .Mult (.ref l) (.int n u)) Q E s :=
  mul_T F N hm (by omega) (by omega) fun D us h' a b => h D us h' a (by rw [b, hy]; omega)
theorem dq_end {L I C D : Addr} {m : Str → Option Value} {s₁ : Shared} {oI oC oD : Obj} {S : List (Addr × Obj) → Prop} {h' : Heap} {tk : Nat} {news : List (Addr × Obj)} {g : Str} {t : Tok}
    (F : Fr h₀ L h' m) (N : News h₀ L h' ((I, oI) :: (C, oC) :: (D, oD) :: news)) (off : LCg.Off3 I C D news) (hS : S news) :
    LCg.CompEnd h₀ L m s₁ I oI C oC D oD S (fun v news' => KCtEl news g v news') (.str g t) { s₁ with heap := h', toks := tk } :=
  ⟨h', tk, news, rfl, F, N, off, hS, rfl, t, rfl⟩
end
/-- what _law_due tells -/
noncomputable def dueWords (xf xo xl : List Str) (e : Str) : Str :=
  Str.join (Str.ofString "/") (List.replicate (unp xo - xf.length) (Str.ofString "..") ++ (keep xo ++ xl).map dq) ++ e
noncomputable def dueW (xf xo xl : List Str) (e : Str) : Str := if ((dueWords xf xo xl e).length : Int) = 0 then Str.ofString "." else dueWords xf xo xl e
noncomputable def duePath (xf xo xl : List Str) : Str := Str.join (Str.ofString "/") (xf ++ keep xo ++ xl)
noncomputable def due (xf xo xl : List Str) (e : Str) : Str × Str × Str :=
  if unp xo < xf.length then (Str.ofString "257 \"" ++ dq (duePath xf xo xl) ++ e, Str.ofString "told", duePath xf xo xl)
  else if (Txt.slice (dueW xf xo xl e) none (some 3) == Str.ofString "257") = true then (dueW xf xo xl e, Str.ofString "told", Str.ofString "")
  else (dueW xf xo xl e, Str.ofString "refused", dueW xf xo xl e)
noncomputable abbrev kfo (xf xo : List Str) : List Str := List.foldl (keptStep (List.foldl htStep [(xf.length : Int)] xo) xo) [] (List.range xo.length)
theorem kfo_eq (xf xo : List Str) : kfo xf xo = keep xo := keptOf_keep xo _
noncomputable abbrev lfo (xf xo xl : List Str) (e : Str) (M : Int) : Str := Str.join (Str.ofString "/") (List.replicate (-M).toNat (Str.ofString "..") ++ List.map dq (kfo xf xo ++ xl)) ++ e
section
variable {xf xo xl : List Str} {e : Str} {M : Int}
theorem due_M (hM : M ∈ List.foldl htStep [(xf.length : Int)] xo) (hle : ∀ a, a ∈ List.foldl htStep [(xf.length : Int)] xo → M ≤ a) : M = xf.length - unp xo := by
  rw [ht_hgt0] at hM hle
  exact min_hgt hM hle
theorem due_e0 (h : 0 < M) (hM : M ∈ List.foldl htStep [(xf.length : Int)] xo) (hle : ∀ a, a ∈ List.foldl htStep [(xf.length : Int)] xo → M ≤ a) :
    due xf xo xl e = (Str.ofString "257 \"" ++ dq (Str.join (Str.ofString "/") (xf ++ kfo xf xo ++ xl)) ++ e, Str.ofString "told", Str.join (Str.ofString "/") (xf ++ kfo xf xo ++ xl)) := by
  have h1 := due_M hM hle
  rw [kfo_eq, due, if_pos (by omega), duePath]
theorem lfo_eq (hM : M ∈ List.foldl htStep [(xf.length : Int)] xo) (hle : ∀ a, a ∈ List.foldl htStep [(xf.length : Int)] xo → M ≤ a) : lfo xf xo xl e M = dueWords xf xo xl e := by
  have h1 := due_M hM hle
  have h2 : (-M).toNat = unp xo - xf.length := by omega
  rw [lfo, kfo_eq, h2, dueWords]
theorem due_e1 {M' : Int} (h : ¬ 0 < M') (hM' : M' ∈ List.foldl htStep [(xf.length : Int)] xo) (hle' : ∀ a, a ∈ List.foldl htStep [(xf.length : Int)] xo → M' ≤ a)
    (h0 : ((lfo xf xo xl e M).length : Int) ≠ 0) (h3 : (Txt.slice (lfo xf xo xl e M) none (some 3) == Str.ofString "257") = true) (hM : M ∈ List.foldl htStep [(xf.length : Int)] xo) (hle : ∀ a, a ∈ List.foldl htStep [(xf.length : Int)] xo → M ≤ a) :
    due xf xo xl e = (lfo xf xo xl e M, Str.ofString "told", Str.ofString "") := by
  have h1 := due_M hM' hle'
  rw [lfo_eq hM hle] at h0 h3 ⊢
  have h2 : dueW xf xo xl e = dueWords xf xo xl e := by rw [dueW, if_neg h0]
  rw [due, if_neg (by omega), h2, if_pos h3]
theorem due_e2 {M' : Int} (h : ¬ 0 < M') (hM' : M' ∈ List.foldl htStep [(xf.length : Int)] xo) (hle' : ∀ a, a ∈ List.foldl htStep [(xf.length : Int)] xo → M' ≤ a)
    (h0 : ((lfo xf xo xl e M).length : Int) ≠ 0) (h3 : (Txt.slice (lfo xf xo xl e M) none (some 3) == Str.ofString "257") = false) (hM : M ∈ List.foldl htStep [(xf.length : Int)] xo) (hle : ∀ a, a ∈ List.foldl htStep [(xf.length : Int)] xo → M ≤ a) :
    due xf xo xl e = (lfo xf xo xl e M, Str.ofString "refused", lfo xf xo xl e M) := by
  have h1 := due_M hM' hle'
  rw [lfo_eq hM hle] at h0 h3 ⊢
  have h2 : dueW xf xo xl e = dueWords xf xo xl e := by rw [dueW, if_neg h0]
  rw [due, if_neg (by omega), h2, if_neg (by rw [h3]; decide)]
theorem due_e3 {M' : Int} (h : ¬ 0 < M') (hM' : M' ∈ List.foldl htStep [(xf.length : Int)] xo) (hle' : ∀ a, a ∈ List.foldl htStep [(xf.length : Int)] xo → M' ≤ a)
    (h0 : ((lfo xf xo xl e M).length : Int) = 0) (hM : M ∈ List.foldl htStep [(xf.length : Int)] xo) (hle : ∀ a, a ∈ List.foldl htStep [(xf.length : Int)] xo → M ≤ a) :
    due xf xo xl e = (Str.ofString ".", Str.ofString "refused", Str.ofString ".") := by
  have h1 := due_M hM' hle'
  rw [lfo_eq hM hle] at h0
  have h2 : dueW xf xo xl e = Str.ofString "." := by rw [dueW, if_pos h0]
  rw [due, if_neg (by omega), h2, if_neg (by decide +kernel)]
theorem due_done {g h' : Heap} {L' l : Addr} {s : Shared} {tk' : Nat} {m' : Str → Option Value} {news' : List (Addr × Obj)} {t u v : Tok} {a b c : Str}
    (F : Fr g L' h' m') (N : News g L' h' ((l, tupObj [.str a t, .str b u, .str c v]) :: news')) (hd : due xf xo xl e = (a, b, c)) :
    Done g L' s (fun r own => ∃ l t u v, r = .ref l ∧ own = [(l, tupObj [.str (due xf xo xl e).1 t, .str (due xf xo xl e).2.1 u, .str (due xf xo xl e).2.2 v])]) (.ref l) { s with heap := h', toks := tk' } :=
  Done.intro [(l, tupObj [.str a t, .str b u, .str c v])] F N (fun p hp => by rw [List.mem_singleton.mp hp]; exact .head _) (by rw [hd]; exact ⟨_, _, _, _, rfl, rfl⟩)
end
end Mine
end
section
open PySem PySem.W PySem.Calls PyProof.Rows
set_option maxRecDepth 100000
namespace Mine
theorem slice_I {prog : Program} {w : World} {A : Around} {E : Value → Shared → Prop} {s : Shared} {h₀ : Heap} {L l : Addr} {m : Str → Option Value} {news : List (Addr × Obj)} {value slice : Expr} {Q : Value → Shared → Prop} {vs : List Value} {ns : List Int} {x : Int} {u : Tok}
    (F : Fr h₀ L s.heap m) (N : News h₀ L s.heap news) (hl : s.heap.IsList l vs.toArray) (hi : IntsAre vs ns) (h0 : 0 ≤ x) (hz : vs.length ≤ 100000)
    (h : ∀ D ws h', IntsAre ws (List.drop x.toNat ns) → Fr h₀ L h' m → News h₀ L h' ((D, listOf ws.toArray 0) :: news) → (∀ p ∈ news, p.1 < D) → Q (.ref D) { s with heap := h' })
    (hs : subscripted slice false (.ref l) (.ref s.heap.objs.size) = operate [.ref s.heap.objs.size, .ref l] (getItem (.ref l) (.ref s.heap.objs.size)) := by with_unfolding_all rfl) (ht : ∀ r, letTemporaryGo value (.ref l) r = pure () := by intro _; with_unfolding_all rfl) :
    wpAny (model prog w) A (subscriptTail value slice (.ref l) (.ref s.heap.objs.size)) Q E { s with heap := s.heap.push { cls := .type "slice", data := .fields #[.int x u, .none, .none] } } := by
  refine kmk_slice F N hl (IsPart.int _ _) IsPart.none (fun D h' F' N' l1 => h D (slicePick vs.toArray (some x) none none).toList h' (kmk_from hi h0) F' ?_ l1) hs ht (by rw [sizeLine_eq, List.size_toArray]; omega)
  rw [Array.toArray_toList]
  exact N'
set_option maxHeartbeats 8000000 in
theorem due_ok {w : World} {mean : ExcName → Option Value} {mg mb : Str → Option Value} (lf lo ll : Addr) (vf vo vl : List Value) (xf xo xl : List Str) (e : Str) (te : Tok) (hf : StrsAre vf xf) (ho : StrsAre vo xo) (hl : StrsAre vl xl)
    (hwf : wt xf ≤ 1000) (hwo : wt xo ≤ 1000) (hwl : wt xl ≤ 1000) (he : e.length ≤ 1000) :
    Cl w mean mg mb 6 166 [.ref lf, .ref lo, .ref ll, .str e te] (fun h => h.IsList lf vf.toArray ∧ h.IsList lo vo.toArray ∧ h.IsList ll vl.toArray) (fun r own => ∃ l t u v, r = .ref l ∧ own = [(l, tupObj [.str (due xf xo xl e).1 t, .str (due xf xo xl e).2.1 u, .str (due xf xo xl e).2.2 v])]) := by
  w_top off
  k_with_none
  (k_with "call builtin:len" => (
      k_here
      (with_reducible show wpAny _ _ (call (Value.builtin "len") [Value.ref _]) _ _ _)
      k_dflt (refine' len_T ?k1 ?k2 ?k3 ?_; (case k1 => is_list); (case k2 => assumption); (case k3 => omega))
      intro t' k' a'))
  (k_with "call builtin:list.append" => (
      k_here
      (with_reducible show wpAny _ _ (call (Value.builtin "list.append") [Value.ref _, Value.int _ _]) _ _ _)
      k_dflt (refine append_I (by k_asm) (by k_asm) (by assumption) (by assumption) (by assumption) ?_)
      intro us' c' h' a' F' N'))
  (k_with "subscriptTail" => (
      k_here
      (with_reducible show wpAny _ _ (subscriptTail _ _ (Value.ref _) (Value.int (-1) _)) _ _ _)
      k_dflt (refine' last_I ?k1 ?k2 ?k3 ?_ ?k4; (case k1 => is_list); (case k2 => assumption); (case k3 => assumption); (case k4 => with_unfolding_all rfl))
      intro t'))
  (k_with "exec For" => (
      k_here
      k_dflt (refine' For_invVF ?k1 ?k2 ?k3 ?_ ?k4 ?k5; (case k1 => k_asm); (case k2 => exact rfl); (case k3 => exact rfl); (case k4 => intro _; rfl); (case k5 => passes_own); k_whole)))
  (k_with "pyIter ref" => (
      k_here
      k_dflt (refine' ht_loop ?k1 ?k2 ?k3 ?k4 ?k5 ?k6 ?k7 ?k8 ?k9 ?_ ?_; (case k1 => exact rfl); (case k2 => assumption); (case k3 => assumption);  (case k4 => k_asm); (case k5 => k_asm); (case k6 => exact IntsAre.cons _ _ IntsAre.nil); (case k7 => assumption); (case k8 => exact rfl); (case k9 => k_all))))
  (k_with "pyIter ref" => (
      k_here
      (rename IsRange _ _ _ _ _ _ _ _ => rgX)
      k_dflt (refine' kept_loop2 ?k1 ?k2 ?k3 ?k4 ?k5 ?k6 ?k7 ?k8 ?k9 ?k10 ?_ ?_; (case k2 => assumption); (case k1 => assumption); (case k3 => assumption); (case k4 => assumption); (case k5 => exact rfl); (case k6 => exact rgX); (case k7 => exact rfl); (case k8 => k_asm); (case k9 => k_asm); (case k10 => k_all))))
  (k_with "call builtin:list.append" => (
      k_here
      (with_reducible show wpAny _ _ (call (Value.builtin "list.append") [Value.ref _, Value.str _ _]) _ _ _)
      k_dflt (refine append_T (by k_asm) (by k_asm) (by assumption) (by assumption) (by assumption) ?_)
      intro us' c' h' a' e' F' N'))
  (k_with "call builtin:min" => (
      k_here
      (with_reducible show wpAny _ _ (call (Value.builtin "min") [Value.ref _]) _ _ _)
      k_dflt (refine' min_B ?k1 ?k2 ?k3 ?k4 ?k5 ?k6 ?k7 ?_; (case k1 => exact rfl); (case k2 => k_asm); (case k3 => k_asm); (case k4 => is_list); (case k5 => assumption); (case k6 => assumption); (case k7 => first | exact hts_bound (by assumption) (by assumption) | exact fun a ha => hts_bound (by assumption) (by assumption) a (List.mem_of_mem_drop ha)))
      intro h' M' t' k' F' N' a' b' c' d'))
  (k_with "subscriptTail" => (
      k_here
      (with_reducible show wpAny _ _ (subscriptTail _ _ (Value.ref _) (Value.int _ _)) _ _ _)
      k_dflt (refine' item_T ?k1 ?k2 ?k3 ?k4 ?k5 ?_ ?k6; (case k1 => is_list); (case k2 => assumption); (case k3 => omega); (case k4 => omega); (case k5 => omega); (case k6 => with_unfolding_all rfl))
      intro t'))
  (k_with "binaryOp Add ref ref" => (
      k_here
      (with_reducible show wpAny _ _ (binaryOp Operator.Add (Value.ref _) (Value.ref _)) _ _ _)
      k_dflt (refine' add_TT ?k1 ?k2 ?k3 ?k4 ?k5 ?k6 ?k7 ?k8 ?_; (case k1 => k_asm); (case k2 => k_asm); (case k3 => is_list); (case k4 => is_list); (case k5 => assumption); (case k6 => assumption); (case k7 => omega); (case k8 => omega))
      intro D' us' h' a' b' F' N' l1
      (try k_lt l1)))
  (k_with "binaryOp Mult ref int" => (
      k_here
      (with_reducible show wpAny _ _ (binaryOp Operator.Mult (Value.ref _) (Value.int _ _)) _ _ _)
      k_dflt (refine' mul_T2 ?k1 ?k2 ?k3 ?ky ?k4 ?k5 ?_; (case k1 => k_asm); (case k2 => k_asm); (case k3 => k_mem); (case ky => decide +kernel); (case k4 => omega); (case k5 => omega))
      intro D' us' h' a' b' F' N' l1
      (try k_lt l1)))
  (k_with "call builtin:str.join" => (
      k_here
      (with_reducible show wpAny _ _ (call (Value.builtin "str.join") [Value.str _ _, Value.ref _]) _ _ _)
      k_dflt (refine' join_T2 ?k1 ?k2 ?k3 ?k4 ?_; (case k1 => k_asm); (case k2 => k_mem); (case k3 => assumption); (case k4 => omega))
      intro t' k' a'))
  (k_with "binaryOp Add str str" => (
      k_here
      (with_reducible show wpAny _ _ (binaryOp Operator.Add (Value.str _ _) (Value.str _ _)) _ _ _)
      (refine add_T (by first | omega | (have h5 : (Str.ofString "257 \"").length = 5 := by decide +kernel; omega)) ?_)
      intro t' k' a'))
  (k_with "truthy str" => (
      k_here
      (with_reducible show wpAny _ _ (truthy (Value.str _ _)) _ _ _)
      (refine KXt.truthy rfl (by omega) ?_)
      intro k'))
  (k_with "call ref" => (
      k_here
      (with_reducible show wpAny _ _ (call (Value.ref 154) [Value.str _ _]) _ _ _)
      k_dflt (refine' doubled_use ?k1 ?k2 ?k3 ?k4 ?k5 ?k6 ?k7 ?k8 ?k9 ?_; (case k1 => k_asm); (case k2 => k_asm); (case k3 => k_asm); (case k4 => k_asm); (case k5 => k_asm); (case k6 => first | exact rfl | assumption); (case k7 => omega); (case k8 => ktr_room); (case k9 => ktr_units); k_whole)
      intro t9 h9 tk9 a9 F9 N9
      (try dsimp only)
      (try k_fold)))
  (k_with "CompRest" => (
      k_here
      k_dflt (refine' comp_dq ?k1 ?k2 ?_ ?_; (case k1 => assumption); (case k2 => omega))))
  (k_with "eval ListComp" => (
      k_here
      k_dflt (refine LCg.ListComp_U (F₀ := by k_asm) (by rfl) (by decide) (by rfl) (by decide) (by rfl) ?_)
      k_dflt lcg_toSrc))
  (k_with "CompSrc" => (
      k_here
      k_dflt (refine' src_dq ?k1 ?k2 ?k3 ?k4 ?k5 ?k6 ?_ ?_; (case k1 => exact rfl); (case k2 => k_asm); (case k3 => k_asm); (case k4 => k_mem); (case k5 => assumption); (case k6 => omega))))
  (k_with "CompEnd" => (
      k_here
      k_dflt (exact dq_end (by assumption) (by assumption) (by assumption) (by assumption))))
  (k_with "subscriptTail Name Slice ref ref" => (
      k_here
      (with_reducible show wpAny _ _ (subscriptTail _ (PySem.Expr.Slice (some _) none none _) (Value.ref _) (Value.ref _)) _ _ _)
      k_dflt (refine' slice_I (s := ⟨_, _, _, _, _⟩) ?k1 ?k2 ?k3 ?k4 ?k5 ?k6 ?_ ?k7 ?k8; (case k1 => k_asm); (case k2 => k_asm); (case k3 => is_list); (case k4 => with_reducible assumption); (case k5 => omega); (case k6 => omega); (case k7 => with_unfolding_all rfl); (case k8 => intro _; with_unfolding_all rfl))
      intro D' ws' h' a' F' N' l1
      (try k_lt l1)))
  (
    unfold Cl; k_fill; intro dp un gd cn cs a ccd cl outer A₀ base h₀ L m news s Q E B F X N T hk hpre hdp hun hret
    k_dflt (refine' call_clean B F X N T ?kA ?kF ?kK ?k6 ?k7 ?k8 ?k9 ?kB ?c2 ?c3 ?c4 ?c5 hret ?_; (case kA => exact rfl); (case kF => exact rfl); (case kK => assumption); (case k6 => k_is); (case k7 => k_is); (case k8 => ktr_room); (case k9 => exact BindsTo.of_eq rfl); (case c5 => decide); (case kB => exact locs rfl); (case c2 => exact rfl); (case c3 => exact rfl); (case c4 => exact rfl); k_whole)
    intro L' h' tk F' N' B' X' T' htk0 htk1
    clear hret B X T F N
    have htk : 1 ≤ tk := htk1 (List.cons_ne_nil _ _)
    clear htk1
    (try dsimp only); (try k_lift B'); (try k_fold))
  obtain ⟨hlf, hlo, hll⟩ := hpre
  have hkw := keptOf_wt (xo.foldl htStep [(xf.length : Int)]) xo
  unfold keptOf at hkw
  k_steps
  all_goals try (
    with_reducible show InvEndG _ _ (HtS _ _ _ _ _) _ _ _
    first
      | (refine ht_end (by k_asm) (by k_asm) (fun _ h => h) (by assumption) (by assumption) (hs_dd (by assumption) (by assumption)) (fun z hz => if_neg hz))
      | (refine ht_end2 (by k_asm) (by k_asm) (fun _ h => .tail _ h) (by assumption) (ints_push (by assumption)) (hs_0 (by assumption) (by assumption) (by assumption)) (fun z hz => if_neg hz))
      | (refine ht_end2 (by k_asm) (by k_asm) (fun _ h => .tail _ h) (by assumption) (ints_push (by assumption)) (hs_1 (by assumption) (by assumption) (by assumption)) (fun z hz => if_neg hz)))
  all_goals try (
    with_reducible show InvEndG _ _ (TxS _ _ _ _ _) _ _ _
    first
      | (refine tx_end (by k_asm) (by k_asm) (fun _ h => h) (by assumption) (by assumption) (kd_no1 (by assumption)) (fun z hz => if_neg hz))
      | (refine tx_end2 (by k_asm) (by k_asm) (fun _ h => .tail _ h) (by assumption) (strs_push (by assumption)) (kd_yes (by assumption) (by assumption) (by assumption)) (fun z hz => if_neg hz))
      | (refine tx_end (by k_asm) (by k_asm) (fun _ h => .tail _ h) (by assumption) (by assumption) (kd_no2 (by assumption) (by assumption) (by assumption) (by assumption)) (fun z hz => if_neg hz)))
  all_goals (with_reducible show Done _ _ _ _ _ _)
  · exact due_done (by k_asm) (by k_asm) (due_e0 (by assumption) (by assumption) (by assumption))
  · exact due_done (by k_asm) (by k_asm) (due_e1 (by assumption) (by assumption) (by assumption) (by assumption) (by assumption) (by assumption) (by assumption))
  · exact due_done (by k_asm) (by k_asm) (due_e2 (by assumption) (by assumption) (by assumption) (by assumption) (by assumption) (by assumption) (by assumption))
  · exact due_done (by k_asm) (by k_asm) (due_e3 (by assumption) (by assumption) (by assumption) (by assumption) (by assumption) (by assumption))
end Mine
end
section
open PySem PySem.W PySem.Calls PyProof.Rows
namespace Mine
/-- a text's signs -/
noncomputable abbrev cs (x : Str) : List Nat := x.cps.toList
theorem cs_inj {x y : Str} (h : cs x = cs y) : x = y := StrLaws.mk_of_toList (l := cs y) h ▸ by
  obtain ⟨c⟩ := y
  simp [cs]
theorem cs_app (x y : Str) : cs (x ++ y) = cs x ++ cs y := by simp [cs, Str.cps_append]
theorem cs_len (x : Str) : (cs x).length = x.length := by simp [cs, Str.length]
theorem cs_dq (x : Str) : cs (dq x) = StrLaws.dbl 34 (cs x) := dq_list x
theorem cs_slash : cs (Str.ofString "/") = [47] := by decide +kernel
theorem cs_q : cs (Str.ofString "\"") = [34] := by decide +kernel
theorem cs_dd : cs (Str.ofString "..") = [46, 46] := by decide +kernel
theorem cs_d : cs (Str.ofString ".") = [46] := by decide +kernel
theorem cs_e : cs (Str.ofString "") = [] := by decide +kernel
theorem cs_257q : cs (Str.ofString "257 \"") = [50, 53, 55, 32, 34] := by decide +kernel
theorem cs_257 : cs (Str.ofString "257") = [50, 53, 55] := by decide +kernel
theorem slash_mk : Str.ofString "/" = ⟨#[47]⟩ := by decide +kernel
theorem sliceN (x : Str) (a b : Nat) (hab : a ≤ b) : cs (Txt.slice x (some (a : Int)) (some (b : Int))) = ((cs x).drop a).take (b - a) := by
  have e : Txt.slice x (some (a : Int)) (some (b : Int)) = StrLaws.sliceText x (some ((min a x.length : Nat) : Int)) (some ((min b x.length : Nat) : Int)) := by
    unfold Txt.slice StrLaws.sliceText
    have e1 : Builtin.Str.strSliceIndices (some (a : Int)) (some (b : Int)) 1 x.length = Builtin.Str.strSliceIndices (some ((min a x.length : Nat) : Int)) (some ((min b x.length : Nat) : Int)) 1 x.length := by
      unfold Builtin.Str.strSliceIndices
      have h1 : ¬ ((a : Int) < 0) := by omega
      have h2 : ¬ ((b : Int) < 0) := by omega
      have h3 : ¬ (((min a x.length : Nat) : Int) < 0) := by omega
      have h4 : ¬ (((min b x.length : Nat) : Int) < 0) := by omega
      simp only [h1, h2, h3, h4, if_false]
      congr 1 <;> simp <;> omega
    rw [e1]
  rw [e, StrLaws.sliceText_nat x (by omega) (by omega)]
  show ((List.drop (min a x.length) (cs x)).take (min b x.length - min a x.length)) = _
  have hl := cs_len x
  by_cases h1 : a ≤ x.length
  · rw [Nat.min_eq_left h1]
    by_cases h2 : b ≤ x.length
    · rw [Nat.min_eq_left h2]
    · rw [Nat.min_eq_right (by omega), List.take_of_length_le (by rw [List.length_drop]; omega), List.take_of_length_le (by rw [List.length_drop]; omega)]
  · rw [Nat.min_eq_right (by omega), Nat.min_eq_right (by omega), Nat.sub_self, List.take_zero, List.drop_eq_nil_of_le (by omega), List.take_nil]
theorem slice_none (x : Str) (u : Option Int) : Txt.slice x none u = Txt.slice x (some 0) u := by
  unfold Txt.slice
  rw [StrLaws.sliceIdx_none_lo]
theorem sliceT (x : Str) (b : Nat) : cs (Txt.slice x none (some (b : Int))) = (cs x).take b := by
  rw [slice_none]
  have := sliceN x 0 b (Nat.zero_le _)
  simpa using this
theorem sliceD (x : Str) (a : Nat) : cs (Txt.slice x (some (a : Int)) none) = (cs x).drop a := by
  by_cases h : a ≤ x.length
  · have e : Txt.slice x (some (a : Int)) none = Txt.slice x (some (a : Int)) (some (x.length : Int)) := by
      unfold Txt.slice
      rw [StrLaws.sliceIdx_none_hi]
    rw [e, sliceN x a x.length h, List.take_of_length_le]
    rw [List.length_drop, cs_len]; omega
  · rw [PyProof.Rows.slice_beyond (by omega), List.drop_eq_nil_of_le (by rw [cs_len]; omega)]; rfl
/-! joins -/
noncomputable abbrev jn (l : List Str) : Str := Str.join (Str.ofString "/") l
theorem jn_two (x y : Str) (r : List Str) : jn (x :: y :: r) = x ++ Str.ofString "/" ++ jn (y :: r) := rfl
theorem jn_one (x : Str) : jn [x] = x := rfl
theorem cs_jn_two (x y : Str) (r : List Str) : cs (jn (x :: y :: r)) = cs x ++ 47 :: cs (jn (y :: r)) := by
  rw [jn_two, cs_app, cs_app, cs_slash]; simp
theorem jn_nil : jn [] = Str.ofString "" := by decide +kernel
noncomputable def Free (x : Str) : Prop := 47 ∉ cs x
theorem cut_eq : ∀ {a b p q : List Nat}, 47 ∉ a → 47 ∉ b → a ++ 47 :: p = b ++ 47 :: q → a = b ∧ p = q
  | [], [], _, _, _, _, h => ⟨rfl, (List.cons.inj h).2⟩
  | [], c :: b, _, _, _, hb, h => by
    have := (List.cons.inj h).1
    exact absurd (List.mem_cons.mpr (.inl this)) hb
  | c :: a, [], _, _, ha, _, h => by
    have := (List.cons.inj h).1
    exact absurd (List.mem_cons.mpr (.inl this.symm)) ha
  | c :: a, d :: b, p, q, ha, hb, h => by
    obtain ⟨h1, h2⟩ := List.cons.inj h
    obtain ⟨h3, h4⟩ := cut_eq (fun m => ha (.tail _ m)) (fun m => hb (.tail _ m)) h2
    exact ⟨by rw [h1, h3], h4⟩
theorem jn_inj : ∀ {xs ys : List Str}, xs ≠ [] → ys ≠ [] → (∀ x ∈ xs, Free x) → (∀ y ∈ ys, Free y) → jn xs = jn ys → xs = ys
  | [], _, h, _, _, _, _ => absurd rfl h
  | _, [], _, h, _, _, _ => absurd rfl h
  | [x], [y], _, _, _, _, h => by rw [jn_one, jn_one] at h; rw [h]
  | [x], y :: y' :: r, _, _, hx, _, h => by
    have := hx x (.head _)
    rw [jn_one] at h
    unfold Free at this
    rw [h, cs_jn_two] at this
    exact absurd (List.mem_append.mpr (.inr (.head _))) this
  | x :: x' :: r, [y], _, _, _, hy, h => by
    have := hy y (.head _)
    rw [jn_one] at h
    unfold Free at this
    rw [← h, cs_jn_two] at this
    exact absurd (List.mem_append.mpr (.inr (.head _))) this
  | x :: x' :: r, y :: y' :: t, _, _, hx, hy, h => by
    have h' := congrArg cs h
    rw [cs_jn_two, cs_jn_two] at h'
    obtain ⟨h1, h2⟩ := cut_eq (hx x (.head _)) (hy y (.head _)) h'
    rw [cs_inj h1, jn_inj (List.cons_ne_nil _ _) (List.cons_ne_nil _ _) (fun z hz => hx z (.tail _ hz)) (fun z hz => hy z (.tail _ hz)) (cs_inj h2)]
noncomputable abbrev sp (x : Str) : List Str := Txt.split x (Str.ofString "/")
theorem sp_free (x : Str) : ∀ p ∈ sp x, Free p := by
  unfold sp
  rw [slash_mk]
  exact StrLaws.split_free x 47
theorem jn_sp (x : Str) : jn (sp x) = x := StrLaws.join_split x _
theorem sp_ne (x : Str) : sp x ≠ [] := by
  unfold sp Txt.split
  split
  · exact List.cons_ne_nil _ _
  · rw [StrLaws.partsBetween_eq]
    obtain ⟨p, r, e⟩ := StrLaws.partsFrom_ne x (Str.ofString "/").length 0 (Builtin.Str.occurrences x (Str.ofString "/") 0 x.length (x.length + 1))
    rw [e]
    split <;> exact List.cons_ne_nil _ _
theorem sp_jn {xs : List Str} (h : xs ≠ []) (hf : ∀ x ∈ xs, Free x) : sp (jn xs) = xs := jn_inj (sp_ne _) h (sp_free _) hf (jn_sp _)
/-! a text put ahead of or behind a join -/
theorem jn_head (a x : Str) (r : List Str) : a ++ jn (x :: r) = jn ((a ++ x) :: r) := by
  cases r with
  | nil => rfl
  | cons y r =>
    rw [jn_two, jn_two, Str.append_assoc, Str.append_assoc, Str.append_assoc]
theorem jn_last (l : List Str) (x e : Str) : jn (l ++ [x]) ++ e = jn (l ++ [x ++ e]) := by
  induction l with
  | nil => rfl
  | cons y r ih =>
    cases r with
    | nil =>
      show jn (y :: [x]) ++ e = jn (y :: [x ++ e])
      rw [jn_two, jn_two, Str.append_assoc]; rfl
    | cons z r =>
      show jn (y :: (z :: (r ++ [x]))) ++ e = jn (y :: (z :: (r ++ [x ++ e])))
      rw [jn_two, jn_two, Str.append_assoc]
      have : jn (z :: (r ++ [x])) ++ e = jn (z :: (r ++ [x ++ e])) := ih
      rw [this]
theorem dq_app (x y : Str) : dq (x ++ y) = dq x ++ dq y := by
  apply cs_inj
  rw [cs_dq, cs_app, cs_app, cs_dq, cs_dq, StrLaws.dbl_append]
theorem dq_free34 {x : Str} (h : 34 ∉ cs x) : dq x = x := by
  apply cs_inj
  rw [cs_dq, StrLaws.dbl_free 34 _ h]
theorem dq_slash : dq (Str.ofString "/") = Str.ofString "/" := dq_free34 (by rw [cs_slash]; decide)
theorem dq_jn : ∀ l : List Str, dq (jn l) = jn (l.map dq)
  | [] => by rw [jn_nil]; exact dq_free34 (by rw [cs_e]; decide)
  | [x] => rfl
  | x :: y :: r => by
    rw [jn_two, dq_app, dq_app, dq_slash, dq_jn (y :: r)]; rfl
theorem mem_dbl {c : Nat} : ∀ {l : List Nat}, c ∈ StrLaws.dbl 34 l ↔ c ∈ l
  | [] => Iff.rfl
  | k :: r => by
    unfold StrLaws.dbl
    split
    · simp only [List.mem_cons, mem_dbl (l := r)]
      constructor
      · rintro (h | h | h)
        · exact .inl h
        · exact .inl h
        · exact .inr h
      · rintro (h | h)
        · exact .inl h
        · exact .inr (.inr h)
    · simp only [List.mem_cons, mem_dbl (l := r)]
theorem dq_Free {x : Str} : Free (dq x) ↔ Free x := by
  unfold Free
  rw [cs_dq, mem_dbl]
theorem dq_inj34 {x y : Str} (h : 34 ∉ cs y) (e : dq x = y) : x = y := by
  have h1 : 34 ∉ cs x := by rw [← e, cs_dq, mem_dbl] at h; exact h
  rw [← e, dq_free34 h1]
theorem dlt_dq (x : Str) : dlt (dq x) = dlt x := by
  rcases dlt_c x with q | q | q
  · rw [dlt_m1 q, dq_free34 (by rw [cs_dd]; decide)]
  · rcases dlt_0 q with e | e
    · rw [e, dq_free34 (by rw [cs_e]; decide)]
    · rw [e, dq_free34 (by rw [cs_d]; decide)]
  · rw [q]
    refine dlt_1 (fun e => ?_) (fun e => ?_) (fun e => ?_)
    · rw [dq_inj34 (by rw [cs_e]; decide) e, dlt_e] at q; exact absurd q (by decide)
    · rw [dq_inj34 (by rw [cs_d]; decide) e, dlt_d] at q; exact absurd q (by decide)
    · rw [dq_inj34 (by rw [cs_dd]; decide) e, dlt_dd] at q; exact absurd q (by decide)
theorem unp_dq (xs : List Str) : unp (xs.map dq) = unp xs := by
  induction xs with
  | nil => rfl
  | cons y r ih => rw [List.map_cons, unp, unp, ih, dlt_dq]
theorem keep_dq (xs : List Str) : keep (xs.map dq) = (keep xs).map dq := by
  induction xs with
  | nil => rfl
  | cons y r ih =>
    rw [List.map_cons, keep, keep, ih, dlt_dq, unp_dq]
    split <;> rfl
theorem dlt_mem34 {x : Str} (h : 34 ∈ cs x) : dlt x = 1 := by
  refine dlt_1 (fun e => ?_) (fun e => ?_) (fun e => ?_)
  · rw [e, cs_e] at h; exact absurd h (by decide)
  · rw [e, cs_d] at h; exact absurd h (by decide)
  · rw [e, cs_dd] at h; exact absurd h (by decide)
end Mine
end
section
open PySem PySem.W PySem.Calls PyProof.Rows
namespace Mine
noncomputable def dot (y : Str) : Str := if (y.length : Int) = 0 then Str.ofString "." else y
theorem len_cs {x : Str} : (x.length : Int) = 0 ↔ cs x = [] := by
  have := cs_len x
  constructor
  · intro h; exact List.eq_nil_of_length_eq_zero (by omega)
  · intro h; rw [h] at this; simp at this; omega
theorem beq_cs (x y : Str) : (x == y) = decide (cs x = cs y) := by
  by_cases h : x = y
  · subst h; simp
  · rw [beq_eq_false_iff_ne.mpr h, decide_eq_false (fun e => h (cs_inj e))]
theorem bne_cs (x y : Str) : (x != y) = !decide (cs x = cs y) := by rw [bne, beq_cs]
/-! splitroot -/
theorem sl01 (x : Str) : cs (Txt.slice x none (some 1)) = (cs x).take 1 := sliceT x 1
theorem sl12 (x : Str) : cs (Txt.slice x (some 1) (some 2)) = ((cs x).drop 1).take 1 := sliceN x 1 2 (by decide)
theorem sl23 (x : Str) : cs (Txt.slice x (some 2) (some 3)) = ((cs x).drop 2).take 1 := sliceN x 2 3 (by decide)
theorem sl02 (x : Str) : cs (Txt.slice x none (some 2)) = (cs x).take 2 := sliceT x 2
theorem sl03 (x : Str) : cs (Txt.slice x none (some 3)) = (cs x).take 3 := sliceT x 3
theorem sl35 (x : Str) : cs (Txt.slice x (some 3) (some 5)) = ((cs x).drop 3).take 2 := sliceN x 3 5 (by decide)
theorem sl1 (x : Str) : cs (Txt.slice x (some 1) none) = (cs x).drop 1 := sliceD x 1
theorem sl2 (x : Str) : cs (Txt.slice x (some 2) none) = (cs x).drop 2 := sliceD x 2
theorem rootOf_rel {x : Str} (h : (cs x).head? ≠ some 47) : rootOf x = (Str.ofString "", x) := by
  unfold rootOf
  rw [if_pos]
  rw [bne_cs, sl01, cs_slash]
  simp only [Bool.not_eq_true', decide_eq_false_iff_not]
  intro e
  apply h
  cases hx : cs x with
  | nil => rw [hx] at e; cases e
  | cons c r => rw [hx] at e; simp at e; rw [e]; rfl
theorem app_e (x : Str) : Str.ofString "" ++ x = x := cs_inj (by rw [cs_app, cs_e]; rfl)
theorem e_app (x : Str) : x ++ Str.ofString "" = x := cs_inj (by rw [cs_app, cs_e]; simp)
theorem norm_rel {x : Str} (h : (cs x).head? ≠ some 47) (hne : cs x ≠ []) : norm x = dot (jn ((sp x).foldl (normStep false) [])) := by
  unfold norm normTail dot
  rw [if_neg (fun e => hne (len_cs.mp e)), rootOf_rel h, app_e]
  rfl
theorem norm_abs {x r c : Str} (hr : rootOf x = (r, c)) (hne : cs x ≠ []) (h : cs r ≠ []) : norm x = r ++ jn ((sp c).foldl (normStep true) []) := by
  have e : ((r.length : Int) != 0) = true := bne_iff_ne.mpr fun e => h (len_cs.mp e)
  unfold norm normTail
  rw [if_neg (fun e => hne (len_cs.mp e)), hr]
  dsimp only
  rw [e, if_neg]
  rw [len_cs, cs_app]
  intro q
  exact h (List.append_eq_nil_iff.mp q).1
/-! parse257 -/
theorem p257_dbl : ∀ (l e : List Nat), (e = [] ∨ ∃ r, e = 34 :: r ∧ r.head? ≠ some 34) → p257 (StrLaws.dbl 34 l ++ e) = l
  | [], e, h => by
    rcases h with rfl | ⟨r, rfl, h⟩
    · rfl
    · cases r with
      | nil => rfl
      | cons c r =>
        have hc : c ≠ 34 := fun q => h (by rw [q]; rfl)
        show p257 (34 :: c :: r) = []
        simp [p257, hc]
  | c :: l, e, h => by
    have ih := p257_dbl l e h
    unfold StrLaws.dbl
    by_cases q : c = 34
    · rw [if_pos q, q]
      show p257 (34 :: 34 :: (StrLaws.dbl 34 l ++ e)) = _
      simp only [p257, if_true, ih]
    · rw [if_neg q]
      show p257 (c :: (StrLaws.dbl 34 l ++ e)) = _
      rw [p257_one q, ih]
noncomputable def EndOk (e : Str) : Prop := cs e = [] ∨ ∃ r, cs e = 34 :: r ∧ r.head? ≠ some 34 ∧ 47 ∉ r
theorem EndOk.free {e : Str} (h : EndOk e) : Free e := by
  unfold Free
  rcases h with h | ⟨r, h, _, h2⟩
  · rw [h]; simp
  · rw [h]; simp [h2]
theorem read_in (p e : Str) (h : EndOk e) : readRes (Str.ofString "257 \"" ++ dq p ++ e) = (Str.ofString "told", p) := by
  have hc : cs (Str.ofString "257 \"" ++ dq p ++ e) = 50 :: 53 :: 55 :: 32 :: 34 :: (StrLaws.dbl 34 (cs p) ++ cs e) := by
    rw [cs_app, cs_app, cs_257q, cs_dq]; simp
  refine readRes_2 ?_ ?_ ?_
  · rw [bne_cs, sl03, hc, cs_257]; rfl
  · rw [bne_cs, sl35, hc]
    have : cs (Str.ofString " \"") = [32, 34] := by decide +kernel
    rw [this]; rfl
  · unfold parseOf
    show p = ⟨(p257 ((cs _).drop 5)).toArray⟩
    rw [hc]
    show p = ⟨(p257 (StrLaws.dbl 34 (cs p) ++ cs e)).toArray⟩
    rw [p257_dbl]
    rcases h with h | ⟨r, h, h2, _⟩
    · exact .inl h
    · exact .inr ⟨r, h, h2⟩
noncomputable def rd (x : Str) : Str × Str × Str := (x, (readRes x).1, (readRes x).2)
theorem rd_in (p e : Str) (h : EndOk e) : rd (Str.ofString "257 \"" ++ dq p ++ e) = (Str.ofString "257 \"" ++ dq p ++ e, Str.ofString "told", p) := by
  unfold rd
  rw [read_in p e h]
/-- the code and a blank ahead -/
noncomputable def Coded (x : Str) : Prop := [50, 53, 55, 32] <+: cs x
theorem rd_out {x : Str} (h : ¬ Coded x) : rd x = if (Txt.slice x none (some 3) == Str.ofString "257") = true then (x, Str.ofString "told", Str.ofString "") else (x, Str.ofString "refused", x) := by
  unfold rd
  by_cases q : (Txt.slice x none (some 3) == Str.ofString "257") = true
  · rw [if_pos q]
    have hq : (Txt.slice x none (some 3) != Str.ofString "257") = false := by rw [bne, q]; rfl
    rw [readRes_1 hq]
    refine bne_iff_ne.mpr fun e => h ?_
    have e1 := congrArg cs e
    rw [sl35, show cs (Str.ofString " \"") = [32, 34] by decide +kernel] at e1
    have e2 := congrArg cs (eq_of_beq q)
    rw [sl03, cs_257] at e2
    unfold Coded
    have e3 : cs x = (cs x).take 3 ++ (((cs x).drop 3).take 2 ++ ((cs x).drop 3).drop 2) := by rw [List.take_append_drop, List.take_append_drop]
    rw [e3, e2, e1]
    exact ⟨34 :: ((cs x).drop 3).drop 2, rfl⟩
  · rw [if_neg q]
    rw [readRes_0]
    rw [bne]
    simpa using q
theorem pre_dbl : ∀ (P y t : List Nat), (∀ c ∈ P, c ≠ 34 ∧ c ≠ 47) → (t = [] ∨ ∃ r, t = 34 :: r ∨ t = 47 :: r) → P <+: StrLaws.dbl 34 y ++ t → P <+: y
  | [], y, t, _, _, _ => List.nil_prefix
  | c :: P, [], t, hP, ht, h => by
    obtain ⟨z, hz⟩ := h
    have hc := hP c (.head _)
    rcases ht with rfl | ⟨r, rfl | rfl⟩
    · cases hz
    · have := (List.cons.inj hz).1; exact absurd this hc.1
    · have := (List.cons.inj hz).1; exact absurd this hc.2
  | c :: P, d :: y, t, hP, ht, h => by
    have hc := hP c (.head _)
    unfold StrLaws.dbl at h
    by_cases q : d = 34
    · rw [if_pos q] at h
      obtain ⟨z, hz⟩ := h
      have := (List.cons.inj hz).1
      exact absurd (this.trans q) hc.1
    · rw [if_neg q] at h
      obtain ⟨z, hz⟩ := h
      obtain ⟨h1, h2⟩ := List.cons.inj hz
      have ih := pre_dbl P y t (fun a ha => hP a (.tail _ ha)) ht ⟨z, h2⟩
      rw [h1]
      exact List.cons_prefix_cons.mpr ⟨rfl, ih⟩
theorem words_out {L : List Str} {e : Str} (hL : ∀ y ∈ L, ¬ Coded y) (he : EndOk e) : ¬ Coded (dot (jn (L.map dq) ++ e)) := by
  have he' : cs e = [] ∨ ∃ r, cs e = 34 :: r ∨ cs e = 47 :: r := by
    rcases he with h | ⟨r, h, _⟩
    · exact .inl h
    · exact .inr ⟨r, .inl h⟩
  have hP : ∀ c ∈ [50, 53, 55, 32], c ≠ 34 ∧ c ≠ 47 := by decide
  have key : ¬ Coded (jn (L.map dq) ++ e) := by
    intro h
    unfold Coded at h
    match L, hL with
    | [], _ =>
      rw [List.map_nil, jn_nil, app_e] at h
      have := pre_dbl _ [] _ hP he' (by simpa [StrLaws.dbl] using h)
      exact absurd this (by decide)
    | [y], hL =>
      rw [List.map_cons, List.map_nil, jn_one, cs_app, cs_dq] at h
      exact hL y (.head _) (pre_dbl _ _ _ hP he' h)
    | y :: z :: r, hL =>
      rw [List.map_cons, List.map_cons, cs_app, cs_jn_two, cs_dq, List.append_assoc] at h
      exact hL y (.head _) (pre_dbl _ _ _ hP (.inr ⟨_, .inr rfl⟩) h)
  unfold dot
  split
  · unfold Coded; rw [cs_d]; decide
  · exact key
end Mine
end
section
open PySem PySem.W PySem.Calls PyProof.Rows
namespace Mine
theorem dueW_dot (xf xo xl : List Str) (e : Str) : dueW xf xo xl e = dot (dueWords xf xo xl e) := rfl
theorem dq_dd : dq (Str.ofString "..") = Str.ofString ".." := dq_free34 (by rw [cs_dd]; decide)
theorem map_rep (n : Nat) : (List.replicate n (Str.ofString "..")).map dq = List.replicate n (Str.ofString "..") := by
  rw [List.map_replicate, dq_dd]
theorem dueWords_map (xf xo xl : List Str) (e : Str) : dueWords xf xo xl e = jn ((List.replicate (unp xo - xf.length) (Str.ofString "..") ++ (keep xo ++ xl)).map dq) ++ e := by
  unfold dueWords
  rw [List.map_append (l₁ := List.replicate _ _), map_rep]
theorem dd_out : ¬ Coded (Str.ofString "..") := by unfold Coded; rw [cs_dd]; decide
theorem due_out {xf xo xl : List Str} {e : Str} (h : xf.length ≤ unp xo) (ho : ∀ y ∈ xo, ¬ Coded y) (hl : ∀ y ∈ xl, ¬ Coded y) (he : EndOk e) : due xf xo xl e = rd (dueW xf xo xl e) := by
  rw [rd_out, due, if_neg (by omega)]
  rw [dueW_dot, dueWords_map]
  refine words_out (fun y hy => ?_) he
  rcases List.mem_append.mp hy with hy | hy
  · rw [List.eq_of_mem_replicate hy]; exact dd_out
  · rcases List.mem_append.mp hy with hy | hy
    · exact ho y (keep_sub _ y hy)
    · exact hl y hy
/-- the code's own piece -/
noncomputable def code (p : Str) : Str := Str.ofString "257 \"" ++ dq p
theorem cs_code (p : Str) : cs (code p) = [50, 53, 55, 32, 34] ++ StrLaws.dbl 34 (cs p) := by rw [code, cs_app, cs_257q, cs_dq]
theorem code_q (p e : Str) : dlt (code p ++ e) = 1 := dlt_mem34 (by rw [cs_app, cs_code]; simp)
theorem code_q' (p : Str) : dlt (code p) = 1 := dlt_mem34 (by rw [cs_code]; simp)
theorem code_free {p : Str} (h : Free p) : Free (code p) := by
  unfold Free
  rw [cs_code, List.mem_append, ← cs_dq]
  rintro (q | q)
  · exact absurd q (by decide)
  · exact dq_Free.mpr h q
theorem free_app {x y : Str} (hx : Free x) (hy : Free y) : Free (x ++ y) := by
  unfold Free
  rw [cs_app, List.mem_append]
  rintro (q | q)
  · exact hx q
  · exact hy q
theorem start_jn (p : Str) (ps : List Str) : Str.ofString "257 \"" ++ dq (jn (p :: ps)) = jn (code p :: ps.map dq) := by
  rw [dq_jn, List.map_cons, jn_head]; rfl
theorem head_code (p : Str) (L : List Str) : (cs (jn (code p :: L))).head? = some 50 := by
  cases L with
  | nil => rw [jn_one, cs_code]; rfl
  | cons y r => rw [cs_jn_two, cs_code]; rfl
theorem head_ne {x : Str} (h : (cs x).head? = some 50) : cs x ≠ [] ∧ (cs x).head? ≠ some 47 := by
  constructor
  · intro e; rw [e] at h; cases h
  · rw [h]; decide
theorem mach1 (p : Str) (os : List Str) : (code p :: os.map dq).foldl (normStep false) [] = List.replicate (unp os - 1) (Str.ofString "..") ++ [code p].take (1 - unp os) ++ (keep os).map dq := by
  rw [List.foldl_cons, nst_1 (code_q' p)]
  have := mach (os.map dq) 0 [code p] (fun y hy => by rw [List.mem_singleton.mp hy]; exact code_q' p)
  rw [unp_dq, keep_dq, Nat.zero_add] at this
  exact this
theorem head_app {x e : Str} (h : (cs x).head? = some 50) : (cs (x ++ e)).head? = some 50 := by
  rw [cs_app]
  cases hx : cs x with
  | nil => rw [hx] at h; cases h
  | cons c r => rw [hx] at h; exact h
theorem dot_ne {x : Str} (h : cs x ≠ []) : dot x = x := by
  unfold dot
  rw [if_neg fun e => h (len_cs.mp e)]
/-- the reply without its end -/
theorem begun_ok {p : Str} {ps : List Str} (hp : Free p) (hf : ∀ y ∈ ps, Free y) (hc : ∀ y ∈ ps, ¬ Coded y) :
    rd (norm (Str.ofString "257 \"" ++ dq (jn (p :: ps)))) = due [p] ps [] (Str.ofString "") := by
  have he : EndOk (Str.ofString "") := .inl cs_e
  rw [start_jn]
  obtain ⟨h1, h2⟩ := head_ne (head_code p (ps.map dq))
  rw [norm_rel h2 h1, sp_jn (List.cons_ne_nil _ _) (fun x hx => by
    rcases List.mem_cons.mp hx with e | hx
    · rw [e]; exact code_free hp
    · obtain ⟨y, hy, rfl⟩ := List.mem_map.mp hx
      exact dq_Free.mpr (hf y hy)), mach1]
  by_cases q : unp ps = 0
  · rw [due, if_pos (by rw [q]; exact Nat.one_pos), q]
    have e : List.replicate (0 - 1) (Str.ofString "..") ++ List.take (1 - 0) [code p] ++ List.map dq (keep ps) = code p :: (keep ps).map dq := rfl
    rw [e, dot_ne (head_ne (head_code p _)).1, ← start_jn]
    have e2 : duePath [p] ps [] = jn (p :: keep ps) := by unfold duePath; rw [List.append_nil]; rfl
    rw [e2]
    have := rd_in (jn (p :: keep ps)) (Str.ofString "") he
    rw [e_app] at this ⊢
    exact this
  · rw [due_out (by show 1 ≤ _; omega) hc (by intro y hy; cases hy) he]
    congr 1
    rw [dueW_dot]
    congr 1
    unfold dueWords
    rw [e_app, List.append_nil, show 1 - unp ps = 0 by omega, List.take_zero, List.append_nil]
    rfl
/-- the whole reply -/
theorem whole_ok {p e : Str} {ps : List Str} (hp : Free p) (hf : ∀ y ∈ ps, Free y) (hc : ∀ y ∈ ps, ¬ Coded y) (he : EndOk e) (hq : cs e ≠ []) :
    rd (norm (Str.ofString "257 \"" ++ dq (jn (p :: ps)) ++ e)) = due [p] ps.dropLast (ps.drop (ps.length - 1)) e := by
  have hq34 : 34 ∈ cs e := by
    rcases he with h | ⟨r, h, _⟩
    · exact absurd h hq
    · rw [h]; exact .head _
  rw [start_jn]
  rcases List.eq_nil_or_concat ps with rfl | ⟨os, l, rfl⟩
  · have h0 : (cs (jn (code p :: [].map dq) ++ e)).head? = some 50 := head_app (head_code p _)
    obtain ⟨h1, h2⟩ := head_ne h0
    rw [norm_rel h2 h1]
    rw [List.map_nil, jn_one] at h1 ⊢
    have e1 : sp (code p ++ e) = [code p ++ e] := sp_jn (xs := [code p ++ e]) (List.cons_ne_nil _ _) (fun x hx => by rw [List.mem_singleton.mp hx]; exact free_app (code_free hp) he.free)
    rw [e1, List.foldl_cons, nst_1 (code_q p e), List.foldl_nil, List.nil_append, jn_one, dot_ne h1]
    rw [due, if_pos (show unp ([] : List Str).dropLast < [p].length from Nat.one_pos)]
    have e2 : duePath [p] [].dropLast (List.drop (([] : List Str).length - 1) []) = p := rfl
    rw [e2]
    exact rd_in p e he
  · rw [List.concat_eq_append] at hf hc ⊢
    have hfo : ∀ y ∈ os, Free y := fun y hy => hf y (List.mem_append_left _ hy)
    have hco : ∀ y ∈ os, ¬ Coded y := fun y hy => hc y (List.mem_append_left _ hy)
    have hfl : Free l := hf l (by simp)
    have hcl : ¬ Coded l := hc l (by simp)
    have eL : (os ++ [l]).dropLast = os := by simp
    have eD : (os ++ [l]).drop ((os ++ [l]).length - 1) = [l] := by simp
    rw [eL, eD]
    have ej : jn (code p :: (os ++ [l]).map dq) ++ e = jn (code p :: (os.map dq ++ [dq l ++ e])) := by
      rw [List.map_append]
      exact jn_last (code p :: os.map dq) (dq l) e
    have h0 : (cs (jn (code p :: (os.map dq ++ [dq l ++ e])))).head? = some 50 := head_code p _
    obtain ⟨h1, h2⟩ := head_ne h0
    rw [ej, norm_rel h2 h1, sp_jn (List.cons_ne_nil _ _) (fun x hx => by
      rcases List.mem_cons.mp hx with q | hx
      · rw [q]; exact code_free hp
      · rcases List.mem_append.mp hx with hx | hx
        · obtain ⟨y, hy, rfl⟩ := List.mem_map.mp hx
          exact dq_Free.mpr (hfo y hy)
        · rw [List.mem_singleton.mp hx]; exact free_app (dq_Free.mpr hfl) he.free)]
    have ef : (code p :: (os.map dq ++ [dq l ++ e])).foldl (normStep false) [] = (code p :: os.map dq).foldl (normStep false) [] ++ [dq l ++ e] := by
      have : code p :: (os.map dq ++ [dq l ++ e]) = (code p :: os.map dq) ++ [dq l ++ e] := rfl
      rw [this, List.foldl_append, List.foldl_cons, List.foldl_nil, nst_1 (dlt_mem34 (by rw [cs_app]; exact List.mem_append_right _ hq34))]
    rw [ef, mach1]
    by_cases q : unp os = 0
    · rw [due, if_pos (by rw [q]; exact Nat.one_pos), q]
      have e3 : List.replicate (0 - 1) (Str.ofString "..") ++ List.take (1 - 0) [code p] ++ List.map dq (keep os) ++ [dq l ++ e] = code p :: ((keep os).map dq ++ [dq l ++ e]) := rfl
      rw [e3, dot_ne (head_ne (head_code p _)).1]
      have e4 : jn (code p :: ((keep os).map dq ++ [dq l ++ e])) = jn (code p :: (keep os ++ [l]).map dq) ++ e := by
        rw [List.map_append]
        exact (jn_last (code p :: (keep os).map dq) (dq l) e).symm
      rw [e4, ← start_jn]
      have e5 : duePath [p] os [l] = jn (p :: (keep os ++ [l])) := rfl
      rw [e5]
      exact rd_in _ e he
    · rw [due_out (by show 1 ≤ _; omega) hco (by intro y hy; rw [List.mem_singleton.mp hy]; exact hcl) he]
      congr 1
      rw [dueW_dot]
      congr 1
      unfold dueWords
      rw [show 1 - unp os = 0 by omega, List.take_zero, List.append_nil, ← jn_last, List.map_append, List.append_assoc]
      rfl
/-! normpath of the path itself -/
theorem due_fst (xo : List Str) : (due [] xo [] (Str.ofString "")).1 = dot (jn (List.replicate (unp xo) (Str.ofString "..") ++ (keep xo).map dq)) := by
  have e : dueW [] xo [] (Str.ofString "") = dot (jn (List.replicate (unp xo) (Str.ofString "..") ++ (keep xo).map dq)) := by
    rw [dueW_dot]
    unfold dueWords
    rw [e_app, List.append_nil]; rfl
  rw [due, if_neg (by simp), e]
  split <;> rfl
theorem cs_dq_nil {x : Str} : cs (dq x) = [] ↔ cs x = [] := by
  rw [cs_dq]
  cases h : cs x with
  | nil => simp [StrLaws.dbl]
  | cons c r =>
    unfold StrLaws.dbl
    split <;> simp
theorem dq_dot (x : Str) : dq (dot x) = dot (dq x) := by
  unfold dot
  by_cases h : (x.length : Int) = 0
  · rw [if_pos h, if_pos (len_cs.mpr (cs_dq_nil.mpr (len_cs.mp h)))]
    exact dq_free34 (by rw [cs_d]; decide)
  · rw [if_neg h, if_neg (fun q => h (len_cs.mpr (cs_dq_nil.mp (len_cs.mp q))))]
theorem plain_rel {p : Str} {ps : List Str} (hf : ∀ y ∈ p :: ps, Free y) (hne : cs p ≠ []) :
    dq (norm (jn (p :: ps))) = jn (sp (due [] (p :: ps) [] (Str.ofString "")).1) := by
  have h0 : (cs (jn (p :: ps))).head? = (cs p).head? := by
    cases ps with
    | nil => rfl
    | cons y r =>
      rw [cs_jn_two]
      cases h : cs p with
      | nil => exact absurd h hne
      | cons c t => rfl
  have h1 : cs (jn (p :: ps)) ≠ [] := by
    intro e
    rw [e] at h0
    cases h : cs p with
    | nil => exact hne h
    | cons c t => rw [h] at h0; cases h0
  have h2 : (cs (jn (p :: ps))).head? ≠ some 47 := by
    rw [h0]
    intro q
    cases h : cs p with
    | nil => exact hne h
    | cons c t =>
      rw [h] at q
      have := hf p (.head _)
      unfold Free at this
      rw [h, Option.some.inj q] at this
      exact this (.head _)
  rw [jn_sp, due_fst, norm_rel h2 h1, sp_jn (List.cons_ne_nil _ _) hf, dq_dot, dq_jn]
  have := mach (p :: ps) 0 [] (fun y hy => nomatch hy)
  rw [List.replicate_zero, List.nil_append] at this
  rw [this]
  congr 2
  rw [List.map_append, List.map_append, map_rep]
  simp
theorem jn_e (y : Str) (r : List Str) : cs (jn (Str.ofString "" :: y :: r)) = 47 :: cs (jn (y :: r)) := by
  rw [cs_jn_two, cs_e]; rfl
/-- the names that are neither two dots nor one -/
noncomputable def named (y : Str) : Bool := !(y == Str.ofString ".." || y == Str.ofString ".")
noncomputable def rootS (x : Str) : Str := if (Txt.slice x none (some 2) == Str.ofString "//") = true then (if (Txt.slice x (some 2) (some 3) != Str.ofString "/") = true then Str.ofString "//" else Str.ofString "/") else Str.ofString "/"
theorem filt_ok (xo : List Str) (hf : ∀ y ∈ xo, Free y) : jn ((sp (due [] xo [] (Str.ofString "")).1).filter named) = jn ((keep xo).map dq) := by
  rw [due_fst]
  have hdd : named (Str.ofString "..") = false := by decide +kernel
  have hd : named (Str.ofString ".") = false := by decide +kernel
  have hk : ∀ y ∈ (keep xo).map dq, named y = true := by
    intro y hy
    obtain ⟨z, hz, rfl⟩ := List.mem_map.mp hy
    have h1 := keep_names xo z hz
    rw [← dlt_dq] at h1
    unfold named
    have a : (dq z == Str.ofString "..") = false := beq_eq_false_iff_ne.mpr fun e => by rw [e, dlt_dd] at h1; exact absurd h1 (by decide)
    have b : (dq z == Str.ofString ".") = false := beq_eq_false_iff_ne.mpr fun e => by rw [e, dlt_d] at h1; exact absurd h1 (by decide)
    rw [a, b]; rfl
  have key : (List.replicate (unp xo) (Str.ofString "..") ++ (keep xo).map dq).filter named = (keep xo).map dq := by
    rw [List.filter_append, List.filter_eq_self.mpr hk, List.filter_replicate, if_neg (by rw [hdd]; decide)]; rfl
  by_cases h : List.replicate (unp xo) (Str.ofString "..") ++ (keep xo).map dq = []
  · have h2 := (List.append_eq_nil_iff.mp h).2
    rw [h, h2, jn_nil]
    have : dot (Str.ofString "") = Str.ofString "." := by decide +kernel
    rw [this]
    have e : sp (Str.ofString ".") = [Str.ofString "."] := sp_jn (xs := [Str.ofString "."]) (List.cons_ne_nil _ _) (fun y hy => by rw [List.mem_singleton.mp hy]; unfold Free; rw [cs_d]; decide)
    rw [e, List.filter_cons, hd]
    rw [← jn_nil]; rfl
  · have hn : cs (jn (List.replicate (unp xo) (Str.ofString "..") ++ (keep xo).map dq)) ≠ [] := by
      match hL : List.replicate (unp xo) (Str.ofString "..") ++ (keep xo).map dq, h with
      | [y], _ =>
        rw [jn_one]
        intro e
        have hy : y ∈ List.replicate (unp xo) (Str.ofString "..") ++ (keep xo).map dq := by rw [hL]; exact .head _
        rcases List.mem_append.mp hy with hy | hy
        · rw [List.eq_of_mem_replicate hy, cs_dd] at e; cases e
        · obtain ⟨z, hz, rfl⟩ := List.mem_map.mp hy
          have h1 := keep_names xo z hz
          have h2 : z = Str.ofString "" := cs_inj (by rw [cs_dq_nil.mp e, cs_e])
          rw [h2, dlt_e] at h1
          exact absurd h1 (by decide)
      | y :: z :: r, _ => rw [cs_jn_two]; simp
    rw [dot_ne hn, sp_jn h (fun y hy => ?_), key]
    rcases List.mem_append.mp hy with hy | hy
    · rw [List.eq_of_mem_replicate hy]; unfold Free; rw [cs_dd]; decide
    · obtain ⟨z, hz, rfl⟩ := List.mem_map.mp hy
      exact dq_Free.mpr (hf z (keep_sub _ z hz))
theorem keep_skip (ys : List Str) : keep (Str.ofString "" :: ys) = keep ys := by
  conv => lhs; unfold keep
  rw [if_neg (by rw [dlt_e]; simp)]
theorem cs_ss : cs (Str.ofString "//") = [47, 47] := by decide +kernel
theorem dq_norm_abs {x r : Str} {cp : List Str} {c : Str} (hr : rootOf x = (r, c)) (hx : cs x ≠ []) (hrn : cs r ≠ []) (hr34 : 34 ∉ cs r) (hc : c = jn cp) (hne : cp ≠ []) (hf : ∀ y ∈ cp, Free y) : dq (norm x) = r ++ jn ((keep cp).map dq) := by
  rw [norm_abs hr hx hrn, hc, sp_jn hne hf, machR cp [] (fun y hy => nomatch hy), dq_app, dq_free34 hr34, dq_jn]
  simp
theorem plain_abs {ps : List Str} (hf : ∀ y ∈ ps, Free y) (hne : ps ≠ []) :
    dq (norm (jn (Str.ofString "" :: ps))) = rootS (jn (Str.ofString "" :: ps)) ++ jn ((sp (due [] (Str.ofString "" :: ps) [] (Str.ofString "")).1).filter named) := by
  rw [filt_ok _ (fun y hy => by
    rcases List.mem_cons.mp hy with e | hy
    · rw [e]; unfold Free; rw [cs_e]; decide
    · exact hf y hy), keep_skip]
  obtain ⟨y, r, rfl⟩ := List.exists_cons_of_ne_nil hne
  generalize hX : jn (Str.ofString "" :: y :: r) = x
  have hx : cs x = 47 :: cs (jn (y :: r)) := by rw [← hX, jn_e]
  have hxn : cs x ≠ [] := by rw [hx]; simp
  have h0 : (Txt.slice x none (some 1) != Str.ofString "/") = false := by rw [bne_cs, sl01, hx, cs_slash]; simp
  have h02 : (Txt.slice x none (some 2) == Str.ofString "//") = decide ((cs (jn (y :: r))).take 1 = [47]) := by
    rw [beq_cs, sl02, hx, cs_ss]; simp
  have h12 : (Txt.slice x (some 1) (some 2) != Str.ofString "/") = !decide ((cs (jn (y :: r))).take 1 = [47]) := by
    rw [bne_cs, sl12, hx, cs_slash]; simp
  have hd1 : Txt.slice x (some 1) none = jn (y :: r) := cs_inj (by rw [sl1, hx]; rfl)
  have one : rootOf x = (Str.ofString "/", Txt.slice x (some 1) none) → dq (norm x) = Str.ofString "/" ++ jn ((keep (y :: r)).map dq) := fun h =>
    dq_norm_abs h hxn (by rw [cs_slash]; decide) (by rw [cs_slash]; decide) hd1 (List.cons_ne_nil _ _) hf
  unfold rootS
  rw [h02]
  by_cases q : (cs (jn (y :: r))).take 1 = [47]
  · rw [if_pos (by simpa using q)]
    -- the path begins with two slashes: y is nothing
    have hy : y = Str.ofString "" := by
      apply cs_inj
      rw [cs_e]
      have hfy := hf y (.head _)
      cases hcy : cs y with
      | nil => rfl
      | cons c t =>
        exfalso
        have : (cs (jn (y :: r))).take 1 = [c] := by
          cases r with
          | nil => rw [jn_one, hcy]; rfl
          | cons z r => rw [cs_jn_two, hcy]; rfl
        rw [this] at q
        have hc : c = 47 := (List.cons.inj q).1
        unfold Free at hfy
        rw [hcy, hc] at hfy
        exact hfy (.head _)
    subst hy
    cases r with
    | nil => rw [jn_one, cs_e] at q; cases q
    | cons z r =>
      have h23 : (Txt.slice x (some 2) (some 3) == Str.ofString "/") = decide ((cs (jn (z :: r))).take 1 = [47]) := by
        rw [beq_cs, sl23, hx, jn_e, cs_slash]; simp
      by_cases q2 : (cs (jn (z :: r))).take 1 = [47]
      · rw [if_neg (by rw [bne, h23]; simp [q2])]
        refine one ?_
        unfold rootOf
        rw [if_neg (by rw [h0]; decide), if_neg (by rw [h12]; simp [q]), if_pos (by rw [h23]; simp [q2])]
      · rw [if_pos (by rw [bne, h23]; simp [q2]), keep_skip]
        have hr : rootOf x = (Str.ofString "//", jn (z :: r)) := by
          unfold rootOf
          rw [if_neg (by rw [h0]; decide), if_neg (by rw [h12]; simp [q]), if_neg (by rw [h23]; simp [q2])]
          congr 1
          · apply cs_inj; rw [sl02, hx, jn_e, cs_ss]; rfl
          · apply cs_inj; rw [sl2, hx, jn_e]; rfl
        exact dq_norm_abs hr hxn (by rw [cs_ss]; decide) (by rw [cs_ss]; decide) rfl (List.cons_ne_nil _ _) (fun w hw => hf w (.tail _ hw))
  · rw [if_neg (by simpa using q)]
    refine one ?_
    unfold rootOf
    rw [if_neg (by rw [h0]; decide), if_pos (by rw [h12]; simp [q])]
end Mine
end
section
open PySem PySem.W PySem.Calls PyProof.Rows
set_option maxRecDepth 100000
namespace Mine
noncomputable def drawnOf (ns : List Int) : List Int := if ns.isEmpty = true then [1, 2, 0, 10, 5] else ns.take 8
theorem drawn_ne (ns : List Int) : 1 ≤ (drawnOf ns).length ∧ (drawnOf ns).length ≤ 8 := by
  unfold drawnOf
  split
  · decide
  · rename_i h
    rw [List.length_take]
    have : 0 < ns.length := List.length_pos_iff.mpr fun e => h (by rw [e]; rfl)
    omega
/-! the pieces' plain facts -/
theorem pf_cases (x : Int) : pieceF x = Str.ofString ".." ∨ pieceF x = Str.ofString "257" ∨ pieceF x = Str.ofString "250" ∨ pieceF x = Txt.mul (Str.ofString "\"") (1 + (x.fdiv 8).fmod 3) ∨ (pieceF x = Str.ofString "" ∧ x.fmod 8 = 3) ∨
    pieceF x = Str.ofString "." ∨ pieceF x = Str.ofString "..\" " ∨ pieceF x = Str.ofString "..." ∨ pieceF x = Str.ofString "a" ∨ (pieceF x = signF x ∧ (signF x == Str.ofString "/") = false) := by
  unfold pieceF
  split
  · exact .inl rfl
  split
  · split
    · exact .inr (.inl rfl)
    · exact .inr (.inr (.inl rfl))
  split
  · exact .inr (.inr (.inr (.inl rfl)))
  split
  · rename_i h; exact .inr (.inr (.inr (.inr (.inl ⟨rfl, h⟩))))
  split
  · exact .inr (.inr (.inr (.inr (.inr (.inl rfl)))))
  split
  · exact .inr (.inr (.inr (.inr (.inr (.inr (.inl rfl))))))
  split
  · exact .inr (.inr (.inr (.inr (.inr (.inr (.inr (.inl rfl)))))))
  split
  · exact .inr (.inr (.inr (.inr (.inr (.inr (.inr (.inr (.inl rfl))))))))
  · rename_i h; exact .inr (.inr (.inr (.inr (.inr (.inr (.inr (.inr (.inr ⟨rfl, by simpa using h⟩))))))))
theorem mulq (k : Int) (h : k = 0 ∨ k = 1 ∨ k = 2) : Txt.mul (Str.ofString "\"") (1 + k) = ⟨#[34]⟩ ∨ Txt.mul (Str.ofString "\"") (1 + k) = ⟨#[34, 34]⟩ ∨ Txt.mul (Str.ofString "\"") (1 + k) = ⟨#[34, 34, 34]⟩ := by
  rcases h with rfl | rfl | rfl
  · exact .inl (by decide +kernel)
  · exact .inr (.inl (by decide +kernel))
  · exact .inr (.inr (by decide +kernel))
theorem fmod3 (y : Int) : y.fmod 3 = 0 ∨ y.fmod 3 = 1 ∨ y.fmod 3 = 2 := by
  have h1 : y.fmod 3 = y % 3 := Int.fmod_eq_emod_of_nonneg y (by decide)
  omega
theorem cs_sign (x : Int) : ∃ c, cs (signF x) = [c] := ⟨_, rfl⟩
/-- slash-free, short, without code and blank -/
theorem pf_ok (x : Int) : Free (pieceF x) ∧ ¬ Coded (pieceF x) ∧ (pieceF x).length ≤ 4 ∧ (cs (pieceF x) = [] → x.fmod 8 = 3) := by
  have hq := mulq _ (fmod3 (x.fdiv 8))
  have fin : ∀ (l : List Nat), cs (pieceF x) = l → (47 ∉ l) → (¬ [50, 53, 55, 32] <+: l) → l.length ≤ 4 → (l = [] → x.fmod 8 = 3) → Free (pieceF x) ∧ ¬ Coded (pieceF x) ∧ (pieceF x).length ≤ 4 ∧ (cs (pieceF x) = [] → x.fmod 8 = 3) := by
    intro l h h1 h2 h3 h4
    unfold Free Coded
    rw [← cs_len, h]
    exact ⟨h1, h2, h3, h4⟩
  rcases pf_cases x with e | e | e | e | ⟨e, h⟩ | e | e | e | e | ⟨e, h⟩
  · exact fin [46, 46] (by rw [e]; decide +kernel) (by decide) (by decide) (by decide) (by intro q; cases q)
  · exact fin [50, 53, 55] (by rw [e]; decide +kernel) (by decide) (by decide) (by decide) (by intro q; cases q)
  · exact fin [50, 53, 48] (by rw [e]; decide +kernel) (by decide) (by decide) (by decide) (by intro q; cases q)
  · rcases hq with q | q | q
    · exact fin [34] (by rw [e, q]) (by decide) (by decide) (by decide) (by intro q; cases q)
    · exact fin [34, 34] (by rw [e, q]) (by decide) (by decide) (by decide) (by intro q; cases q)
    · exact fin [34, 34, 34] (by rw [e, q]) (by decide) (by decide) (by decide) (by intro q; cases q)
  · exact fin [] (by rw [e]; decide +kernel) (by decide) (by decide) (by decide) (fun _ => h)
  · exact fin [46] (by rw [e]; decide +kernel) (by decide) (by decide) (by decide) (by intro q; cases q)
  · exact fin [46, 46, 34, 32] (by rw [e]; decide +kernel) (by decide) (by decide) (by decide) (by intro q; cases q)
  · exact fin [46, 46, 46] (by rw [e]; decide +kernel) (by decide) (by decide) (by decide) (by intro q; cases q)
  · exact fin [97] (by rw [e]; decide +kernel) (by decide) (by decide) (by decide) (by intro q; cases q)
  · obtain ⟨c, hc⟩ := cs_sign x
    refine fin [c] (by rw [e, hc]) ?_ ?_ (by show 1 ≤ 4; decide) (by intro q; cases q)
    · intro q
      have : c = 47 := (List.mem_singleton.mp q).symm
      rw [beq_cs, hc, cs_slash, this] at h
      exact absurd h (by decide)
    · intro q
      exact absurd q.length_le (by simp)
theorem pf_wt (ds : List Int) : wt (ds.map pieceF) ≤ 5 * ds.length := by
  induction ds with
  | nil => exact Nat.zero_le _
  | cons x r ih =>
    rw [List.map_cons, wt_cons, List.length_cons]
    have := (pf_ok x).2.2.1
    omega
section
variable {prog : Program} {w : World} {A : Around} {E : Value → Shared → Prop} {s : Shared} {env : Env} {h₀ : Heap} {L : Addr} {m : Str → Option Value} {news : List (Addr × Obj)} {e : Expr} {Q : Value → Shared → Prop}
noncomputable def DrawnPost (h₀ : Heap) (L : Addr) (m : Str → Option Value) (news : List (Addr × Obj)) (s : Shared) (ns : List Int) (v : Value) (s' : Shared) : Prop :=
  ∃ D us c h' tk, v = .ref D ∧ s' = { s with heap := h', toks := tk } ∧ IntsAre us (drawnOf ns) ∧ Fr h₀ L h' m ∧ News h₀ L h' ((D, listOf us.toArray c) :: news)
theorem cut_drawn {l : Addr} {vs : List Value} {ns : List Int} (_F : Fr h₀ L s.heap m) (_N : News h₀ L s.heap news) (_hl : h₀.IsList l vs.toArray) (_hi : IntsAre vs ns)
    (h1 : wpAny (model prog w) A (eval e env) (DrawnPost h₀ L m news s ns) E s)
    (h2 : ∀ D us c h' tk, IntsAre us (drawnOf ns) → 1 ≤ (drawnOf ns).length → (drawnOf ns).length ≤ 8 → Fr h₀ L h' m → News h₀ L h' ((D, listOf us.toArray c) :: news) → Q (.ref D) { s with heap := h', toks := tk }) :
    wpAny (model prog w) A (eval e env) Q E s := by
  refine wpAny_mono h1 ?_ fun _ _ x => x
  rintro v s' ⟨D, us, c, h', tk, rfl, rfl, hi, F', N'⟩
  exact h2 D us c h' tk hi (drawn_ne ns).1 (drawn_ne ns).2 F' N'
end
section
variable {prog : Program} {w : World} {A : Around} {h₀ : Heap} {L : Addr} {m : Str → Option Value} {env : Env} {elt : Expr} {x : Str} {scope : Scope} {cl : List (Str × Addr)} {s : Shared} {news : List (Addr × Obj)}
theorem ints_get {vs : List Value} {ns : List Int} (h : IntsAre vs ns) : ∀ (i : Nat) (v : Value), vs[i]? = some v → ∃ (y : Int) (t : Tok), ns[i]? = some y ∧ v = .int y t := by
  induction h with
  | nil => intro i v e; cases e
  | cons y t _ ih =>
    intro i v e
    cases i with
    | zero => exact ⟨y, t, rfl, (Option.some.inj e).symm⟩
    | succ i => exact ih i v e
theorem src_pf {Fin : Shared → List Value → List (Addr × Obj) → Prop} {ax : Addr} {k : Nat} {s₁ : Shared} {us : List Value} {ds : List Int}
    (hh : A.handled = none) (F : Fr h₀ L s₁.heap m) (N : News h₀ L s₁.heap news) (hm : (ax, listOf us.toArray k) ∈ news) (hx : IntsAre us ds) (hw : ds.length ≤ 8)
    (turn : ∀ g (y : Int) (t : Tok) I oI C oC D m₂ ys h tk (E' : Value → Shared → Prop), LCg.SrcAt h₀ ax us.toArray news → LCg.NsObj oC m₂ → m₂ x = some (.int y t) → Fr h₀ L h m → News h₀ L h ((I, oI) :: (C, oC) :: (D, LCg.lst ys) :: news) → LCg.Off3 I C D news → ((@Ne Nat I C) ∧ (@Ne Nat I D) ∧ (@Ne Nat C D)) →
      wpAny (model prog w) A (eval elt (compEnvC scope cl C env)) (LCg.CompEnd h₀ L m { ({ s₁ with heap := g } : Shared) with heap := h, toks := tk } I oI C oC D (LCg.lst ys) (LCg.SrcAt h₀ ax us.toArray) (fun v news' => KCtEl news (pieceF y) v news')) E' { ({ s₁ with heap := g } : Shared) with heap := h, toks := tk })
    (fin : ∀ g ys, StrsAre ys (ds.map pieceF) → wt (ds.map pieceF) ≤ 40 → Fin { s₁ with heap := g } ys news) :
    LCg.CompSrc prog w A h₀ L m env elt x scope cl Fin (.ref ax) s₁ := by
  have h1 := hx.length
  refine LCg.CompSrc.ledger hh F N hm (by rw [sizeLine_eq, List.size_toArray]; omega) fun g => ?_
  exact comp_rest (fun y t => .int y t) pieceF h1 (ints_get hx) (fun y t I oI C oC D m₂ ys h tk E' _ hC => turn g y t I oI C oC D m₂ ys h tk E' (.inr ⟨_, hm, rfl, _, rfl⟩) hC) fun ys h => fin g ys h (by have := pf_wt ds; omega)
end
end Mine
end
section
open PySem PySem.W PySem.Calls PyProof.Rows
set_option maxRecDepth 100000
namespace Mine
theorem drawn_e1 {h₀ h' : Heap} {L D : Addr} {m : Str → Option Value} {s : Shared} {ns : List Int} {us : List Value} {c tk : Nat} {rest : List (Addr × Obj)} (F : Fr h₀ L h' m) (N : News h₀ L h' ((D, listOf us.toArray c) :: rest)) (hi : IntsAre us (List.take 8 ns)) (h : 0 < (List.take 8 ns).length) :
    DrawnPost h₀ L m [] s ns (.ref D) { s with heap := h', toks := tk } := by
  refine ⟨D, us, c, h', tk, rfl, rfl, ?_, F, fun p hp => N p (by rw [List.mem_singleton.mp hp]; exact .head _)⟩
  have : drawnOf ns = List.take 8 ns := by
    unfold drawnOf
    rw [if_neg]
    intro e
    rw [List.isEmpty_iff.mp e] at h
    exact absurd h (by decide)
  rw [this]; exact hi
theorem drawn_e2 {h₀ h' : Heap} {L D : Addr} {m : Str → Option Value} {s : Shared} {ns : List Int} {a b d e f : Tok} {c tk : Nat} {rest : List (Addr × Obj)} (F : Fr h₀ L h' m) (N : News h₀ L h' ((D, listOf #[.int 1 a, .int 2 b, .int 0 d, .int 10 e, .int 5 f] c) :: rest)) (h : ¬ 0 < (List.take 8 ns).length) :
    DrawnPost h₀ L m [] s ns (.ref D) { s with heap := h', toks := tk } := by
  refine ⟨D, [.int 1 a, .int 2 b, .int 0 d, .int 10 e, .int 5 f], c, h', tk, rfl, rfl, ?_, F, fun p hp => N p (by rw [List.mem_singleton.mp hp]; exact .head _)⟩
  have : drawnOf ns = [1, 2, 0, 10, 5] := by
    unfold drawnOf
    rw [if_pos]
    cases ns with
    | nil => rfl
    | cons x r => exact absurd (by simp) h
  rw [this]
  exact .cons _ _ (.cons _ _ (.cons _ _ (.cons _ _ (.cons _ _ .nil))))
/-- what the rest of the law asks of a path -/
noncomputable def PathOk (P : Str) : Prop := (∀ y ∈ sp P, ¬ Coded y) ∧ cs P ≠ [] ∧ P.length ≤ 60
theorem jn_slash {L : List Str} (h : L ≠ []) : Str.ofString "/" ++ jn L = jn (Str.ofString "" :: L) := by
  obtain ⟨y, r, rfl⟩ := List.exists_cons_of_ne_nil h
  rw [jn_two, app_e]
theorem fmod4 (x : Int) : x.fmod 4 = 0 ∨ x.fmod 4 = 1 ∨ x.fmod 4 = 2 ∨ x.fmod 4 = 3 := by
  have h1 : x.fmod 4 = x % 4 := Int.fmod_eq_emod_of_nonneg x (by decide)
  omega
theorem mul_sl (k : Int) (h : k = 0 ∨ k = 1 ∨ k = 2 ∨ k = 3) {L : List Str} (hL : L ≠ []) : Txt.mul (Str.ofString "/") k ++ jn L = jn (List.replicate k.toNat (Str.ofString "") ++ L) := by
  rcases h with rfl | rfl | rfl | rfl
  · rw [show Txt.mul (Str.ofString "/") 0 = Str.ofString "" by decide +kernel, app_e]; rfl
  · rw [show Txt.mul (Str.ofString "/") 1 = Str.ofString "/" by decide +kernel, jn_slash hL]; rfl
  · rw [show Txt.mul (Str.ofString "/") 2 = Str.ofString "/" ++ Str.ofString "/" by decide +kernel, Str.append_assoc, jn_slash hL, jn_slash (List.cons_ne_nil _ _)]; rfl
  · rw [show Txt.mul (Str.ofString "/") 3 = Str.ofString "/" ++ (Str.ofString "/" ++ Str.ofString "/") by decide +kernel, Str.append_assoc, Str.append_assoc, jn_slash hL, jn_slash (List.cons_ne_nil _ _), jn_slash (List.cons_ne_nil _ _)]; rfl
theorem path_ok {ds : List Int} (h1 : 1 ≤ ds.length) (h8 : ds.length ≤ 8) : PathOk (Txt.mul (Str.ofString "/") (ds.sum.fmod 4) ++ jn (ds.map pieceF)) := by
  have hL : ds.map pieceF ≠ [] := by
    intro e
    have := congrArg List.length e
    rw [List.length_map] at this
    simp at this
    rw [this] at h1
    exact absurd h1 (by decide)
  have hmem : ∀ y ∈ List.replicate (ds.sum.fmod 4).toNat (Str.ofString "") ++ ds.map pieceF, Free y ∧ ¬ Coded y := by
    intro y hy
    rcases List.mem_append.mp hy with hy | hy
    · rw [List.eq_of_mem_replicate hy]
      constructor
      · unfold Free; rw [cs_e]; decide
      · unfold Coded; rw [cs_e]; decide
    · obtain ⟨x, _, rfl⟩ := List.mem_map.mp hy
      exact ⟨(pf_ok x).1, (pf_ok x).2.1⟩
  have hk := fmod4 ds.sum
  have hw := pf_wt ds
  have hj := join_wt (ds.map pieceF)
  have hlen : (Txt.mul (Str.ofString "/") (ds.sum.fmod 4)).length ≤ 3 := by
    rcases hk with e | e | e | e <;> rw [e] <;> decide +kernel
  refine ⟨?_, ?_, ?_⟩
  · rw [mul_sl _ hk hL, sp_jn (by simp [hL]) (fun y hy => (hmem y hy).1)]
    exact fun y hy => (hmem y hy).2
  · intro e
    rw [cs_app] at e
    obtain ⟨e1, e2⟩ := List.append_eq_nil_iff.mp e
    match ds, h1, hL, e1, e2 with
    | [x], _, _, e1, e2 =>
      have h3 := (pf_ok x).2.2.2 e2
      have hs : [x].sum = x := by simp
      rw [hs] at e1
      have a : x.fmod 8 = x % 8 := Int.fmod_eq_emod_of_nonneg x (by decide)
      have b : x.fmod 4 = x % 4 := Int.fmod_eq_emod_of_nonneg x (by decide)
      have c : x.fmod 4 = 3 := by omega
      rw [c] at e1
      exact absurd e1 (by decide +kernel)
    | x :: y :: r, _, _, e1, e2 =>
      rw [List.map_cons, List.map_cons, cs_jn_two] at e2
      exact absurd e2 (by simp)
  · rw [Str.length_append]
    have hj' : (jn (ds.map pieceF)).length ≤ wt (ds.map pieceF) := hj
    omega
/-! the pieces, cut -/
theorem path_cut (P : Str) : ∃ p ps, sp P = p :: ps ∧ P = jn (p :: ps) ∧ Free p ∧ ∀ y ∈ ps, Free y := by
  obtain ⟨p, ps, e⟩ := List.exists_cons_of_ne_nil (sp_ne P)
  refine ⟨p, ps, e, ?_, ?_, ?_⟩
  · rw [← e, jn_sp]
  · exact sp_free P p (by rw [e]; exact .head _)
  · exact fun y hy => sp_free P y (by rw [e]; exact .tail _ hy)
noncomputable abbrev wholeD (P e : Str) : Str × Str × Str := due ((sp P).take 1) ((sp P).drop 1).dropLast (((sp P).drop 1).drop (((sp P).drop 1).length - 1)) e
noncomputable abbrev begunD (P : Str) : Str × Str × Str := due ((sp P).take 1) ((sp P).drop 1) [] (Str.ofString "")
noncomputable abbrev plainD (P : Str) : Str × Str × Str := due [] (sp P) [] (Str.ofString "")
theorem whole_P {P e : Str} (h : PathOk P) (he : EndOk e) (hq : cs e ≠ []) : rd (norm (Str.ofString "257 \"" ++ dq P ++ e)) = wholeD P e := by
  obtain ⟨p, ps, e1, e2, h1, h2⟩ := path_cut P
  unfold wholeD
  rw [e1]
  conv => lhs; rw [e2]
  exact whole_ok h1 h2 (fun y hy => h.1 y (by rw [e1]; exact .tail _ hy)) he hq
theorem begun_P {P : Str} (h : PathOk P) : rd (norm (Str.ofString "257 \"" ++ dq P)) = begunD P := by
  obtain ⟨p, ps, e1, e2, h1, h2⟩ := path_cut P
  unfold begunD
  rw [e1]
  conv => lhs; rw [e2]
  exact begun_ok h1 h2 (fun y hy => h.1 y (by rw [e1]; exact .tail _ hy))
theorem plain_P {P : Str} (h : ((sp P).getD 0 Str.empty != Str.ofString "") = true) : dq (norm P) = jn (sp (plainD P).1) := by
  obtain ⟨p, ps, e1, e2, h1, h2⟩ := path_cut P
  unfold plainD
  rw [e1] at h ⊢
  have hp : cs p ≠ [] := fun q => by
    have : p = Str.ofString "" := cs_inj (by rw [q, cs_e])
    rw [this] at h
    have h' : (Str.ofString "" != Str.ofString "") = true := h
    exact absurd h' (by decide +kernel)
  conv => lhs; rw [e2]
  refine plain_rel (fun y hy => ?_) hp
  rcases List.mem_cons.mp hy with q | hy
  · rw [q]; exact h1
  · exact h2 y hy
theorem root_P {P : Str} (h : ((sp P).getD 0 Str.empty != Str.ofString "") = false) (hP : PathOk P) : dq (norm P) = rootS P ++ jn ((sp (plainD P).1).filter named) := by
  obtain ⟨p, ps, e1, e2, h1, h2⟩ := path_cut P
  unfold plainD
  rw [e1] at h ⊢
  have hp : p = Str.ofString "" := by
    have : (p != Str.ofString "") = false := h
    simpa [bne] using this
  subst hp
  have hne : ps ≠ [] := fun q => by
    subst q
    rw [jn_one] at e2
    have := hP.2.1
    rw [e2, cs_e] at this
    exact this rfl
  rw [e2]
  exact plain_abs h2 hne
section
variable {prog : Program} {w : World} {A : Around} {E : Value → Shared → Prop} {s : Shared} {env : Env} {h₀ : Heap} {L : Addr} {m : Str → Option Value} {news : List (Addr × Obj)} {ex : Expr} {Q : Value → Shared → Prop}
end
theorem end_ok {e : Str} (r : List Nat) (h : cs e = 34 :: r) (h1 : r.head? ≠ some 34) (h2 : 47 ∉ r) (h3 : r.length ≤ 9) : EndOk e ∧ cs e ≠ [] ∧ e.length ≤ 10 := by
  refine ⟨.inr ⟨r, h, h1, h2⟩, by rw [h]; simp, ?_⟩
  rw [← cs_len, h, List.length_cons]; omega
theorem norm_len (x : Str) : (norm x).length ≤ 2 * x.length + 2 := by
  have h1 := rootOf_len x
  have h2 := fold_wt (normStep_wt (((rootOf x).1.length : Int) != 0)) (Txt.split (rootOf x).2 (Str.ofString "/")) []
  rw [wt_nil] at h2
  have h3 := wt_split (rootOf x).2
  have h4 := join_wt ((Txt.split (rootOf x).2 (Str.ofString "/")).foldl (normStep (((rootOf x).1.length : Int) != 0)) [])
  have h5 : (normTail x).length = (rootOf x).1.length + (Str.join (Str.ofString "/") ((Txt.split (rootOf x).2 (Str.ofString "/")).foldl (normStep (((rootOf x).1.length : Int) != 0)) [])).length := Str.length_append _ _
  have h6 : (Str.ofString ".").length = 1 := by decide +kernel
  unfold norm
  split
  · omega
  split <;> omega
theorem len_257q : (Str.ofString "257 \"").length = 5 := by decide +kernel
section
variable {w : World} {mean : ExcName → Option Value} {mg mb : Str → Option Value} {cn : Str} {cs : Scope} {a L : Addr} {ccd : Value} {h₀ : Heap} {m : Str → Option Value} {news : List (Addr × Obj)} {s : Shared} {Q E : Value → Shared → Prop}
theorem read_D {x : Str} {tx : Tok} (D : Str × Str × Str) (hD : rd x = D) (hx : x.length ≤ 60000)
    (B : Below callerA h₀ [] h₀) (F : Fr h₀ L s.heap m) (X : (hd.heap_39 w.params).In h₀) (N : News h₀ L s.heap news) (T : Top hd.view_39 (looseW hd.view_39 []) mean mg mb h₀) (hk : cs.kind = .function)
    (ret : ∀ l t u v h' tk', Fr h₀ L h' m → News h₀ L h' ((l, tupObj [.str D.1 t, .str D.2.1 u, .str D.2.2 v]) :: news) → Q (.ref l) { s with heap := h', toks := tk' }) :
    wpAny (model PySem.Challenge.rw_ny0061_01.row.prog w) (callerA.deeper (envOf cn cs L a ccd)) (call (.ref 161) [.str x tx]) Q E s := by
  refine read_ok x tx B F X N T hk hx ?_
  subst hD
  exact ret
theorem read_told {P e : Str} {tx : Tok} (hP : P.length ≤ 60) (he : EndOk e) (hl : e.length ≤ 10)
    (B : Below callerA h₀ [] h₀) (F : Fr h₀ L s.heap m) (X : (hd.heap_39 w.params).In h₀) (N : News h₀ L s.heap news) (T : Top hd.view_39 (looseW hd.view_39 []) mean mg mb h₀) (hk : cs.kind = .function)
    (ret : ∀ l t u v h' tk', Fr h₀ L h' m → News h₀ L h' ((l, tupObj [.str (Str.ofString "257 \"" ++ dq P ++ e) t, .str (Str.ofString "told") u, .str P v]) :: news) → Q (.ref l) { s with heap := h', toks := tk' }) :
    wpAny (model PySem.Challenge.rw_ny0061_01.row.prog w) (callerA.deeper (envOf cn cs L a ccd)) (call (.ref 161) [.str (Str.ofString "257 \"" ++ dq P ++ e) tx]) Q E s := by
  have h1 := dq_len P
  refine read_D (Str.ofString "257 \"" ++ dq P ++ e, Str.ofString "told", P) (rd_in P e he) ?_ B F X N T hk ret
  rw [Str.length_append, Str.length_append, len_257q]; omega
theorem read_whole {P e : Str} {tx : Tok} (hP : PathOk P) (he : EndOk e) (hq : Mine.cs e ≠ []) (hl : e.length ≤ 10)
    (B : Below callerA h₀ [] h₀) (F : Fr h₀ L s.heap m) (X : (hd.heap_39 w.params).In h₀) (N : News h₀ L s.heap news) (T : Top hd.view_39 (looseW hd.view_39 []) mean mg mb h₀) (hk : cs.kind = .function)
    (ret : ∀ l t u v h' tk', Fr h₀ L h' m → News h₀ L h' ((l, tupObj [.str (wholeD P e).1 t, .str (wholeD P e).2.1 u, .str (wholeD P e).2.2 v]) :: news) → Q (.ref l) { s with heap := h', toks := tk' }) :
    wpAny (model PySem.Challenge.rw_ny0061_01.row.prog w) (callerA.deeper (envOf cn cs L a ccd)) (call (.ref 161) [.str (norm (Str.ofString "257 \"" ++ dq P ++ e)) tx]) Q E s := by
  have h1 := dq_len P
  have h2 := norm_len (Str.ofString "257 \"" ++ dq P ++ e)
  have h3 := hP.2.2
  refine read_D (wholeD P e) (whole_P hP he hq) ?_ B F X N T hk ret
  rw [Str.length_append, Str.length_append, len_257q] at h2; omega
theorem read_begun {P : Str} {tx : Tok} (hP : PathOk P)
    (B : Below callerA h₀ [] h₀) (F : Fr h₀ L s.heap m) (X : (hd.heap_39 w.params).In h₀) (N : News h₀ L s.heap news) (T : Top hd.view_39 (looseW hd.view_39 []) mean mg mb h₀) (hk : cs.kind = .function)
    (ret : ∀ l t u v h' tk', Fr h₀ L h' m → News h₀ L h' ((l, tupObj [.str (begunD P).1 t, .str (begunD P).2.1 u, .str (begunD P).2.2 v]) :: news) → Q (.ref l) { s with heap := h', toks := tk' }) :
    wpAny (model PySem.Challenge.rw_ny0061_01.row.prog w) (callerA.deeper (envOf cn cs L a ccd)) (call (.ref 161) [.str (norm (Str.ofString "257 \"" ++ dq P)) tx]) Q E s := by
  have h1 := dq_len P
  have h2 := norm_len (Str.ofString "257 \"" ++ dq P)
  have h3 := hP.2.2
  refine read_D (begunD P) (begun_P hP) ?_ B F X N T hk ret
  rw [Str.length_append, len_257q] at h2; omega
end
section
variable {w : World} {mean : ExcName → Option Value} {mg mb : Str → Option Value} {dp un : Nat} {gd : Option (List Code)} {cn : Str} {cs : Scope} {a : Addr} {ccd : Value} {cl : List (Str × Addr)} {outer : List Env} {A₀ : Around} {base h₀ : Heap} {L : Addr} {m : Str → Option Value} {news : List (Addr × Obj)} {s : Shared} {Q E : Value → Shared → Prop}
theorem due_use {lf lo ll : Addr} {vf vo vl : List Value} {xf xo xl : List Str} {e : Str} {te : Tok} (hf : StrsAre vf xf) (ho : StrsAre vo xo) (hl : StrsAre vl xl) (hwf : wt xf ≤ 1000) (hwo : wt xo ≤ 1000) (hwl : wt xl ≤ 1000) (he : e.length ≤ 1000)
    (hlf : s.heap.IsList lf vf.toArray) (hlo : s.heap.IsList lo vo.toArray) (hll : s.heap.IsList ll vl.toArray)
    (B : Below A₀ base outer h₀) (F : Fr h₀ L s.heap m) (X : (hd.heap_39 w.params).In h₀) (N : News h₀ L s.heap news) (T : Top hd.view_39 (looseW hd.view_39 []) mean mg mb h₀) (hk : cs.kind = .function)
    (hd : dp + 6 < recursionLimit) (hu : un + 10 * 6 < cLine)
    (ret : ∀ l t u v h' tk', Fr h₀ L h' m → News h₀ L h' ((l, tupObj [.str (due xf xo xl e).1 t, .str (due xf xo xl e).2.1 u, .str (due xf xo xl e).2.2 v]) :: news) → Q (.ref l) { s with heap := h', toks := tk' }) :
      wpAny (model PySem.Challenge.rw_ny0061_01.row.prog w) (ktrTop dp un gd cn cs L a ccd cl outer) (call (.ref 166) [.ref lf, .ref lo, .ref ll, .str e te]) Q E s :=
  Cl.use (due_ok lf lo ll vf vo vl xf xo xl e te hf ho hl hwf hwo hwl he) B F X N T hk ⟨hlf, hlo, hll⟩ hd hu fun _ _ _ _ F' N' _ q => by
    obtain ⟨l, t, u, v, rfl, rfl⟩ := q
    exact ret _ _ _ _ _ _ F' N'
theorem norm_use {x : Str} {tx : Tok} (hx : x.length ≤ 60000)
    (B : Below A₀ base outer h₀) (F : Fr h₀ L s.heap m) (X : (hd.heap_39 w.params).In h₀) (N : News h₀ L s.heap news) (T : Top hd.view_39 (looseW hd.view_39 []) mean mg mb h₀) (hk : cs.kind = .function)
    (hd : dp + 6 < recursionLimit) (hu : un + 10 * 6 < cLine)
    (ret : ∀ t h' tk', (norm x).length ≤ 2 * x.length + 2 → Fr h₀ L h' m → News h₀ L h' news → Q (.str (norm x) t) { s with heap := h', toks := tk' }) :
      wpAny (model PySem.Challenge.rw_ny0061_01.row.prog w) (ktrTop dp un gd cn cs L a ccd cl outer) (call (.ref 140) [.str x tx]) Q E s :=
  Cl.useS (norm_ok x tx) B F X N T hk hx hd hu fun t h' tk' F' N' => ret t h' tk' (norm_len x) F' N'
end
end Mine
end
section
open PySem PySem.W PySem.Calls PyProof.Rows
set_option maxRecDepth 100000
namespace Mine
section
variable {prog : Program} {w : World} {A : Around} {E : Value → Shared → Prop} {s : Shared} {h₀ : Heap} {L : Addr} {m : Str → Option Value} {news : List (Addr × Obj)} {value slice : Expr} {Q : Value → Shared → Prop}
noncomputable def pickS (xs : List Str) (lo hi : Option Int) : List Str := (xs.drop (kms_lo lo xs.length)).take (kms_hi hi xs.length - kms_lo lo xs.length)
theorem pick_a (xs : List Str) : pickS xs none (some 1) = xs.take 1 := by
  show (xs.drop 0).take (min 1 xs.length - 0) = _
  rw [List.drop_zero, Nat.sub_zero]
  cases xs with
  | nil => rfl
  | cons x r => rw [List.length_cons, Nat.min_eq_left (by omega)]
theorem drop_min1 (xs : List Str) : xs.drop (min 1 xs.length) = xs.drop 1 := by
  cases xs with
  | nil => rfl
  | cons x r => rw [List.length_cons, Nat.min_eq_left (by omega)]
theorem pick_b (xs : List Str) : pickS xs (some 1) none = xs.drop 1 := by
  show (xs.drop (min 1 xs.length)).take (xs.length - min 1 xs.length) = _
  rw [drop_min1, List.take_of_length_le (by rw [List.length_drop]; omega)]
theorem pick_c (xs : List Str) : pickS xs (some 1) (some (-1)) = (xs.drop 1).dropLast := by
  show (xs.drop (min 1 xs.length)).take (xs.length - 1 - min 1 xs.length) = _
  rw [drop_min1, List.dropLast_eq_take]
  congr 1
  rw [List.length_drop]
  omega
theorem pick_d (xs : List Str) : pickS xs (some (-1)) none = xs.drop (xs.length - 1) := by
  show (xs.drop (xs.length - 1)).take (xs.length - (xs.length - 1)) = _
  rw [List.take_of_length_le (by rw [List.length_drop]; omega)]
theorem wt_take (xs : List Str) (k : Nat) : wt (xs.take k) ≤ wt xs := by
  have h := wt_app (xs.take k) (xs.drop k)
  rw [List.take_append_drop] at h
  omega
theorem wt_drop (xs : List Str) (k : Nat) : wt (xs.drop k) ≤ wt xs := by
  have h := wt_app (xs.take k) (xs.drop k)
  rw [List.take_append_drop] at h
  omega
theorem slice_T {l : Addr} {vs : List Value} {xs ys : List Str} {vl vu : Value} {lo hi : Option Int} (F : Fr h₀ L s.heap m) (N : News h₀ L s.heap news) (hl : s.heap.IsList l vs.toArray) (pl : IsPart vl lo) (pu : IsPart vu hi) (hx : StrsAre vs xs) (hw : wt xs ≤ 1000) (hm : pickS xs lo hi = ys)
    (h : ∀ D ws h', StrsAre ws ys → wt ys ≤ 1000 → Fr h₀ L h' m → News h₀ L h' ((D, listOf ws.toArray 0) :: news) → (∀ p ∈ news, p.1 < D) → Q (.ref D) { s with heap := h' })
    (hs : subscripted slice false (.ref l) (.ref s.heap.objs.size) = operate [.ref s.heap.objs.size, .ref l] (getItem (.ref l) (.ref s.heap.objs.size)) := by with_unfolding_all rfl) :
    wpAny (model prog w) A (subscriptTail value slice (.ref l) (.ref s.heap.objs.size)) Q E { s with heap := s.heap.push { cls := .type "slice", data := .fields #[vl, vu, .none] } } := by
  have hlen := strs_len hx
  have hwl := wt_len xs
  refine tail_any (Heap.IsList.typeIs (s := { s with heap := s.heap.push { cls := .type "slice", data := .fields #[vl, vu, .none] } }) (hl.push _)) list_getitem_lookup
    (wpAny_getItem_list_slice (hl.push _) (Heap.IsSliceOf.new ..) pl pu .none (by simp) ?_ (by rw [sizeLine_eq, List.size_toArray]; omega)) hs
  have N1 := News.push (F.push { cls := .type "slice", data := .fields #[vl, vu, .none] }) (N.grown fun _ _ e => Heap.get?_push_of_some _ e) { cls := .type "list", data := .seq (slicePick vs.toArray lo hi none) }
  rw [Heap.size_push] at N1
  show Q (.ref (s.heap.push _).objs.size) _
  rw [Heap.size_push]
  rw [kms_pick_eq] at N1 ⊢
  refine h _ (kms_pick vs lo hi) _ ?_ ?_ ((F.push _).push _) N1 (fun p hp => Nat.lt_succ_of_lt (Heap.lt_size (N p hp).1))
  · rw [← hm]
    unfold kms_pick pickS
    rw [hlen]
    exact strs_take (strs_drop hx _) _
  · rw [← hm]
    unfold pickS
    exact Nat.le_trans (wt_take _ _) (Nat.le_trans (wt_drop _ _) hw)
theorem tup_cut {l : Addr} {a b c : Value} {u : Tok} (F : Fr h₀ L s.heap m) (N : News h₀ L s.heap news) (hm : (l, tupObj [a, b, c]) ∈ news)
    (h : ∀ D h', Fr h₀ L h' m → News h₀ L h' ((D, tupObj [b, c]) :: news) → (∀ p ∈ news, p.1 < D) → Q (.ref D) { s with heap := h' })
    (hs : subscripted slice false (.ref l) (.ref s.heap.objs.size) = operate [.ref s.heap.objs.size, .ref l] (getItem (.ref l) (.ref s.heap.objs.size)) := by with_unfolding_all rfl) :
    wpAny (model prog w) A (subscriptTail value slice (.ref l) (.ref s.heap.objs.size)) Q E { s with heap := s.heap.push { cls := .type "slice", data := .fields #[.int 1 u, .none, .none] } } := by
  have ht : IsTup s.heap l [a, b, c].toArray := News.isTup N hm
  have ht' : IsTup (s.heap.push { cls := .type "slice", data := .fields #[.int 1 u, .none, .none] }) l [a, b, c].toArray := ht.keeps fun _ _ e => Heap.get?_push_of_some _ e
  refine tail_any (s := { s with heap := s.heap.push { cls := .type "slice", data := .fields #[.int 1 u, .none, .none] } }) ht'.typeIs slot_tuple_getitem.lookup
    (getItem_tuple_from (a := 1) ht' (Heap.IsSliceOf.new ..) (Nat.le_refl _) (by simp) ?_ (by rw [sizeLine_eq]; simp)) hs
  have N1 := News.push (F.push { cls := .type "slice", data := .fields #[.int 1 u, .none, .none] }) (N.grown fun _ _ e => Heap.get?_push_of_some _ e) { cls := .type "tuple", data := .seq ([a, b, c].toArray.toList.drop 1).toArray }
  rw [Heap.size_push] at N1
  show Q (.ref (s.heap.push _).objs.size) _
  rw [Heap.size_push]
  exact h _ _ ((F.push _).push _) N1 (fun p hp => Nat.lt_succ_of_lt (Heap.lt_size (N p hp).1))
theorem split_W {x y : Str} {t u : Tok} (hF : Fr h₀ L s.heap m) (hN : News h₀ L s.heap news) (hy : y = Str.ofString "/") (hsz : x.length ≤ 900)
    (h : ∀ D vs h' k, StrsAre vs (sp x) → wt (sp x) ≤ 1000 → Fr h₀ L h' m → News h₀ L h' ((D, listOf vs.toArray 0) :: news) → (∀ p ∈ news, p.1 < D) → Q (.ref D) { s with heap := h', toks := k }) :
    wpAny (model prog w) A (call (.builtin "str.split") [.str x t, .str y u]) Q E s := by
  subst hy
  exact split_N hF hN (by decide +kernel) (by omega) fun D vs h' k a => h D vs h' k a (by have := wt_split x; unfold sp; omega)
end
end Mine
end
section
open PySem PySem.W PySem.Calls PyProof.Rows
set_option maxRecDepth 100000
namespace Mine
noncomputable def Sane (x : Str) : Prop := ∀ c ∈ cs x, c < 1114112
theorem Sane.ok {x : Str} (h : Sane x) : PyData.strOk x = true := by
  unfold PyData.strOk
  rw [Array.all_eq_true']
  intro c hc
  exact decide_eq_true (h c (by simpa [cs] using hc))
theorem sane_app {x y : Str} (hx : Sane x) (hy : Sane y) : Sane (x ++ y) := by
  intro c hc
  rw [cs_app] at hc
  exact (List.mem_append.mp hc).elim (hx c) (hy c)
theorem sane_dq {x : Str} (hx : Sane x) : Sane (dq x) := by
  intro c hc
  rw [cs_dq, mem_dbl] at hc
  exact hx c hc
theorem sane_of {x : Str} (l : List Nat) (h : cs x = l) (hl : ∀ c ∈ l, c < 1114112) : Sane x := by
  intro c hc; rw [h] at hc; exact hl c hc
theorem sane_e : Sane (Str.ofString "") := sane_of [] cs_e (by decide)
theorem sane_d : Sane (Str.ofString ".") := sane_of _ cs_d (by decide)
theorem sane_dd : Sane (Str.ofString "..") := sane_of _ cs_dd (by decide)
theorem sane_sl : Sane (Str.ofString "/") := sane_of _ cs_slash (by decide)
theorem sane_257q : Sane (Str.ofString "257 \"") := sane_of _ cs_257q (by decide)
theorem sane_told : Sane (Str.ofString "told") := sane_of [116, 111, 108, 100] (by decide +kernel) (by decide)
theorem sane_refused : Sane (Str.ofString "refused") := sane_of [114, 101, 102, 117, 115, 101, 100] (by decide +kernel) (by decide)
theorem sane_jn : ∀ {l : List Str}, (∀ y ∈ l, Sane y) → Sane (jn l)
  | [], _ => by rw [jn_nil]; exact sane_e
  | [x], h => h x (.head _)
  | x :: y :: r, h => by
    rw [jn_two]
    exact sane_app (sane_app (h x (.head _)) sane_sl) (sane_jn fun z hz => h z (.tail _ hz))
theorem mem_jn : ∀ {l : List Str} {y : Str} {c : Nat}, y ∈ l → c ∈ cs y → c ∈ cs (jn l)
  | [x], y, c, h, hc => by rw [List.mem_singleton.mp h] at hc; exact hc
  | x :: z :: r, y, c, h, hc => by
    rw [cs_jn_two]
    rcases List.mem_cons.mp h with e | h
    · rw [e] at hc; exact List.mem_append_left _ hc
    · exact List.mem_append_right _ (.tail _ (mem_jn h hc))
theorem sane_sp {P : Str} (h : Sane P) : ∀ y ∈ sp P, Sane y := fun y hy c hc => h c (by
  have := mem_jn hy hc
  rwa [jn_sp] at this)
theorem sane_dueW {xf xo xl : List Str} {e : Str} (ho : ∀ y ∈ xo, Sane y) (hl : ∀ y ∈ xl, Sane y) (he : Sane e) : Sane (dueW xf xo xl e) := by
  rw [dueW_dot]
  unfold dot
  split
  · exact sane_d
  · rw [dueWords_map]
    refine sane_app (sane_jn fun y hy => ?_) he
    obtain ⟨z, hz, rfl⟩ := List.mem_map.mp hy
    refine sane_dq ?_
    rcases List.mem_append.mp hz with hz | hz
    · rw [List.eq_of_mem_replicate hz]; exact sane_dd
    · rcases List.mem_append.mp hz with hz | hz
      · exact ho z (keep_sub _ z hz)
      · exact hl z hz
theorem sane_due {xf xo xl : List Str} {e : Str} (hf : ∀ y ∈ xf, Sane y) (ho : ∀ y ∈ xo, Sane y) (hl : ∀ y ∈ xl, Sane y) (he : Sane e) : Sane (due xf xo xl e).1 ∧ Sane (due xf xo xl e).2.1 ∧ Sane (due xf xo xl e).2.2 := by
  have hw := sane_dueW (xf := xf) ho hl he
  have hp : Sane (duePath xf xo xl) := sane_jn fun y hy => by
    rcases List.mem_append.mp hy with hy | hy
    · rcases List.mem_append.mp hy with hy | hy
      · exact hf y hy
      · exact ho y (keep_sub _ y hy)
    · exact hl y hy
  unfold due
  split
  · exact ⟨sane_app (sane_app sane_257q (sane_dq hp)) he, sane_told, hp⟩
  · split
    · exact ⟨hw, sane_told, sane_e⟩
    · exact ⟨hw, sane_refused, hw⟩
theorem sane_pf (x : Int) : Sane (pieceF x) := by
  rcases pf_cases x with e | e | e | e | ⟨e, h⟩ | e | e | e | e | ⟨e, h⟩
  · exact sane_of [46, 46] (by rw [e]; decide +kernel) (by decide)
  · exact sane_of [50, 53, 55] (by rw [e]; decide +kernel) (by decide)
  · exact sane_of [50, 53, 48] (by rw [e]; decide +kernel) (by decide)
  · rcases mulq _ (fmod3 (x.fdiv 8)) with q | q | q
    · exact sane_of [34] (by rw [e, q]) (by decide)
    · exact sane_of [34, 34] (by rw [e, q]) (by decide)
    · exact sane_of [34, 34, 34] (by rw [e, q]) (by decide)
  · exact sane_of [] (by rw [e]; decide +kernel) (by decide)
  · exact sane_of [46] (by rw [e]; decide +kernel) (by decide)
  · exact sane_of [46, 46, 34, 32] (by rw [e]; decide +kernel) (by decide)
  · exact sane_of [46, 46, 46] (by rw [e]; decide +kernel) (by decide)
  · exact sane_of [97] (by rw [e]; decide +kernel) (by decide)
  · rw [e]
    intro c hc
    have h1 : (x.fdiv 8).fmod 1112064 = (x.fdiv 8) % 1112064 := Int.fmod_eq_emod_of_nonneg _ (by decide)
    have hc' : c = (if (x.fdiv 8).fmod 1112064 < 55296 then (x.fdiv 8).fmod 1112064 else (x.fdiv 8).fmod 1112064 + 2048).toNat := List.mem_singleton.mp hc
    rw [hc', h1]
    split <;> omega
theorem sane_path {ds : List Int} (h1 : 1 ≤ ds.length) : Sane (Txt.mul (Str.ofString "/") (ds.sum.fmod 4) ++ jn (ds.map pieceF)) := by
  have hL : ds.map pieceF ≠ [] := by
    intro e
    have := congrArg List.length e
    rw [List.length_map] at this
    simp at this
    rw [this] at h1
    exact absurd h1 (by decide)
  rw [mul_sl _ (fmod4 _) hL]
  refine sane_jn fun y hy => ?_
  rcases List.mem_append.mp hy with hy | hy
  · rw [List.eq_of_mem_replicate hy]; exact sane_e
  · obtain ⟨x, _, rfl⟩ := List.mem_map.mp hy
    exact sane_pf x
section
variable {prog : Program} {w : World} {A : Around} {E : Value → Shared → Prop} {s : Shared} {env : Env} {h₀ : Heap} {L : Addr} {m : Str → Option Value} {news : List (Addr × Obj)} {ex : Expr} {Q : Value → Shared → Prop}
theorem add_path2 {ds : List Int} {t u : Tok} (h1 : 1 ≤ ds.length) (h8 : ds.length ≤ 8) (h : ∀ P t' k, PathOk P → P.length ≤ 60 → Sane P → Q (.str P t') { s with toks := k }) :
    wpAny (model prog w) A (binaryOp .Add (.str (Txt.mul (Str.ofString "/") (ds.sum.fmod 4)) t) (.str (Str.join (Str.ofString "/") (List.map pieceF ds)) u)) Q E s := by
  have hp := path_ok h1 h8
  have hl := hp.2.2
  rw [Str.length_append] at hl
  refine add_T (Nat.le_trans hl (by decide)) fun t' k _ => h _ t' k hp hp.2.2 (sane_path h1)
theorem cmp_same {x y : Value} {d : Dat} (N : News h₀ L s.heap news) (Dx : DatIn news x d) (Dy : DatIn news y d) (hk : kqdOk 8 d = true) (hu : A.units + 64 < cLine) (h : Q (.bool false) s) : wpAny (model prog w) A (compareOp .NotEq x y) Q E s := by
  obtain ⟨as, ra⟩ := kqd_in N 8 Dx hk
  obtain ⟨bs, rb⟩ := kqd_in N 8 Dy hk
  have l := kqd_lay 8 d hk
  have hs : SeqAt.shaped (kqdP d) = true := by unfold SeqAt.shaped; rw [l.1, Bool.true_and]; exact decide_eq_true (Nat.le_trans l.2 (by decide))
  have e : PyData.eqv (kqdP d) (kqdP d) = true := (kqd_eqv 8 d d 8 hk hk).mpr rfl
  refine ne_dataH ra rb hs hs hu ?_
  rw [e]
  exact h
theorem cmp_pair {x y : Addr} {a b : Str} {t u t' u' : Tok} (N : News h₀ L s.heap news) (hx : (x, tupObj [.str a t, .str b u]) ∈ news) (hy : (y, tupObj [.str a t', .str b u']) ∈ news) (ha : Sane a) (hb : Sane b) (hu : A.units + 64 < cLine) (h : Q (.bool false) s) :
    wpAny (model prog w) A (compareOp .NotEq (.ref x) (.ref y)) Q E s :=
  cmp_same (d := .tuple [.str a, .str b]) N (.tuple hx (.cons (.str _ _) (.cons (.str _ _) .nil))) (.tuple hy (.cons (.str _ _) (.cons (.str _ _) .nil))) (by simp [kqdOk, ha.ok, hb.ok]) hu h
theorem dat_tri {x : Addr} {a b c : Str} {t u v : Tok} (hx : (x, tupObj [.str a t, .str b u, .str c v]) ∈ news) : DatIn news (.ref x) (.tuple [.str a, .str b, .str c]) :=
  .tuple hx (.cons (.str _ _) (.cons (.str _ _) (.cons (.str _ _) .nil)))
noncomputable def SaneT (D : Str × Str × Str) : Prop := Sane D.1 ∧ Sane D.2.1 ∧ Sane D.2.2
theorem cmp_lists {x y p q p' q' : Addr} {D D' : Str × Str × Str} {c c' : Nat} {t1 t2 t3 t4 t5 t6 u1 u2 u3 u4 u5 u6 : Tok} (N : News h₀ L s.heap news) (hx : (x, listOf #[.ref p, .ref q] c) ∈ news) (hy : (y, listOf #[.ref p', .ref q'] c') ∈ news)
    (hp : (p, tupObj [.str D.1 t1, .str D.2.1 t2, .str D.2.2 t3]) ∈ news) (hp' : (p', tupObj [.str D.1 u1, .str D.2.1 u2, .str D.2.2 u3]) ∈ news)
    (hq : (q, tupObj [.str D'.1 t4, .str D'.2.1 t5, .str D'.2.2 t6]) ∈ news) (hq' : (q', tupObj [.str D'.1 u4, .str D'.2.1 u5, .str D'.2.2 u6]) ∈ news)
    (hD : SaneT D) (hD' : SaneT D') (hu : A.units + 64 < cLine) (h : Q (.bool false) s) :
    wpAny (model prog w) A (compareOp .NotEq (.ref x) (.ref y)) Q E s :=
  cmp_same (d := .list [.tuple [.str D.1, .str D.2.1, .str D.2.2], .tuple [.str D'.1, .str D'.2.1, .str D'.2.2]]) N (.list hx (.cons (dat_tri hp) (.cons (dat_tri hq) .nil))) (.list hy (.cons (dat_tri hp') (.cons (dat_tri hq') .nil)))
    (by simp [kqdOk, hD.1.ok, hD.2.1.ok, hD.2.2.ok, hD'.1.ok, hD'.2.1.ok, hD'.2.2.ok]) hu h
theorem saneT_whole {P e : Str} (h : Sane P) (he : Sane e) : SaneT (wholeD P e) :=
  sane_due (fun y hy => sane_sp h y (List.mem_of_mem_take hy)) (fun y hy => sane_sp h y (List.mem_of_mem_drop (List.dropLast_subset _ hy))) (fun y hy => sane_sp h y (List.mem_of_mem_drop (List.mem_of_mem_drop hy))) he
theorem saneT_begun {P : Str} (h : Sane P) : SaneT (begunD P) :=
  sane_due (fun y hy => sane_sp h y (List.mem_of_mem_take hy)) (fun y hy => sane_sp h y (List.mem_of_mem_drop hy)) (fun y hy => nomatch hy) sane_e
/-- the end's cut, sane too -/
noncomputable def EndPost2 (h₀ : Heap) (L : Addr) (m : Str → Option Value) (news : List (Addr × Obj)) (s : Shared) (v : Value) (s' : Shared) : Prop :=
  ∃ e t h' tk, v = .str e t ∧ s' = { s with heap := h', toks := tk } ∧ (EndOk e ∧ cs e ≠ [] ∧ e.length ≤ 10 ∧ Sane e) ∧ Fr h₀ L h' m ∧ News h₀ L h' news
theorem cut_end2 (_F : Fr h₀ L s.heap m) (_N : News h₀ L s.heap news) (h1 : wpAny (model prog w) A (eval ex env) (EndPost2 h₀ L m news s) E s)
    (h2 : ∀ e t h' tk, EndOk e → cs e ≠ [] → e.length ≤ 10 → Sane e → Fr h₀ L h' m → News h₀ L h' news → Q (.str e t) { s with heap := h', toks := tk }) : wpAny (model prog w) A (eval ex env) Q E s := by
  refine wpAny_mono h1 ?_ fun _ _ x => x
  rintro v s' ⟨e, t, h', tk, rfl, rfl, ⟨a, b, c, d⟩, F', N'⟩
  exact h2 e t h' tk a b c d F' N'
end
theorem end_ok2 {e : Str} (r : List Nat) (h : cs e = 34 :: r) (h1 : r.head? ≠ some 34) (h2 : 47 ∉ r) (h3 : r.length ≤ 9) (h4 : ∀ c ∈ r, c < 1114112) : EndOk e ∧ cs e ≠ [] ∧ e.length ≤ 10 ∧ Sane e := by
  obtain ⟨a, b, c⟩ := end_ok r h h1 h2 h3
  refine ⟨a, b, c, sane_of _ h fun c hc => ?_⟩
  rcases List.mem_cons.mp hc with e | hc
  · rw [e]; decide
  · exact h4 c hc
theorem end_e2 {h₀ h' : Heap} {L : Addr} {m : Str → Option Value} {news : List (Addr × Obj)} {p : Addr × Obj} {s : Shared} {e : Str} {t : Tok} {tk : Nat} (hk : EndOk e ∧ cs e ≠ [] ∧ e.length ≤ 10 ∧ Sane e) (F : Fr h₀ L h' m) (N : News h₀ L h' (p :: news)) :
    EndPost2 h₀ L m news s (.str e t) { s with heap := h', toks := tk } :=
  ⟨e, t, h', tk, rfl, rfl, hk, F, fun q hq => N q (.tail _ hq)⟩
theorem endq0 : EndOk (Str.ofString "\"" ++ Str.ofString "") ∧ cs (Str.ofString "\"" ++ Str.ofString "") ≠ [] ∧ (Str.ofString "\"" ++ Str.ofString "").length ≤ 10 ∧ Sane (Str.ofString "\"" ++ Str.ofString "") := end_ok2 [] (by decide +kernel) (by decide) (by decide) (by decide) (by decide)
theorem endq1 : EndOk (Str.ofString "\"" ++ Str.ofString " is made") ∧ cs (Str.ofString "\"" ++ Str.ofString " is made") ≠ [] ∧ (Str.ofString "\"" ++ Str.ofString " is made").length ≤ 10 ∧ Sane (Str.ofString "\"" ++ Str.ofString " is made") := end_ok2 [32, 105, 115, 32, 109, 97, 100, 101] (by decide +kernel) (by decide) (by decide) (by decide) (by decide)
theorem endq2 : EndOk (Str.ofString "\"" ++ Str.ofString "..") ∧ cs (Str.ofString "\"" ++ Str.ofString "..") ≠ [] ∧ (Str.ofString "\"" ++ Str.ofString "..").length ≤ 10 ∧ Sane (Str.ofString "\"" ++ Str.ofString "..") := end_ok2 [46, 46] (by decide +kernel) (by decide) (by decide) (by decide) (by decide)
theorem endq3 : EndOk (Str.ofString "\"" ++ Str.ofString " \"a\"") ∧ cs (Str.ofString "\"" ++ Str.ofString " \"a\"") ≠ [] ∧ (Str.ofString "\"" ++ Str.ofString " \"a\"").length ≤ 10 ∧ Sane (Str.ofString "\"" ++ Str.ofString " \"a\"") := end_ok2 [32, 34, 97, 34] (by decide +kernel) (by decide) (by decide) (by decide) (by decide)
end Mine
end
section
open PySem PySem.W PySem.Calls PyProof.Rows
set_option maxRecDepth 100000
namespace Mine
theorem unp_len (xs : List Str) : unp xs ≤ xs.length := by
  induction xs with
  | nil => exact Nat.le_refl _
  | cons y r ih =>
    rw [unp, List.length_cons]
    repeat' split
    all_goals omega
theorem keep_wt (xs : List Str) : wt (keep xs) ≤ wt xs := by
  have := keptOf_wt (xs.foldl htStep [0]) xs
  rwa [keptOf_keep] at this
theorem plain_len {P : Str} (h : P.length ≤ 60) : (plainD P).1.length ≤ 900 := by
  unfold plainD
  rw [due_fst]
  have h1 := unp_len (sp P)
  have h2 : wt (sp P) ≤ 61 := by have := wt_split P; unfold sp; omega
  have h3 := wt_len (sp P)
  have h4 := keep_wt (sp P)
  have h5 := wt_map_dq (keep (sp P))
  have h6 := wt_rep (Str.ofString "..") (unp (sp P))
  have h7 : (Str.ofString "..").length = 2 := by decide +kernel
  have h8 := wt_app (List.replicate (unp (sp P)) (Str.ofString "..")) ((keep (sp P)).map dq)
  have h9 := join_wt (List.replicate (unp (sp P)) (Str.ofString "..") ++ (keep (sp P)).map dq)
  rw [h7] at h6
  have hd : (Str.ofString ".").length = 1 := by decide +kernel
  unfold dot
  split
  · omega
  · show (Str.join _ _).length ≤ 900
    omega
section
variable {prog : Program} {w : World} {A : Around} {E : Value → Shared → Prop} {s : Shared} {env : Env} {h₀ : Heap} {L : Addr} {m : Str → Option Value} {news : List (Addr × Obj)} {ex value slice : Expr} {Q : Value → Shared → Prop}
/-- a tuple's first -/
theorem tup_first {l : Addr} {a b c : Value} {u : Tok} (N : News h₀ L s.heap news) (hm : (l, tupObj [a, b, c]) ∈ news) (h : Q a s)
    (hs : subscripted slice false (.ref l) (.int 0 u) = operate [.ref l, .int 0 u] (getItem (.ref l) (.int 0 u)) := by with_unfolding_all rfl) :
    wpAny (model prog w) A (subscriptTail value slice (.ref l) (.int 0 u)) Q E s :=
  item_tupleT (News.isTup N hm) (by decide) (by decide) rfl rfl h hs
/-- the pieces' first -/
theorem first_T {l : Addr} {vs : List Value} {P : Str} {u : Tok} (hl : s.heap.IsList l vs.toArray) (hx : StrsAre vs (sp P)) (hw : wt (sp P) ≤ 1000) (h : ∀ t, Q (.str ((sp P).getD 0 Str.empty) t) s)
    (hs : subscripted slice false (.ref l) (.int 0 u) = operate [.ref l, .int 0 u] (getItem (.ref l) (.int 0 u)) := by with_unfolding_all rfl) :
    wpAny (model prog w) A (subscriptTail value slice (.ref l) (.int 0 u)) Q E s :=
  item_T hl hx (by omega) (Int.le_refl _) (by have := List.length_pos_iff.mpr (sp_ne P); omega) h hs
theorem eq_T {x y : Str} {t u : Tok} (e : x = y) (h : Q (.bool true) s) : wpAny (model prog w) A (compareOp .Eq (.str x t) (.str y u)) Q E s := by
  refine PyProof.Rows.eq_str ?_
  subst e
  rw [beq_self_eq_true]; exact h
noncomputable def RootPost (h₀ : Heap) (L : Addr) (m : Str → Option Value) (news : List (Addr × Obj)) (s : Shared) (P : Str) (v : Value) (s' : Shared) : Prop :=
  ∃ t h' tk, v = .str (rootS P) t ∧ s' = { s with heap := h', toks := tk } ∧ Fr h₀ L h' m ∧ News h₀ L h' news
theorem cut_root {P : Str} (_hP : PathOk P) (_F : Fr h₀ L s.heap m) (_N : News h₀ L s.heap news) (h1 : wpAny (model prog w) A (eval ex env) (RootPost h₀ L m news s P) E s)
    (h2 : ∀ t h' tk, (rootS P).length ≤ 2 → Fr h₀ L h' m → News h₀ L h' news → Q (.str (rootS P) t) { s with heap := h', toks := tk }) : wpAny (model prog w) A (eval ex env) Q E s := by
  refine wpAny_mono h1 ?_ fun _ _ x => x
  rintro v s' ⟨t, h', tk, rfl, rfl, F', N'⟩
  refine h2 t h' tk ?_ F' N'
  have e1 : (Str.ofString "//").length = 2 := by decide +kernel
  have e2 : (Str.ofString "/").length = 1 := by decide +kernel
  unfold rootS
  repeat' split
  all_goals omega
end
theorem root_e {h₀ h' : Heap} {L : Addr} {m : Str → Option Value} {news : List (Addr × Obj)} {s : Shared} {P r : Str} {t : Tok} {tk : Nat} (hr : rootS P = r) (F : Fr h₀ L h' m) (N : News h₀ L h' news) : RootPost h₀ L m news s P (.str r t) { s with heap := h', toks := tk } :=
  ⟨t, h', tk, by rw [hr], rfl, F, N⟩
theorem rs_a {P : Str} (h : (Txt.slice P none (some 2) == Str.ofString "//") = true) (h2 : (Txt.slice P (some 2) (some 3) != Str.ofString "/") = true) : rootS P = Str.ofString "//" := by unfold rootS; rw [if_pos h, if_pos h2]
theorem rs_b {P : Str} (h : (Txt.slice P none (some 2) == Str.ofString "//") = true) (h2 : (Txt.slice P (some 2) (some 3) != Str.ofString "/") = false) : rootS P = Str.ofString "/" := by unfold rootS; rw [if_pos h, if_neg (by rw [h2]; decide)]
theorem rs_c {P : Str} (h : (Txt.slice P none (some 2) == Str.ofString "//") = false) : rootS P = Str.ofString "/" := by unfold rootS; rw [if_neg (by rw [h]; decide)]
/-! the comprehension with its test -/
noncomputable def FiltY (news : List (Addr × Obj)) (y : Str) (v : Value) (news' : List (Addr × Obj)) : Prop := named y = true ∧ news' = news ∧ ∃ t : Tok, v = .str y t
noncomputable def FiltN (news : List (Addr × Obj)) (y : Str) (news' : List (Addr × Obj)) : Prop := named y = false ∧ news' = news
section
variable {prog : Program} {w : World} {A : Around} {h₀ : Heap} {L : Addr} {m : Str → Option Value} {env : Env} {ct elt : Expr} {x : Str} {scope : Scope} {cl : List (Str × Addr)} {s : Shared} {S : List (Addr × Obj) → Prop} {Fin : List Value → List (Addr × Obj) → Prop} {news : List (Addr × Obj)}
theorem comp_filt {vs : List Value} {xs : List Str} (hx : StrsAre vs xs)
    (turn : ∀ (y : Str) (t : Tok) I oI C oC D m₂ ys h tk (E' : Value → Shared → Prop), y ∈ xs → LCg.NsObj oC m₂ → m₂ x = some (.str y t) → Fr h₀ L h m → News h₀ L h ((I, oI) :: (C, oC) :: (D, LCg.lst ys) :: news) → LCg.Off3 I C D news → ((@Ne Nat I C) ∧ (@Ne Nat I D) ∧ (@Ne Nat C D)) →
      wpAny (model prog w) A (isTrue ct (compEnvC scope cl C env) (eval ct (compEnvC scope cl C env))) (fun ok s' => if ok = true then
        wpAny (model prog w) A (eval elt (compEnvC scope cl C env)) (LCg.CompEnd h₀ L m { s with heap := h, toks := tk } I oI C oC D (LCg.lst ys) S (fun v news' => FiltY news y v news')) E' s'
        else LCg.CompEnd h₀ L m { s with heap := h, toks := tk } I oI C oC D (LCg.lst ys) S (fun _ news' => FiltN news y news') Value.none s') E' { s with heap := h, toks := tk })
    (fin : ∀ ys, StrsAre ys (xs.filter named) → Fin ys news) : LCt.CompRestT prog w A h₀ L m env ct elt x scope cl s S (fun i v => vs.toArray[i]? = some v) Fin vs.toArray.size 0 [] news := by
  have hlen := strs_len hx
  have key : ∀ (j i : Nat) (ys : List Value), i + j = vs.length → StrsAre ys ((xs.take i).filter named) → LCt.CompRestT prog w A h₀ L m env ct elt x scope cl s S (fun i v => vs.toArray[i]? = some v) Fin j i ys news := by
    intro j
    induction j with
    | zero =>
      intro i ys hi hy
      have e : i = xs.length := by omega
      subst e
      rw [List.take_length] at hy
      exact LCt.CompRestT.zero (fin ys hy)
    | succ j ih =>
      intro i ys hi hy
      refine LCt.CompRestT.succ ?_
      intro v I oI C oC D m₂ h tk E' hv hC hm F N off ne
      obtain ⟨y, t, hk, rfl⟩ := strs_get hx (i := i) (by simpa using hv)
      have hs : xs.take (i + 1) = xs.take i ++ [y] := by rw [List.take_add_one, hk]; rfl
      refine wpAny_mono (turn y t I oI C oC D m₂ ys h tk E' (List.mem_of_getElem? hk) hC hm F N off ne) (fun ok s₂ hq => ?_) fun _ _ e => e
      cases ok with
      | true =>
        rw [if_pos rfl] at hq ⊢
        refine wpAny_mono hq (fun v s₃ hr => ?_) fun _ _ e => e
        obtain ⟨h', tk', nw, e, F', N', off', hS, hp, hn, t', hv'⟩ := hr
        rw [hn] at N' off' hS
        refine ⟨h', tk', news, e, F', N', off', hS, ?_⟩
        rw [hv']
        refine ih (i + 1) _ (by omega) ?_
        rw [hs, List.filter_append, List.filter_cons, hp]
        exact strs_snoc hy
      | false =>
        rw [if_neg (by decide)] at hq ⊢
        obtain ⟨h', tk', nw, e, F', N', off', hS, hp, hn⟩ := hq
        rw [hn] at N' off' hS
        refine ⟨h', tk', news, e, F', N', off', hS, ?_⟩
        refine ih (i + 1) _ (by omega) ?_
        rw [hs, List.filter_append, List.filter_cons, hp]
        simpa using hy
  rw [List.size_toArray]
  exact key vs.length 0 [] (by omega) (by simp only [List.take_zero, List.filter_nil]; exact .nil)
theorem wt_filter (xs : List Str) (p : Str → Bool) : wt (xs.filter p) ≤ wt xs := by
  induction xs with
  | nil => exact Nat.le_refl _
  | cons y r ih =>
    rw [List.filter_cons, wt_cons]
    split
    · rw [wt_cons]; omega
    · omega
theorem src_filt {Fin : Shared → List Value → List (Addr × Obj) → Prop} {ax : Addr} {k : Nat} {s₁ : Shared} {us : List Value} {xs : List Str}
    (hh : A.handled = none) (F : Fr h₀ L s₁.heap m) (N : News h₀ L s₁.heap news) (hm : (ax, listOf us.toArray k) ∈ news) (hx : StrsAre us xs) (hw : wt xs ≤ 1000)
    (turn : ∀ g (y : Str) (t : Tok) I oI C oC D m₂ ys h tk (E' : Value → Shared → Prop), y.length ≤ 1000 → LCg.SrcAt h₀ ax us.toArray news → LCg.NsObj oC m₂ → m₂ x = some (.str y t) → Fr h₀ L h m → News h₀ L h ((I, oI) :: (C, oC) :: (D, LCg.lst ys) :: news) → LCg.Off3 I C D news → ((@Ne Nat I C) ∧ (@Ne Nat I D) ∧ (@Ne Nat C D)) →
      wpAny (model prog w) A (isTrue ct (compEnvC scope cl C env) (eval ct (compEnvC scope cl C env))) (fun ok s' => if ok = true then
        wpAny (model prog w) A (eval elt (compEnvC scope cl C env)) (LCg.CompEnd h₀ L m { ({ s₁ with heap := g } : Shared) with heap := h, toks := tk } I oI C oC D (LCg.lst ys) (LCg.SrcAt h₀ ax us.toArray) (fun v news' => FiltY news y v news')) E' s'
        else LCg.CompEnd h₀ L m { ({ s₁ with heap := g } : Shared) with heap := h, toks := tk } I oI C oC D (LCg.lst ys) (LCg.SrcAt h₀ ax us.toArray) (fun _ news' => FiltN news y news') Value.none s') E' { ({ s₁ with heap := g } : Shared) with heap := h, toks := tk })
    (fin : ∀ g ys, StrsAre ys (xs.filter named) → wt (xs.filter named) ≤ 1000 → Fin { s₁ with heap := g } ys news) :
    LCt.CompSrcT prog w A h₀ L m env ct elt x scope cl Fin (.ref ax) s₁ := by
  have h1 := strs_len hx
  have h2 := wt_len xs
  refine LCt.CompSrcT.ledger hh F N hm (by rw [sizeLine_eq, List.size_toArray]; omega) fun g => ?_
  exact comp_filt hx (fun y t I oI C oC D m₂ ys h tk E' hy hC => turn g y t I oI C oC D m₂ ys h tk E' (by have := wt_mem hy; omega) (.inr ⟨_, hm, rfl, _, rfl⟩) hC) fun ys h => fin g ys h (Nat.le_trans (wt_filter xs named) hw)
end
section
variable {prog : Program} {w : World} {A : Around} {h₀ : Heap} {L : Addr} {m : Str → Option Value} {env : Env} {ct elt : Expr} {x : Str} {scope : Scope} {cl : List (Str × Addr)} {s : Shared} {S : List (Addr × Obj) → Prop} {all : List (Addr × Obj)}
/-- the same, all other objects let go -/
theorem src_filt1 {Fin : Shared → List Value → List (Addr × Obj) → Prop} {ax : Addr} {k : Nat} {s₁ : Shared} {us : List Value} {xs : List Str}
    (hh : A.handled = none) (F : Fr h₀ L s₁.heap m) (N : News h₀ L s₁.heap all) (hm : (ax, listOf us.toArray k) ∈ all) (hx : StrsAre us xs) (hw : wt xs ≤ 1000)
    (turn : ∀ g (y : Str) (t : Tok) I oI C oC D m₂ ys h tk (E' : Value → Shared → Prop), y.length ≤ 1000 → LCg.SrcAt h₀ ax us.toArray [(ax, listOf us.toArray k)] → LCg.NsObj oC m₂ → m₂ x = some (.str y t) → Fr h₀ L h m → News h₀ L h [(I, oI), (C, oC), (D, LCg.lst ys), (ax, listOf us.toArray k)] → LCg.Off3 I C D [(ax, listOf us.toArray k)] → ((@Ne Nat I C) ∧ (@Ne Nat I D) ∧ (@Ne Nat C D)) →
      wpAny (model prog w) A (isTrue ct (compEnvC scope cl C env) (eval ct (compEnvC scope cl C env))) (fun ok s' => if ok = true then
        wpAny (model prog w) A (eval elt (compEnvC scope cl C env)) (LCg.CompEnd h₀ L m { ({ s₁ with heap := g } : Shared) with heap := h, toks := tk } I oI C oC D (LCg.lst ys) (LCg.SrcAt h₀ ax us.toArray) (fun v news' => FiltY [(ax, listOf us.toArray k)] y v news')) E' s'
        else LCg.CompEnd h₀ L m { ({ s₁ with heap := g } : Shared) with heap := h, toks := tk } I oI C oC D (LCg.lst ys) (LCg.SrcAt h₀ ax us.toArray) (fun _ news' => FiltN [(ax, listOf us.toArray k)] y news') Value.none s') E' { ({ s₁ with heap := g } : Shared) with heap := h, toks := tk })
    (fin : ∀ g ys, StrsAre ys (xs.filter named) → wt (xs.filter named) ≤ 1000 → Fin { s₁ with heap := g } ys [(ax, listOf us.toArray k)]) :
    LCt.CompSrcT prog w A h₀ L m env ct elt x scope cl Fin (.ref ax) s₁ :=
  src_filt hh F (news := [(ax, listOf us.toArray k)]) (fun p hp => N p (by rw [List.mem_singleton.mp hp]; exact hm)) (.head _) hx hw turn fin
end
section
variable {h₀ h' : Heap} {L I C D : Addr} {m : Str → Option Value} {s₁ : Shared} {oI oC oD : Obj} {S : List (Addr × Obj) → Prop} {tk : Nat} {news : List (Addr × Obj)} {p : Addr × Obj} {y : Str} {t : Tok}
theorem any_named {b : Bool} (h : ([Str.ofString "..", Str.ofString "."].any fun x => x == y) = b) : named y = !b := by
  rw [← h]
  unfold named
  simp only [List.any_cons, List.any_nil, Bool.or_false]
  rw [Bool.beq_comm (a := y), Bool.beq_comm (a := y)]
theorem filt_y (hn : named y = true) (F : Fr h₀ L h' m) (N : News h₀ L h' (p :: (I, oI) :: (C, oC) :: (D, oD) :: news)) (off : LCg.Off3 I C D news) (hS : S news) :
    LCg.CompEnd h₀ L m s₁ I oI C oC D oD S (fun v news' => FiltY news y v news') (.str y t) { s₁ with heap := h', toks := tk } :=
  ⟨h', tk, news, rfl, F, fun q hq => N q (.tail _ hq), off, hS, hn, rfl, t, rfl⟩
theorem filt_n (hn : named y = false) (F : Fr h₀ L h' m) (N : News h₀ L h' (p :: (I, oI) :: (C, oC) :: (D, oD) :: news)) (off : LCg.Off3 I C D news) (hS : S news) :
    LCg.CompEnd h₀ L m s₁ I oI C oC D oD S (fun _ news' => FiltN news y news') Value.none { s₁ with heap := h', toks := tk } :=
  ⟨h', tk, news, rfl, F, fun q hq => N q (.tail _ hq), off, hS, hn, rfl⟩
end
theorem new_two {prog : Program} {w : World} {A : Around} {E : Value → Shared → Prop} {s : Shared} {h₀ : Heap} {L : Addr} {m : Str → Option Value} {news : List (Addr × Obj)} {a b : Value} {Q : Value → Shared → Prop} (F : Fr h₀ L s.heap m) (N : News h₀ L s.heap news)
    (h : ∀ l h', Fr h₀ L h' m → News h₀ L h' ((l, listOf #[a, b] 0) :: news) → (∀ p ∈ news, p.1 < l) → Q (.ref l) { s with heap := h' }) : wpAny (model prog w) A (newList [a, b]) Q E s :=
  newList_K F N h (by rw [sizeLine_eq]; simp)
end Mine
end
section
open PySem PySem.W PySem.Calls PyProof.Rows
set_option maxRecDepth 100000
namespace Mine
set_option maxHeartbeats 8000000 in
theorem law_all : PySem.Challenge.rw_ny0061_01.Holds := by
  w_top off
  k_with_none
  (k_with "eval BoolOp" => (
      k_here
      (fail_if_success (with_reducible show wpAny _ _ _ (DrawnPost _ _ _ _ _ _) _ _))
      (with_reducible show wpAny _ _ (eval (Expr.BoolOp BoolOp.Or [Expr.Subscript (Expr.Name _ _) _ _, Expr.List _ _] _) _) _ _ _)
      k_dflt (refine' cut_drawn ?k1 ?k2 ?k3 ?k4 ?_ ?_; (case k1 => k_asm); (case k2 => k_asm); (case k3 => with_reducible assumption); (case k4 => with_reducible assumption))))
  (k_with "DrawnPost" => (
      k_here
      first
        | exact drawn_e1 (by k_asm) (by k_asm) (by with_reducible assumption) (by with_reducible assumption)
        | exact drawn_e2 (by k_asm) (by k_asm) (by with_reducible assumption)))
  (k_with "eval BinOp" => (
      k_here
      (fail_if_success (with_reducible show wpAny _ _ _ (EndPost2 _ _ _ _ _) _ _))
      (with_reducible show wpAny _ _ (eval (Expr.BinOp (Expr.Constant _ _ _) Operator.Add (Expr.Subscript (Expr.List _ _) _ _) _) _) _ _ _)
      k_dflt (refine' cut_end2 ?k1 ?k2 ?_ ?_; (case k1 => k_asm); (case k2 => k_asm))))
  (k_with "eval ListComp" => (
      k_here
      (with_reducible show wpAny _ _ (eval (Expr.ListComp _ [⟨_, _, [], _⟩] _ _) _) _ _ _)
      k_dflt (refine LCg.ListComp_U (F₀ := by k_asm) (by rfl) (by decide) (by rfl) (by decide) (by rfl) ?_)
      k_dflt lcg_toSrc))
  (k_with "CompSrc" => (
      k_here
      k_dflt (refine' src_pf ?k1 ?k2 ?k3 ?k4 ?k5 ?k6 ?_ ?_; (case k1 => exact rfl); (case k2 => k_asm); (case k3 => k_asm); (case k4 => k_mem); (case k5 => with_reducible assumption); (case k6 => omega))))
  (k_with "CompEnd" => (
      k_here
      k_dflt (exact dq_end (by with_reducible assumption) (by with_reducible assumption) (by with_reducible assumption) (by with_reducible assumption))))
  (k_with "call ref" => (
      k_here
      (with_reducible show wpAny _ _ (call (Value.ref 147) [Value.int _ _]) _ _ _)
      k_dflt (refine' Cl.useS (piece_ok _ _) ?k1 ?k2 ?k3 ?k4 ?k5 ?k6 ?k7 ?k8 ?k9 ?_; (case k1 => k_asm); (case k2 => k_asm); (case k3 => k_asm); (case k4 => k_asm); (case k5 => k_asm); (case k6 => first | exact rfl | with_reducible assumption); (case k7 => trivial); (case k8 => ktr_room); (case k9 => ktr_units); k_whole)
      intro t9 h9 tk9 F9 N9
      (try dsimp only)
      (try k_fold)))
  (k_with "call builtin:str.join" => (
      k_here
      (with_reducible show wpAny _ _ (call (Value.builtin "str.join") [Value.str _ _, Value.ref _]) _ _ _)
      k_dflt (refine' join_T2 ?k1 ?k2 ?k3 ?k4 ?_; (case k1 => k_asm); (case k2 => k_mem); (case k3 => with_reducible assumption); (case k4 => omega))
      intro t' k' a'))
  (k_with "binaryOp Add str str" => (
      k_here
      (with_reducible show wpAny _ _ (binaryOp Operator.Add (Value.str _ _) (Value.str _ _)) _ _ _)
      (refine add_T (by first | omega | (have h5 := len_257q; omega)) ?_)
      intro t' k' a'))
  (k_with "binaryOp Add str str" => (
      k_here
      (with_reducible show wpAny _ _ (binaryOp Operator.Add (Value.str (Txt.mul _ _) _) (Value.str _ _)) _ _ _)
      (refine add_path2 (by with_reducible assumption) (by with_reducible assumption) ?_)
      intro P' t' k' a' b' c'))
  (k_with "call ref" => (
      k_here
      (with_reducible show wpAny _ _ (call (Value.ref 154) [Value.str _ _]) _ _ _)
      k_dflt (refine' doubled_use ?k1 ?k2 ?k3 ?k4 ?k5 ?k6 ?k7 ?k8 ?k9 ?_; (case k1 => k_asm); (case k2 => k_asm); (case k3 => k_asm); (case k4 => k_asm); (case k5 => k_asm); (case k6 => first | exact rfl | with_reducible assumption); (case k7 => omega); (case k8 => ktr_room); (case k9 => ktr_units); k_whole)
      intro t9 h9 tk9 a9 F9 N9
      (try dsimp only)
      (try k_fold)))
  (k_with "call ref" => (
      k_here
      (with_reducible show wpAny _ _ (call (Value.ref 161) [Value.str (_ ++ _ ++ _) _]) _ _ _)
      k_dflt (refine' read_told ?k7 ?k8 ?k9 ?k1 ?k2 ?k3 ?k4 ?k5 ?k6 ?_; (case k1 => k_asm); (case k2 => k_asm); (case k3 => k_asm); (case k4 => k_asm); (case k5 => k_asm); (case k6 => first | exact rfl | with_reducible assumption); (case k7 => with_reducible assumption); (case k8 => with_reducible assumption); (case k9 => with_reducible assumption); k_whole)
      intro l9 t9 u9 v9 h9 tk9 F9 N9
      (try dsimp only)
      (try k_fold)))
  (k_with "call builtin:str.split" => (
      k_here
      (with_reducible show wpAny _ _ (call (Value.builtin "str.split") [Value.str _ _, Value.str _ _]) _ _ _)
      (refine split_W (by k_asm) (by k_asm) rfl (by first | omega | exact plain_len (by with_reducible assumption)) ?_)
      intro D' vs' h' k' a' b' F' N' l1
      (try k_lt l1)))
  (k_with "subscriptTail" => (
      k_here
      (with_reducible show wpAny _ _ (subscriptTail _ (PySem.Expr.Slice _ _ none _) (Value.ref _) (Value.ref _)) _ _ _)
      k_dflt (refine' tup_cut (s := ⟨_, _, _, _, _⟩) ?k1 ?k2 ?k3 ?_ ?k4; (case k1 => k_asm); (case k2 => k_asm); (case k3 => k_mem); (case k4 => with_unfolding_all rfl))
      intro D' h' F' N' l1
      (try k_lt l1)))
  (k_with "subscriptTail" => (
      k_here
      (with_reducible show wpAny _ _ (subscriptTail _ (PySem.Expr.Slice _ _ none _) (Value.ref _) (Value.ref _)) _ _ _)
      k_dflt (refine' slice_T (s := ⟨_, _, _, _, _⟩) ?k1 ?k2 ?k3 ?k4 ?k5 ?k6 ?k7 ?k8 ?_ ?k9; (case k1 => k_asm); (case k2 => k_asm); (case k3 => is_list); (case k4 => kmk_part); (case k5 => kmk_part); (case k6 => with_reducible assumption); (case k7 => with_reducible assumption); (case k8 => first | exact pick_a _ | exact pick_b _ | exact pick_c _ | exact pick_d _); (case k9 => with_unfolding_all rfl))
      intro D' ws' h' a' b' F' N' l1
      (try k_lt l1)))
  (k_with "subscriptTail Name Slice ref ref" => (
      k_here
      (with_reducible show wpAny _ _ (subscriptTail _ (PySem.Expr.Slice _ _ none _) (Value.ref _) (Value.ref _)) _ _ _)
      k_dflt (refine' slice_T (s := ⟨_, _, _, _, _⟩) ?k1 ?k2 ?k3 ?k4 ?k5 ?k6 ?k7 ?k8 ?_ ?k9; (case k1 => k_asm); (case k2 => k_asm); (case k3 => is_list); (case k4 => kmk_part); (case k5 => kmk_part); (case k6 => with_reducible assumption); (case k7 => with_reducible assumption); (case k8 => first | exact pick_a _ | exact pick_b _ | exact pick_c _ | exact pick_d _); (case k9 => with_unfolding_all rfl))
      intro D' ws' h' a' b' F' N' l1
      (try k_lt l1)))
  (k_with "call ref" => (
      k_here
      (with_reducible show wpAny _ _ (call (Value.ref 140) [Value.str _ _]) _ _ _)
      k_dflt (refine' norm_use ?k7 ?k1 ?k2 ?k3 ?k4 ?k5 ?k6 ?k8 ?k9 ?_; (case k1 => k_asm); (case k2 => k_asm); (case k3 => k_asm); (case k4 => k_asm); (case k5 => k_asm); (case k6 => first | exact rfl | with_reducible assumption); (case k7 => first | omega | (have h5 := len_257q; omega)); (case k8 => ktr_room); (case k9 => ktr_units); k_whole)
      intro t9 h9 tk9 a9 F9 N9
      (try dsimp only)
      (try k_fold)))
  (k_with "EndPost2" => (
      k_here
      first | exact end_e2 endq0 (by k_asm) (by k_asm) | exact end_e2 endq1 (by k_asm) (by k_asm) | exact end_e2 endq2 (by k_asm) (by k_asm) | exact end_e2 endq3 (by k_asm) (by k_asm)))
  (k_with "call ref" => (
      k_here
      (with_reducible show wpAny _ _ (call (Value.ref 166) [Value.ref _, Value.ref _, Value.ref _, Value.str _ _]) _ _ _)
      k_dflt (refine' due_use ?a1 ?a2 ?a3 ?a4 ?a5 ?a6 ?a7 ?b1 ?b2 ?b3 ?k1 ?k2 ?k3 ?k4 ?k5 ?k6 ?k8 ?k9 ?_; (case b1 => is_list); (case b2 => is_list); (case b3 => is_list); (case a1 => first | exact StrsAre.nil | with_reducible assumption); (case a2 => first | exact StrsAre.nil | with_reducible assumption); (case a3 => first | exact StrsAre.nil | with_reducible assumption); (case a4 => first | with_reducible assumption | exact Nat.zero_le _); (case a5 => first | with_reducible assumption | exact Nat.zero_le _); (case a6 => first | with_reducible assumption | exact Nat.zero_le _); (case a7 => first | omega | exact Nat.zero_le _); (case k1 => k_asm); (case k2 => k_asm); (case k3 => k_asm); (case k4 => k_asm); (case k5 => k_asm); (case k6 => first | exact rfl | with_reducible assumption); (case k8 => ktr_room); (case k9 => ktr_units); k_whole)
      intro l9 t9 u9 v9 h9 tk9 F9 N9
      (try dsimp only)
      (try k_fold)))
  (k_with "call ref" => (
      k_here
      (with_reducible show wpAny _ _ (call (Value.ref 161) [Value.str (norm (_ ++ _ ++ _)) _]) _ _ _)
      k_dflt (refine' read_whole ?k7 ?k8 ?k9 ?kA ?k1 ?k2 ?k3 ?k4 ?k5 ?k6 ?_; (case k1 => k_asm); (case k2 => k_asm); (case k3 => k_asm); (case k4 => k_asm); (case k5 => k_asm); (case k6 => first | exact rfl | with_reducible assumption); (case k7 => with_reducible assumption); (case k8 => with_reducible assumption); (case k9 => with_reducible assumption); (case kA => with_reducible assumption); k_whole)
      intro l9 t9 u9 v9 h9 tk9 F9 N9
      (try dsimp only)
      (try k_fold)))
  (k_with "call ref" => (
      k_here
      (with_reducible show wpAny _ _ (call (Value.ref 161) [Value.str (norm (_ ++ dq _)) _]) _ _ _)
      k_dflt (refine' read_begun ?k7 ?k1 ?k2 ?k3 ?k4 ?k5 ?k6 ?_; (case k1 => k_asm); (case k2 => k_asm); (case k3 => k_asm); (case k4 => k_asm); (case k5 => k_asm); (case k6 => first | exact rfl | with_reducible assumption); (case k7 => with_reducible assumption); k_whole)
      intro l9 t9 u9 v9 h9 tk9 F9 N9
      (try dsimp only)
      (try k_fold)))
  (k_with "compareOp NotEq ref ref" => (
      k_here
      (with_reducible show wpAny _ _ (compareOp CmpOp.NotEq (Value.ref _) (Value.ref _)) _ _ _)
      k_dflt (refine' cmp_pair ?k1 ?k2 ?k3 ?k4 ?k5 ?k6 ?_; (case k1 => k_asm); (case k2 => k_mem); (case k3 => k_mem); (case k4 => exact sane_told); (case k5 => with_reducible assumption); (case k6 => ke_room))))
  (k_with "compareOp NotEq ref ref" => (
      k_here
      (with_reducible show wpAny _ _ (compareOp CmpOp.NotEq (Value.ref _) (Value.ref _)) _ _ _)
      k_dflt (refine' cmp_lists (D := wholeD _ _) (D' := begunD _) ?k1 ?k2 ?k3 ?k4 ?k5 ?k6 ?k7 ?k8 ?k9 ?kA ?_; (case k1 => k_asm); (case k2 => k_mem); (case k3 => k_mem); (case k4 => k_mem); (case k5 => k_mem); (case k6 => k_mem); (case k7 => k_mem); (case k8 => exact saneT_whole (by with_reducible assumption) (by with_reducible assumption)); (case k9 => exact saneT_begun (by with_reducible assumption)); (case kA => ke_room))))
  (k_with "subscriptTail" => (
      k_here
      (with_reducible show wpAny _ _ (subscriptTail (PySem.Expr.Call _ _ _ _) _ (Value.ref _) (Value.int 0 _)) _ _ _)
      k_dflt (refine' tup_first ?k1 ?k2 ?_ ?k3; (case k1 => k_asm); (case k2 => k_mem); (case k3 => with_unfolding_all rfl))))
  (k_with "subscriptTail" => (
      k_here
      (with_reducible show wpAny _ _ (subscriptTail (PySem.Expr.Name _ _) _ (Value.ref _) (Value.int 0 _)) _ _ _)
      k_dflt (refine' first_T ?k1 ?k2 ?k3 ?_ ?k4; (case k1 => is_list); (case k2 => with_reducible assumption); (case k3 => with_reducible assumption); (case k4 => with_unfolding_all rfl))
      intro t'))
  (k_with "compareOp Eq str str" => (
      k_here
      (with_reducible show wpAny _ _ (compareOp CmpOp.Eq (Value.str (dq _) _) (Value.str _ _)) _ _ _)
      (refine eq_T (by first | exact plain_P (by with_reducible assumption) | exact root_P (by with_reducible assumption) (by with_reducible assumption)) ?_)))
  (k_with "eval IfExp" => (
      k_here
      (fail_if_success (with_reducible show wpAny _ _ _ (RootPost _ _ _ _ _ _) _ _))
      (with_reducible show wpAny _ _ (eval (Expr.IfExp (Expr.BoolOp _ _ _) (Expr.Constant _ _ _) (Expr.Constant _ _ _) _) _) _ _ _)
      k_dflt (refine' cut_root ?k0 ?k1 ?k2 ?_ ?_; (case k0 => with_reducible assumption); (case k1 => k_asm); (case k2 => k_asm))))
  (k_with "RootPost" => (
      k_here
      first | exact root_e (rs_a (by with_reducible assumption) (by with_reducible assumption)) (by k_asm) (by k_asm) | exact root_e (rs_b (by with_reducible assumption) (by with_reducible assumption)) (by k_asm) (by k_asm) | exact root_e (rs_c (by with_reducible assumption)) (by k_asm) (by k_asm)))
  (k_with "eval ListComp" => (
      k_here
      (with_reducible show wpAny _ _ (eval (Expr.ListComp _ [⟨_, _, [_], _⟩] _ _) _) _ _ _)
      k_dflt (refine LCt.ListComp_T (F₀ := by k_asm) (by with_unfolding_all rfl) (by decide) (by rfl) (by decide) (by rfl) ?_)
      k_dflt lct_toSrc))
  (k_with "CompSrcT" => (
      k_here
      k_dflt (refine' src_filt1 ?k1 ?k2 ?k3 ?k4 ?k5 ?k6 ?_ ?_; (case k1 => exact rfl); (case k2 => k_asm); (case k3 => k_asm); (case k4 => k_mem); (case k5 => with_reducible assumption); (case k6 => with_reducible assumption))))
  (k_with "CompEnd" => (
      k_here
      first
        | (k_dflt (exact filt_y (any_named (b := false) (by with_reducible assumption)) (by with_reducible assumption) (by with_reducible assumption) (by with_reducible assumption) (by with_reducible assumption)))
        | (k_dflt (exact filt_n (any_named (b := true) (by with_reducible assumption)) (by with_reducible assumption) (by with_reducible assumption) (by with_reducible assumption) (by with_reducible assumption)))
        | (k_dflt (exact dq_end (by with_reducible assumption) (by with_reducible assumption) (by with_reducible assumption) (by with_reducible assumption)))))
  (k_with "newList" => (
      k_here
      (with_reducible show wpAny _ _ (newList [Value.str _ _, Value.str _ _]) _ _ _)
      k_dflt (refine' new_two ?k1 ?k2 ?_; (case k1 => with_reducible assumption); (case k2 => with_reducible assumption); k_whole)
      intro l' h' F' N' l1
      (try k_lt l1)))
  refine hd ?_
  k_go0
  all_goals try k_fold
  k_steps
end Mine
end
theorem PySem.Challenge.cw_ny0061_01_holds : PySem.Challenge.rw_ny0061_01.Holds := by
  exact Mine.law_all
