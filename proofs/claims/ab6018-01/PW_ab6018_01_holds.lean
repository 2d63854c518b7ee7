import PyProof.Rows.All
import Wide.All
import OpenK.AllK
import Wide.FinOn
import Lean
import PySem.Challenge.RW_ab6018_01
open PySem PySem.W PyProof.Rows PySem.Calls
set_option Elab.async false
set_option maxRecDepth 100000
set_option maxHeartbeats 8000000
namespace Mine
open_top hd for PySem.Challenge.rw_ab6018_01
abbrev Led := List (Addr × Obj)
def st (x : List Nat) : Str := ⟨x.toArray⟩
def bs (x : List Nat) : Array UInt8 := (x.map Nat.toUInt8).toArray
def T (o : Bool) (x : List Nat) (t : Tok) : Value := match o with | true => .bytes (bs x) t | false => .str (st x) t

theorem peek_push {α : Type} {K : Frag} {M : Model} {A : Around} {E : Value → Shared → Prop} {Q : α → Shared → Prop} {s : Shared} {o : Obj} {r : Addr → α} (X : K.In s.heap)
    (q : Q (r s.heap.objs.size) { s with heap := s.heap.push o }) :
    ∀ (t : Sem α) (g : Addr → Option α), peek1 K ⟨M.prog, M.w.params⟩ t = some (o, g) → (∀ D, g D = some (r D)) → wpAny M A t Q E s := by
  intro t
  induction t with
  | rule _ k ih => intro g e hg Γ p hΓ; exact ih () g e hg Γ p hΓ
  | point _ k ih => intro g e hg Γ p hΓ; exact ih () g e hg Γ p hΓ
  | ask k ih => intro g e hg Γ p hΓ; exact ih _ g e hg Γ p hΓ
  | load a _ k ih =>
    intro g e hg Γ p hΓ
    simp only [peek1] at e
    split at e
    · rename_i ob ho; exact ⟨ob, X _ _ ho, ih ob g e hg Γ p hΓ⟩
    · cases e
  | alloc ob k _ =>
    intro g e hg
    have e : some (ob, fun D => peek K ⟨M.prog, M.w.params⟩ (k D)) = some (o, g) := e
    obtain ⟨e1, e2⟩ := Prod.mk.inj (Option.some.inj e)
    subst e1
    subst e2
    have X' : K.In (s.heap.push ob) := X.keeps fun b x hb => Heap.get?_push_of_some _ hb
    show wpAny M A (alloc ob >>= k) Q E s
    refine wpAny_bind (wpAny_alloc ?_)
    exact (Looks.of_peek (M := M) (h := s.heap.push ob) X' (hg s.heap.objs.size)).here (s := { s with heap := s.heap.push ob }) q
  | _ => intro g e; cases e
section
variable {prog : Program} {w : World} {A A₀ : Around} {s : Shared} {K : Frag} {L : Addr} {h₀ base : Heap} {m mg mb : Str → Option Value} {p : Program} {loose : List Str} {mean : ExcName → Option Value}
/-- a def entered upon the heap as it stands: all that stands in it stays -/
theorem code_ground {env : Env} {outer : List Env} {R : Result → Shared → Prop} {name qual : Str} {params : Arguments} {body : List Stmt} {scope : Scope} {dV kV doc pm cdv ct oc : Value} {an od : Option Addr} {osl : Array (Option Value)} {f : Addr} {args : Args} {binds : List (Str × Value)}
    (B : Below A₀ base outer h₀) (F : Fr h₀ L s.heap m) (X₀ : K.In h₀) (T : Top p loose mean mg mb h₀) (hA : A.frames = some (env :: outer)) (hf : env.frame = some L) (hke : env.scope.kind = .function)
    (ho : K.lookup f = some ⟨oc, od, .func (fnOf name qual params body scope dV kV doc pm an cdv ct), osl⟩) (hcd : codeIn K cdv qual = true) (hroom : A.depth < recursionLimit)
    (hbind : BindsTo s (fnOf name qual params body scope dV kV doc pm an cdv ct) args binds) (hloc : ∀ y ∈ binds, scope.names.lookup y.1 = some .local)
    (h : ∀ L' h₁, Fr s.heap L' h₁ (fun y => binds.reverse.lookup y) → News s.heap L' h₁ [] → Below A base (env :: outer) s.heap → K.In s.heap → Top p loose mean mg mb s.heap →
      wpAny (model prog w) (A.deeper (envOf qual scope L' f cdv)) (execs body (envOf qual scope L' f cdv)) (fun fl s' => R (.ok (.ret (match fl with | .ret v => v | _ => .none))) s')
        (fun e s' => wpAny (model prog w) (A.deeper (envOf qual scope L' f cdv)) (leaving (envOf qual scope L' f cdv) e) (fun _ s'' => R (.error e) s'') (fun e' s'' => R (.error e') s'') s')
        { s with heap := h₁, toks := s.toks + binds.length })
    (hco : scope.isCoroutine = false) (hgen : scope.isGenerator = false) (hk : scope.kind = .function)
    (hcell : ∀ x ∈ scope.names, x.2 ≠ .cell) : codeAny (model prog w) A (.call (.ref f) args) R s := by
  have B₁ := pushX B F hf hke
  exact codeAny_call_def (fd := fnOf name qual params body scope dV kV doc pm an cdv ct) (body := body) (binds := binds) hroom ((X₀.keeps F.keep) _ _ ho) rfl (T.nolimit.keeps F.keep) (codeRec_of (X₀.keeps F.keep) hcd) rfl hbind hcell hloc
    (fun h₁ hns hk₁ => h s.heap.objs.size h₁ ⟨hns, hk₁, Nat.le_refl _⟩ News.nil ⟨hA, fun b o e => F.keep b o (B.stays b o e), B₁.frames⟩ (X₀.keeps F.keep) (T.keeps F.keep)) hco hgen hk

theorem rest_ground {env : Env} {outer : List Env} {R : Result → Shared → Prop} {name qual : Str} {params : Arguments} {body : List Stmt} {scope : Scope} {dV kV doc pm cdv ct oc : Value} {an od : Option Addr} {osl : Array (Option Value)} {f : Addr} {args : Args} {vs : List Value} {g₁ : Addr → Option (List (Str × Value))} {binds : Addr → List (Str × Value)}
    (B : Below A₀ base outer h₀) (F : Fr h₀ L s.heap m) (X₀ : K.In h₀) (T : Top p loose mean mg mb h₀) (hA : A.frames = some (env :: outer)) (hf : env.frame = some L) (hke : env.scope.kind = .function)
    (ho : K.lookup f = some ⟨oc, od, .func (fnOf name qual params body scope dV kV doc pm an cdv ct), osl⟩) (hcd : codeIn K cdv qual = true) (hroom : A.depth < recursionLimit)
    (hv : args.pos.drop (params.posonlyargs.length + params.args.length) = vs)
    (hp : peek1 K ⟨prog, w.params⟩ (bindArgs (fnOf name qual params body scope dV kV doc pm an cdv ct) args) = some (({ cls := .type "tuple", data := .seq vs.toArray } : Obj), g₁))
    (hg : ∀ D, g₁ D = some (binds D)) (hloc : ∀ D, ∀ y ∈ binds D, scope.names.lookup y.1 = some .local)
    (h : ∀ D L' h₁, Fr s.heap L' h₁ (fun y => (binds D).reverse.lookup y) → News s.heap L' h₁ [(D, ({ cls := .type "tuple", data := .seq vs.toArray } : Obj))] → Below A base (env :: outer) s.heap → K.In s.heap → Top p loose mean mg mb s.heap →
      wpAny (model prog w) (A.deeper (envOf qual scope L' f cdv)) (execs body (envOf qual scope L' f cdv)) (fun fl s' => R (.ok (.ret (match fl with | .ret v => v | _ => .none))) s')
        (fun e s' => wpAny (model prog w) (A.deeper (envOf qual scope L' f cdv)) (leaving (envOf qual scope L' f cdv) e) (fun _ s'' => R (.error e) s'') (fun e' s'' => R (.error e') s'') s')
        { s with heap := h₁, toks := s.toks + (binds D).length })
    (hco : scope.isCoroutine = false) (hgen : scope.isGenerator = false) (hk : scope.kind = .function)
    (hcell : ∀ x ∈ scope.names, x.2 ≠ .cell) : codeAny (model prog w) A (.call (.ref f) args) R s := by
  have _ := hv
  have B₁ := pushX B F hf hke
  refine codeAny_call_function (fd := fnOf name qual params body scope dV kV doc pm an cdv ct) (body := body) hroom ((X₀.keeps F.keep) _ _ ho) rfl hco hgen rfl (codeRec_of (X₀.keeps F.keep) hcd) ?_
  refine peek_push (X₀.keeps F.keep) (r := binds) ?_ _ g₁ hp hg
  have hnone : s.heap.get? s.heap.objs.size = none := by
    cases hq : s.heap.get? s.heap.objs.size with
    | none => rfl
    | some o' => exact absurd (Heap.lt_size hq) (Nat.lt_irrefl _)
  refine wpAny_newFunctionEnv hcell (hloc _) (fun h₁ hns hsb => ⟨((T.nolimit.keeps F.keep).keeps fun b o e => Heap.get?_push_of_some _ e).fresh _ hsb, codeAny_func ?_⟩) hk
  have hk₁ : ∀ b o, (s.heap.push { cls := .type "tuple", data := .seq vs.toArray }).get? b = some o → h₁.get? b = some o := fun b o e => hsb.extBut b o (Nat.ne_of_lt (Heap.lt_size e)) (Heap.get?_push_of_some _ e)
  have hk₂ : ∀ b o, s.heap.get? b = some o → h₁.get? b = some o := fun b o e => hk₁ b o (Heap.get?_push_of_some _ e)
  refine h s.heap.objs.size _ h₁ ⟨hns, hk₂, ?_⟩ ?_ ⟨hA, fun b o e => F.keep b o (B.stays b o e), B₁.frames⟩ (X₀.keeps F.keep) (T.keeps F.keep)
  · show s.heap.objs.size ≤ (s.heap.push _).objs.size
    rw [Heap.size_push]; exact Nat.le_succ _
  · intro p hp
    obtain rfl := List.mem_singleton.mp hp
    refine ⟨hk₁ _ _ (Heap.get?_push_size _ rfl), ?_, hnone⟩
    show s.heap.objs.size ≠ (s.heap.push _).objs.size
    rw [Heap.size_push]; exact Nat.ne_of_lt (Nat.lt_succ_self _)
end

/-- the contract of a def: called with vs it hands back a v, and all that stood stays -/
abbrev Con (w : World) (f : Addr) (d : Nat) (vs : List Value) (pre : Heap → Prop) (Out : Heap → Heap → Value → Prop) : Prop :=
  ∀ (mean : ExcName → Option Value) (mg mb : Str → Option Value) (dp un : Nat) (gd : Option (List Code)) (cn : Str) (cs : Scope) (a : Addr) (ccd : Value) (cl : List (Str × Addr)) (outer : List Env) (A₀ : Around) (base h₀ : Heap) (L : Addr) (m : Str → Option Value) (s : Shared) (Q E : Value → Shared → Prop),
    Below A₀ base outer h₀ → Fr h₀ L s.heap m → Frag.In (hd.heap_39 w.params) h₀ → Top hd.view_39 (looseW hd.view_39 []) mean mg mb h₀ → cs.kind = .function →
    dp + d < recursionLimit → un + 8 * d < cLine → pre s.heap →
    (∀ (v : Value) (h' : Heap) (tk' : Nat), Out s.heap h' v → (∀ b o, s.heap.get? b = some o → h'.get? b = some o) → Q v { s with heap := h', toks := tk' }) →
    wpAny (model PySem.Challenge.rw_ab6018_01.row.prog w) (ktrTop dp un gd cn cs L a ccd cl outer) (call (.ref f) vs) Q E s

theorem Con.use {w : World} {mean : ExcName → Option Value} {mg mb : Str → Option Value} {f : Addr} {d : Nat} {vs : List Value} {pre : Heap → Prop} {Out : Heap → Heap → Value → Prop} (C : Con w f d vs pre Out)
    {dp un : Nat} {gd : Option (List Code)} {cn : Str} {cs : Scope} {a : Addr} {ccd : Value} {cl : List (Str × Addr)} {outer : List Env} {A₀ : Around} {base h₀ : Heap} {L : Addr} {m : Str → Option Value} {news : Led} {s : Shared} {Q E : Value → Shared → Prop}
    (B : Below A₀ base outer h₀) (F : Fr h₀ L s.heap m) (X : Frag.In (hd.heap_39 w.params) h₀) (N : News h₀ L s.heap news) (T : Top hd.view_39 (looseW hd.view_39 []) mean mg mb h₀) (hk : cs.kind = .function)
    (hd : dp + d < recursionLimit) (hu : un + 8 * d < cLine) (hp : pre s.heap)
    (ret : ∀ (v : Value) (h' : Heap) (tk' : Nat), Out s.heap h' v → (∀ b o, s.heap.get? b = some o → h'.get? b = some o) → Fr h₀ L h' m → News h₀ L h' news → Q v { s with heap := h', toks := tk' }) :
    wpAny (model PySem.Challenge.rw_ab6018_01.row.prog w) (ktrTop dp un gd cn cs L a ccd cl outer) (call (.ref f) vs) Q E s :=
  C _ _ _ _ _ _ _ _ _ _ _ _ _ _ _ _ _ _ _ _ B F X T hk hd hu hp fun v h' tk' hO hk => ret v h' tk' hO hk (F.keptAll hk) (N.grown hk)

/-- hands back a text -/
def isT (o : Bool) (x : List Nat) (_ _ : Heap) (v : Value) : Prop := ∃ t, v = T o x t
theorem Con.useT {w : World} {mean : ExcName → Option Value} {mg mb : Str → Option Value} {f : Addr} {d : Nat} {vs : List Value} {pre : Heap → Prop} {o : Bool} {x : List Nat} (C : Con w f d vs pre (isT o x))
    {dp un : Nat} {gd : Option (List Code)} {cn : Str} {cs : Scope} {a : Addr} {ccd : Value} {cl : List (Str × Addr)} {outer : List Env} {A₀ : Around} {base h₀ : Heap} {L : Addr} {m : Str → Option Value} {news : Led} {s : Shared} {Q E : Value → Shared → Prop}
    (B : Below A₀ base outer h₀) (F : Fr h₀ L s.heap m) (X : Frag.In (hd.heap_39 w.params) h₀) (N : News h₀ L s.heap news) (T' : Top hd.view_39 (looseW hd.view_39 []) mean mg mb h₀) (hk : cs.kind = .function)
    (hd : dp + d < recursionLimit) (hu : un + 8 * d < cLine) (hp : pre s.heap)
    (ret : ∀ (t : Tok) (h' : Heap) (tk' : Nat), Fr h₀ L h' m → News h₀ L h' news → Q (T o x t) { s with heap := h', toks := tk' }) :
    wpAny (model PySem.Challenge.rw_ab6018_01.row.prog w) (ktrTop dp un gd cn cs L a ccd cl outer) (call (.ref f) vs) Q E s :=
  C.use B F X N T' hk hd hu hp fun v h' tk' hO _ F' N' => by
    obtain ⟨t, rfl⟩ := hO
    exact ret t h' tk' F' N'
theorem isT_s {x y : List Nat} {t : Tok} {h h' : Heap} (e : x = y) : isT false y h h' (.str (st x) t) := ⟨t, by subst e; rfl⟩
theorem isT_b {x y : List Nat} {t : Tok} {h h' : Heap} (e : x = y) : isT true y h h' (.bytes (bs x) t) := ⟨t, by subst e; rfl⟩
abbrev tup (vs : List Value) : Obj := { cls := .type "tuple", data := .seq vs.toArray }
/-- hands back a new tuple of three texts -/
def isTup3 (o : Bool) (x y z : List Nat) (h h' : Heap) (v : Value) : Prop := ∃ a t1 t2 t3, v = .ref a ∧ h'.get? a = some (tup [T o x t1, T o y t2, T o z t3]) ∧ h.get? a = none
theorem fresh_ne {h₀ h : Heap} {L a : Addr} {m : Str → Option Value} (F : Fr h₀ L h m) (ha : h.get? a = none) : a ≠ L ∧ h₀.get? a = none := by
  obtain ⟨oL, _, _, hL, _⟩ := F.ns
  refine ⟨fun e => ?_, ?_⟩
  · rw [e, hL] at ha; cases ha
  · cases hq : h₀.get? a with
    | none => rfl
    | some o => rw [F.keep _ _ hq] at ha; cases ha
theorem news_cons {h₀ h h' : Heap} {L a : Addr} {m : Str → Option Value} {o : Obj} {news : Led} (F : Fr h₀ L h m) (N : News h₀ L h' news) (ha : h.get? a = none) (ho : h'.get? a = some o) : News h₀ L h' ((a, o) :: news) := by
  intro p hp
  rcases List.mem_cons.mp hp with rfl | hp
  · exact ⟨ho, fresh_ne F ha⟩
  · exact N p hp
theorem Con.useTup3 {w : World} {mean : ExcName → Option Value} {mg mb : Str → Option Value} {f : Addr} {d : Nat} {vs : List Value} {pre : Heap → Prop} {o : Bool} {x y z : List Nat} (C : Con w f d vs pre (isTup3 o x y z))
    {dp un : Nat} {gd : Option (List Code)} {cn : Str} {cs : Scope} {a : Addr} {ccd : Value} {cl : List (Str × Addr)} {outer : List Env} {A₀ : Around} {base h₀ : Heap} {L : Addr} {m : Str → Option Value} {news : Led} {s : Shared} {Q E : Value → Shared → Prop}
    (B : Below A₀ base outer h₀) (F : Fr h₀ L s.heap m) (X : Frag.In (hd.heap_39 w.params) h₀) (N : News h₀ L s.heap news) (T' : Top hd.view_39 (looseW hd.view_39 []) mean mg mb h₀) (hk : cs.kind = .function)
    (hd : dp + d < recursionLimit) (hu : un + 8 * d < cLine) (hp : pre s.heap)
    (ret : ∀ (a : Addr) (t1 t2 t3 : Tok) (h' : Heap) (tk' : Nat), Fr h₀ L h' m → News h₀ L h' ((a, tup [T o x t1, T o y t2, T o z t3]) :: news) → Q (.ref a) { s with heap := h', toks := tk' }) :
    wpAny (model PySem.Challenge.rw_ab6018_01.row.prog w) (ktrTop dp un gd cn cs L a ccd cl outer) (call (.ref f) vs) Q E s :=
  C.use B F X N T' hk hd hu hp fun v h' tk' hO _ F' N' => by
    obtain ⟨a, t1, t2, t3, rfl, ho, hn⟩ := hO
    exact ret a t1 t2 t3 h' tk' F' (news_cons F N' hn ho)
theorem isTup3_of {o : Bool} {x y z : List Nat} {t1 t2 t3 : Tok} {h₀ h' : Heap} {L a : Addr} {news : Led} {obj : Obj} (N : News h₀ L h' news) (hm : (a, obj) ∈ news) (e : obj = tup [T o x t1, T o y t2, T o z t3]) : isTup3 o x y z h₀ h' (.ref a) :=
  ⟨a, t1, t2, t3, rfl, e ▸ (N _ hm).1, (N _ hm).2.2⟩
theorem isTup3_eq {o : Bool} {x y z y' z' : List Nat} {h h' : Heap} {v : Value} (e1 : y = y') (e2 : z = z') (H : isTup3 o x y z h h' v) : isTup3 o x y' z' h h' v := by subst e1 e2; exact H
section
variable {prog : Program} {w : World} {A : Around} {E : Value → Shared → Prop} {s : Shared}
theorem meta_str : (Value.type ((Manifest.find? "str").elim "type" (·.metatype)) == Value.type "type") = true := by decide +kernel
theorem meta_bytes : (Value.type ((Manifest.find? "bytes").elim "type" (·.metatype)) == Value.type "type") = true := by decide +kernel
theorem sub_ss : isSubtype (.type "str") (.type "str") = pure true := by rw [isSubtype_type]; kernel_rfl
theorem sub_sb : isSubtype (.type "str") (.type "bytes") = pure false := by rw [isSubtype_type]; kernel_rfl
theorem sub_bs : isSubtype (.type "bytes") (.type "str") = pure false := by rw [isSubtype_type]; kernel_rfl
theorem sub_bb : isSubtype (.type "bytes") (.type "bytes") = pure true := by rw [isSubtype_type]; kernel_rfl
theorem kind_issubn : builtinKind "issubclass.nested" = none := by decide +kernel
theorem plain_issubn : plainId "issubclass.nested" = true := by decide +kernel
theorem args_issubn_3 (a b c : Value) : argsOk "issubclass.nested" ⟨[a, b, c], []⟩ := by unfold argsOk; kernel_rfl

theorem issubn {X Y : String} {b : Bool} {k : Value} {dep : Int} {tk : Tok} {Q : Fin → Shared → Prop} (hk : k = .int dep tk)
    (_hX : (Value.type ((Manifest.find? X).elim "type" (·.metatype)) == Value.type "type") = true) (hY : (Value.type ((Manifest.find? Y).elim "type" (·.metatype)) == Value.type "type") = true)
    (hself : isSubtype (.type X) (.type Y) = pure b) (hq : Q (.done (.ret (.bool b))) s) :
    wpAny (model prog w) A (Builtin.«issubclass.nested» ⟨[.type X, .type Y, k], []⟩) Q E s := by
  subst hk
  repeat (any_goals (first | assumption | (rw [if_pos hY]) | (rw [hself]) | wp_step))

theorem issubn_call {X Y : String} {b : Bool} {dep : Int} {tk : Tok} {Q : Value → Shared → Prop}
    (hX : (Value.type ((Manifest.find? X).elim "type" (·.metatype)) == Value.type "type") = true) (hY : (Value.type ((Manifest.find? Y).elim "type" (·.metatype)) == Value.type "type") = true)
    (hself : isSubtype (.type X) (.type Y) = pure b) (hq : Q (.bool b) s) :
    wpAny (model prog w) A (call (.builtin "issubclass.nested") [.type X, .type Y, .int dep tk]) Q E s :=
  call_function_meets (S := fun _ R s' => R (.ok (.ret (.bool b))) s') kind_issubn plain_issubn F.entry_issubclass_nested (args_issubn_3 _ _ _) (fun _ _ _ _ _ hs => issubn rfl hX hY hself hs) hq

theorem issub_tuple {X : String} {tp : Addr} {b c : Bool} {Q : Value → Shared → Prop} (hX : (Value.type ((Manifest.find? X).elim "type" (·.metatype)) == Value.type "type") = true)
    (h1 : isSubtype (.type X) (.type "str") = pure b) (h2 : isSubtype (.type X) (.type "bytes") = pure c)
    (htp : s.heap.get? tp = some { cls := .type "tuple", data := .seq #[.type "str", .type "bytes"] }) (hq : Q (.bool (b || c)) s) :
    wpAny (model prog w) A (call (.builtin "issubclass") [.type X, .ref tp]) Q E s := by
  refine call_issubclass (S := fun _ R s' => s'.heap.get? tp = some { cls := .type "tuple", data := .seq #[.type "str", .type "bytes"] } ∧ R (.ok (.ret (.bool (b || c)))) s') (fun prog w A R s hs => ?_) ⟨htp, hq⟩
  obtain ⟨htp, hR⟩ := hs
  refine issubclass_outer ?_
  obtain ⟨h, g, d, t, os⟩ := s
  have hT2 : (⟨h, g, d, t, os⟩ : Shared).TypeIs (.ref tp) "tuple" := ⟨_, htp, rfl⟩
  have f1 := F.isi_sub_tuple
  cases b <;> cases c <;>
  repeat (any_goals (first | assumption | ((with_reducible show wpAny _ _ (call (Value.builtin "issubclass.nested") _) _ _ _); first | refine issubn_call hX meta_str h1 ?_ | refine issubn_call hX meta_bytes h2 ?_) | wp_step))
end
theorem const_s {M : Model} {A : Around} {E : Value → Shared → Prop} {s : Shared} {env : Env} {x : Str} {k pos} (y : List Nat) {Q : Value → Shared → Prop} (e : x = st y) (h : Q (.str (st y) s.toks) { s with toks := s.toks + 1 }) : wpAny M A (eval (.Constant (.str x) k pos) env) Q E s := by
  subst e; exact Constant_str h
theorem const_b {M : Model} {A : Around} {E : Value → Shared → Prop} {s : Shared} {env : Env} {x : List UInt8} {k pos} (y : List Nat) {Q : Value → Shared → Prop} (e : x.toArray = bs y) (h : Q (.bytes (bs y) s.toks) { s with toks := s.toks + 1 }) : wpAny M A (eval (.Constant (.bytes x) k pos) env) Q E s := by
  refine Constant_bytes ?_; rw [e]; exact h
def splitS : List Nat → List (List Nat)
  | [] => [[]]
  | c :: r => if c = 47 then [] :: splitS r else match splitS r with | p :: ps => (c :: p) :: ps | [] => [[c]]
def joinS : List (List Nat) → List Nat
  | [] => []
  | [p] => p
  | p :: q :: ps => p ++ 47 :: joinS (q :: ps)
theorem splitS_ne (x : List Nat) : splitS x ≠ [] := by
  cases x with
  | nil => simp [splitS]
  | cons c r =>
    simp only [splitS]
    split
    · simp
    · split <;> simp
theorem joinS_cons {p : List Nat} {ps : List (List Nat)} (h : ps ≠ []) : joinS (p :: ps) = p ++ 47 :: joinS ps := by
  cases ps with
  | nil => exact absurd rfl h
  | cons q qs => rfl
theorem joinS_splitS (x : List Nat) : joinS (splitS x) = x := by
  induction x with
  | nil => rfl
  | cons c r ih =>
    simp only [splitS]
    split
    · rename_i h
      rw [joinS_cons (splitS_ne r), ih, h]; rfl
    · split
      · rename_i p ps e
        cases ps with
        | nil => rw [e] at ih; simp only [joinS] at ih ⊢; rw [ih]
        | cons q qs =>
          rw [e] at ih
          rw [joinS_cons (by simp)] at ih ⊢
          rw [List.cons_append, ih]
      · rename_i e; exact absurd e (splitS_ne r)
theorem splitS_free (x : List Nat) : ∀ p ∈ splitS x, 47 ∉ p := by
  induction x with
  | nil => simp [splitS]
  | cons c r ih =>
    simp only [splitS]
    split
    · intro p hp
      rcases List.mem_cons.mp hp with rfl | hp
      · simp
      · exact ih p hp
    · rename_i hc
      split
      · rename_i q qs e
        intro p hp
        rcases List.mem_cons.mp hp with rfl | hp
        · intro hm
          rcases List.mem_cons.mp hm with h | h
          · exact hc h.symm
          · exact ih q (by rw [e]; simp) h
        · exact ih p (by rw [e]; simp [hp])
      · intro p hp
        rcases List.mem_cons.mp hp with rfl | hp
        · simp; exact fun h => hc h.symm
        · cases hp
theorem splitS_of_free {p : List Nat} (h : 47 ∉ p) : splitS p = [p] := by
  induction p with
  | nil => rfl
  | cons c r ih =>
    have h1 : c ≠ 47 := fun e => h (by simp [e])
    have h2 := ih (fun m => h (by simp [m]))
    simp [splitS, h1, h2]
theorem splitS_app {p : List Nat} (h : 47 ∉ p) (x : List Nat) : splitS (p ++ 47 :: x) = p :: splitS x := by
  induction p with
  | nil => simp [splitS]
  | cons c r ih =>
    have h1 : c ≠ 47 := fun e => h (by simp [e])
    have h2 := ih (fun m => h (by simp [m]))
    simp [splitS, h1, h2]
theorem splitS_joinS {ps : List (List Nat)} (hne : ps ≠ []) (hf : ∀ p ∈ ps, 47 ∉ p) : splitS (joinS ps) = ps := by
  induction ps with
  | nil => exact absurd rfl hne
  | cons p qs ih =>
    cases qs with
    | nil => exact splitS_of_free (hf p (by simp))
    | cons q r =>
      rw [joinS_cons (by simp), splitS_app (hf p (by simp)), ih (by simp) fun z hz => hf z (by simp [List.mem_cons.mp hz])]
theorem splitS_mem {x p : List Nat} (hp : p ∈ splitS x) : ∀ c ∈ p, c ∈ x := by
  induction x generalizing p with
  | nil => simp [splitS] at hp; subst hp; simp
  | cons c r ih =>
    simp only [splitS] at hp
    split at hp
    · rcases List.mem_cons.mp hp with rfl | hp
      · simp
      · intro d hd; exact List.mem_cons_of_mem _ (ih hp d hd)
    · split at hp
      · rename_i q qs e
        rcases List.mem_cons.mp hp with rfl | hp
        · intro d hd
          rcases List.mem_cons.mp hd with rfl | hd
          · simp
          · exact List.mem_cons_of_mem _ (ih (p := q) (by rw [e]; simp) d hd)
        · intro d hd; exact List.mem_cons_of_mem _ (ih (p := p) (by rw [e]; simp [hp]) d hd)
      · rcases List.mem_cons.mp hp with rfl | hp
        · intro d hd; simp at hd; simp [hd]
        · cases hp
theorem joinS_len_le {ps : List (List Nat)} : ∀ p ∈ ps, p.length ≤ (joinS ps).length := by
  induction ps with
  | nil => simp
  | cons q qs ih =>
    intro p hp
    cases qs with
    | nil => simp at hp; subst hp; exact Nat.le_refl _
    | cons a r =>
      rw [joinS_cons (by simp)]
      rcases List.mem_cons.mp hp with rfl | hp
      · simp
      · have := ih p hp; simp; omega
theorem splitS_len {x p : List Nat} (hp : p ∈ splitS x) : p.length ≤ x.length := by
  have := joinS_len_le p hp; rwa [joinS_splitS] at this
theorem splitS_count (x : List Nat) : (splitS x).length ≤ x.length + 1 := by
  induction x with
  | nil => simp [splitS]
  | cons c r ih =>
    simp only [splitS]
    split
    · simp; omega
    · split
      · rename_i e; rw [e] at ih; simp at ih ⊢; omega
      · simp
section
open Builtin
theorem slot_bytes_split : Slot "bytes" "split" "bytes.split" :=
  .of (owner := "bytes") (n := "split") (by rw [typeLookup_type, builtinLookup_eq_fast]; kernel_rfl) (by decide +kernel) (by decide +kernel) (by decide +kernel)
    (by first | exact .inl (by decide +kernel) | exact .inr (by decide +kernel)) (by rw [isSubtype_type]; kernel_rfl)
theorem type_bytes_split : typeOf (.builtin "bytes.split") = pure (.type "method_descriptor") := by show builtinType _ = _; rw [builtinType_eq_fast]; kernel_rfl
theorem entry_bytes_split : entryFor table "bytes.split" = some Builtin.«bytes.split» := entryFor_of_tree (by kernel_rfl)
theorem args_bytes_split_2 (a b : Value) : argsOk "bytes.split" ⟨[a, b], []⟩ := by
  unfold argsOk; rw [signature?_of (id := "bytes.split") (n := ['t', 'i', 'l', 'p', 's']) (o := ['s', 'e', 't', 'y', 'b']) (by kernel_rfl) FB.owner_bytes]; kernel_rfl
theorem slot_bytes_join : Slot "bytes" "join" "bytes.join" :=
  .of (owner := "bytes") (n := "join") (by rw [typeLookup_type, builtinLookup_eq_fast]; kernel_rfl) (by decide +kernel) (by decide +kernel) (by decide +kernel)
    (by first | exact .inl (by decide +kernel) | exact .inr (by decide +kernel)) (by rw [isSubtype_type]; kernel_rfl)
theorem type_bytes_join : typeOf (.builtin "bytes.join") = pure (.type "method_descriptor") := by show builtinType _ = _; rw [builtinType_eq_fast]; kernel_rfl
theorem entry_bytes_join : entryFor table "bytes.join" = some Builtin.«bytes.join» := entryFor_of_tree (by kernel_rfl)
theorem args_bytes_join_2 (a b : Value) : argsOk "bytes.join" ⟨[a, b], []⟩ := by
  unfold argsOk; rw [signature?_of (id := "bytes.join") (n := ['n', 'i', 'o', 'j']) (o := ['s', 'e', 't', 'y', 'b']) (by kernel_rfl) FB.owner_bytes]; kernel_rfl

variable {M : Model} {prog : Program} {w : World} {A : Around} {E : Value → Shared → Prop} {s : Shared} {b c : Array UInt8} {t u : Tok} {pl : Sem Bool}
theorem gm_sw {Q : Value × List Value → Shared → Prop} (h : Q (.builtin "bytes.startswith", [.bytes b t]) s) : wpAny M A (getMethod (.bytes b t) "startswith" pl) Q E s := by
  with_reducible exact KBd.method_of (.bytes b t) (typeIs_bytes _ _ _) FB.slot_bytes_startswith FB.type_bytes_startswith KBd.noRef h
theorem gm_ew {Q : Value × List Value → Shared → Prop} (h : Q (.builtin "bytes.endswith", [.bytes b t]) s) : wpAny M A (getMethod (.bytes b t) "endswith" pl) Q E s := by
  with_reducible exact KBd.method_of (.bytes b t) (typeIs_bytes _ _ _) FB.slot_bytes_endswith FB.type_bytes_endswith KBd.noRef h
theorem gm_split {Q : Value × List Value → Shared → Prop} (h : Q (.builtin "bytes.split", [.bytes b t]) s) : wpAny M A (getMethod (.bytes b t) "split" pl) Q E s := by
  with_reducible exact KBd.method_of (.bytes b t) (typeIs_bytes _ _ _) slot_bytes_split type_bytes_split KBd.noRef h
theorem gm_join {Q : Value × List Value → Shared → Prop} (h : Q (.builtin "bytes.join", [.bytes b t]) s) : wpAny M A (getMethod (.bytes b t) "join" pl) Q E s := by
  with_reducible exact KBd.method_of (.bytes b t) (typeIs_bytes _ _ _) slot_bytes_join type_bytes_join KBd.noRef h

theorem window_nn (n : Nat) : Bytes.window n none none = (0, (n : Int)) := by
  unfold Bytes.window
  have : ¬ ((n : Int) < 0) := by omega
  simp [this]
theorem nisub_bt : isSubtype (.type "bytes") (.type "tuple") = pure false := by rw [isSubtype_type]; kernel_rfl
theorem gives_sw : Gives («bytes.startswith» ⟨[.bytes b t, .bytes c u], []⟩) (.val (.bool (if (b.size : Int) - 0 < (c.size : Int) then false else b.extract 0 (0 + c.size) == c))) := by
  refine .of_wp fun M A E s Q hq => ?_
  have f1 := nisub_bt
  have hT : s.TypeIs (.bytes c u) "bytes" := rfl
  repeat (any_goals (first | assumption | (with_reducible refine wpAny_of_eq KBy.buffer_eq ?_) | wp_step))
  refine ⟨_, rfl, ?_⟩
  dsimp only
  rw [window_nn]
  exact hq
theorem gives_ew : Gives («bytes.endswith» ⟨[.bytes b t, .bytes c u], []⟩) (.val (.bool (if (b.size : Int) - 0 < (c.size : Int) then false else b.extract (b.size - c.size) b.size == c))) := by
  refine .of_wp fun M A E s Q hq => ?_
  have f1 := nisub_bt
  have hT : s.TypeIs (.bytes c u) "bytes" := rfl
  repeat (any_goals (first | assumption | (with_reducible refine wpAny_of_eq KBy.buffer_eq ?_) | wp_step))
  refine ⟨_, rfl, ?_⟩
  dsimp only
  rw [window_nn]
  exact hq

theorem eq_bs {x y : List Nat} (hx : ∀ c ∈ x, c < 256) (hy : ∀ c ∈ y, c < 256) : bs x = bs y ↔ x = y := by
  constructor
  · intro h
    have h1 : (x.map Nat.toUInt8) = (y.map Nat.toUInt8) := by
      have := congrArg Array.toList h
      simpa [bs] using this
    have h2 := congrArg (List.map UInt8.toNat) h1
    rw [List.map_map, List.map_map] at h2
    have e : ∀ l : List Nat, (∀ c ∈ l, c < 256) → l.map (UInt8.toNat ∘ Nat.toUInt8) = l := by
      intro l hl
      rw [List.map_congr_left (g := _root_.id) (fun c hc => by have := hl c hc; simp [Nat.toUInt8]; omega)]
      simp
    rwa [e x hx, e y hy] at h2
  · rintro rfl; rfl
theorem bs_size (x : List Nat) : (bs x).size = x.length := by simp [bs]
theorem st_len (x : List Nat) : (st x).length = x.length := by simp [st, Str.length]
theorem st_inj {x y : List Nat} : st x = st y ↔ x = y := by
  constructor
  · intro h; have := congrArg (fun z : Str => z.cps.toList) h; simpa [st] using this
  · rintro rfl; rfl
theorem bs_extract (x : List Nat) (i j : Nat) : (bs x).extract i j = bs ((x.drop i).take (j - i)) := by
  apply Array.ext'
  simp [bs, List.map_take, List.map_drop]

/-- all signs below 256, and not too long -/
structure Ok (x : List Nat) : Prop where
  lt : ∀ c ∈ x, c < 256
  len : x.length ≤ 100000
theorem sw_b (x : List Nat) (hx : Ok x) {Q : Value → Shared → Prop} (h : Q (.bool (decide (x.head? = some 47))) s) : wpAny (model prog w) A (call (.builtin "bytes.startswith") [.bytes (bs x) t, .bytes (bs [47]) u]) Q E s := by
  refine call_gives FB.slot_bytes_startswith (typeIs_bytes _ _ _) FB.entry_bytes_startswith (FB.args_bytes_startswith_2 _ _) gives_sw ?_
  have e : (if ((bs x).size : Int) - 0 < ((bs [47]).size : Int) then false else (bs x).extract 0 (0 + (bs [47]).size) == bs [47]) = decide (x.head? = some 47) := by
    simp only [bs_size, bs_extract]
    cases x with
    | nil => rfl
    | cons c r =>
      have hc := hx.lt c (.head _)
      have e1 : (bs [c] == bs [47]) = decide (c = 47) := by
        by_cases h : c = 47
        · subst h; simp
        · have : bs [c] ≠ bs [47] := fun e => h (by have := (eq_bs (by simpa using hc) (by simp)).mp e; simpa using this)
          simp [h, this]
      simp only [List.length_cons, List.length_nil, List.drop_zero, List.head?_cons]
      rw [if_neg (by omega)]
      simpa using e1
  rw [e]; exact h
theorem ew_b (x : List Nat) (hx : Ok x) {Q : Value → Shared → Prop} (h : Q (.bool (decide (x.getLast? = some 47))) s) : wpAny (model prog w) A (call (.builtin "bytes.endswith") [.bytes (bs x) t, .bytes (bs [47]) u]) Q E s := by
  refine call_gives FB.slot_bytes_endswith (typeIs_bytes _ _ _) FB.entry_bytes_endswith (FB.args_bytes_endswith_2 _ _) gives_ew ?_
  have e : (if ((bs x).size : Int) - 0 < ((bs [47]).size : Int) then false else (bs x).extract ((bs x).size - (bs [47]).size) (bs x).size == bs [47]) = decide (x.getLast? = some 47) := by
    simp only [bs_size, bs_extract]
    rcases List.eq_nil_or_concat x with rfl | ⟨r, c, rfl⟩
    · rfl
    · rw [List.concat_eq_append] at hx ⊢
      have hc := hx.lt c (by simp)
      have e1 : (bs [c] == bs [47]) = decide (c = 47) := by
        by_cases h : c = 47
        · subst h; simp
        · have : bs [c] ≠ bs [47] := fun e => h (by have := (eq_bs (by simpa using hc) (by simp)).mp e; simpa using this)
          simp [h, this]
      simp only [List.length_append, List.length_cons, List.length_nil]
      rw [if_neg (by omega)]
      simpa using e1
  rw [e]; exact h
theorem sw_s (x : List Nat) {Q : Value → Shared → Prop} (h : Q (.bool (decide (x.head? = some 47))) s) : wpAny (model prog w) A (call (.builtin "str.startswith") [.str (st x) t, .str (st [47]) u]) Q E s := by
  refine SC.startswith ?_
  have e : Txt.startswith (st x) (st [47]) = decide (x.head? = some 47) := by
    unfold Txt.startswith
    rw [StrLaws.subAt_eq, st_len, st_len]
    cases x with
    | nil => rfl
    | cons c r => by_cases h : c = 47 <;> simp [st, h]
  rw [e]; exact h
theorem ew_s (x : List Nat) {Q : Value → Shared → Prop} (h : Q (.bool (decide (x.getLast? = some 47))) s) : wpAny (model prog w) A (call (.builtin "str.endswith") [.str (st x) t, .str (st [47]) u]) Q E s := by
  refine SC.endswith ?_
  have e : Txt.endswith (st x) (st [47]) = decide (x.getLast? = some 47) := by
    unfold Txt.endswith
    rw [StrLaws.subAt_eq, st_len, st_len]
    rcases List.eq_nil_or_concat x with rfl | ⟨r, c, rfl⟩
    · rfl
    · rw [List.concat_eq_append]
      by_cases h : c = 47 <;> simp [st, h]
  rw [e]; exact h
theorem tr_s (x : List Nat) (hx : Ok x) {Q : Bool → Shared → Prop} (h : ∀ k, Q (!x.isEmpty) { s with toks := k }) : wpAny (model prog w) A (truthy (.str (st x) t)) Q E s := by
  have hl := hx.len
  refine KXt.truthy (b := !x.isEmpty) ?_ (by rw [st_len]; omega) h
  rw [st_len]; cases x <;> simp <;> omega
theorem tr_b (x : List Nat) (hx : Ok x) {Q : Bool → Shared → Prop} (h : ∀ k, Q (!x.isEmpty) { s with toks := k }) : wpAny (model prog w) A (truthy (.bytes (bs x) t)) Q E s := by
  have hl := hx.len
  refine truthy_bytes (by rw [bs_size]; omega) ?_
  have e : (((bs x).size : Int) != 0) = !x.isEmpty := by rw [bs_size]; cases x <;> simp <;> omega
  rw [e]; exact h _
theorem add_s (x y : List Nat) (hx : Ok x) (hy : Ok y) {Q : Value → Shared → Prop} (h : ∀ t' k, Q (.str (st (x ++ y)) t') { s with toks := k }) : wpAny (model prog w) A (binaryOp .Add (.str (st x) t) (.str (st y) u)) Q E s := by
  have h1 := hx.len
  have h2 := hy.len
  refine PyProof.Rows.add_str (fun t' k => ?_) (by rw [st_len, st_len, sizeLine_eq]; omega)
  have e : st x ++ st y = st (x ++ y) := by rw [st, st, st]; show Str.append _ _ = _; simp [Str.append]
  rw [e]; exact h t' k
theorem iadd_s (x y : List Nat) (hx : Ok x) (hy : Ok y) {Q : Value → Shared → Prop} (h : ∀ t' k, Q (.str (st (x ++ y)) t') { s with toks := k }) : wpAny (model prog w) A (inplaceOp .Add (.str (st x) t) (.str (st y) u)) Q E s := by
  have h1 := hx.len
  have h2 := hy.len
  refine PyProof.Rows.iadd_str (fun t' k => ?_) (by rw [st_len, st_len, sizeLine_eq]; omega)
  have e : st x ++ st y = st (x ++ y) := by rw [st, st, st]; show Str.append _ _ = _; simp [Str.append]
  rw [e]; exact h t' k
theorem noI_bytes_add : typeLookup (.type "bytes") (dunderI "add") = pure none := by rw [typeLookup_type, builtinLookup_eq_fast]; kernel_rfl
theorem iadd_b (x y : List Nat) (hx : Ok x) (hy : Ok y) {Q : Value → Shared → Prop} (h : ∀ t' k, Q (.bytes (bs (x ++ y)) t') { s with toks := k }) : wpAny (model prog w) A (inplaceOp .Add (.bytes (bs x) t) (.bytes (bs y) u)) Q E s := by
  have h1 := hx.len
  have h2 := hy.len
  have e : bs x ++ bs y = bs (x ++ y) := by simp [bs]
  refine iconcat_gives (typeIs_bytes s _ t) (typeIs_bytes s _ u) noI_bytes_add KBy.noFill_bytes_add KBy.seq_bytes_add FB.slot_bytes_add FB.entry_bytes_add (FB.args_bytes_add_2 _ _) (KBy.gives_bytes_add (KBy.tooLong_not (by rw [bs_size, bs_size]; omega))) ?_
  by_cases hb : (bs x).isEmpty = true
  · rw [if_pos hb]
    have e1 : bs x = #[] := Array.isEmpty_iff.1 hb
    have h' := h u s.toks
    rw [← e, e1, Array.empty_append] at h'
    exact h'
  · rw [if_neg hb]
    by_cases hc : (bs y).isEmpty = true
    · rw [if_pos hc]
      have e1 : bs y = #[] := Array.isEmpty_iff.1 hc
      have h' := h t s.toks
      rw [← e, e1, Array.append_empty] at h'
      exact h'
    · rw [if_neg hc]
      exact ⟨by rw [Array.size_append, sizeLine_eq, bs_size, bs_size]; omega, by rw [e]; exact h s.toks (s.toks + 1)⟩
theorem add_b (x y : List Nat) (hx : Ok x) (hy : Ok y) {Q : Value → Shared → Prop} (h : ∀ t' k, Q (.bytes (bs (x ++ y)) t') { s with toks := k }) : wpAny (model prog w) A (binaryOp .Add (.bytes (bs x) t) (.bytes (bs y) u)) Q E s := by
  have h1 := hx.len
  have h2 := hy.len
  refine KBy.add_bytes (by rw [bs_size, bs_size]; omega) fun t' k => ?_
  have e : bs x ++ bs y = bs (x ++ y) := by simp [bs]
  rw [e]; exact h t' k

theorem eq_s (x y : List Nat) {Q : Value → Shared → Prop} (h : Q (.bool (decide (x = y))) s) : wpAny (model prog w) A (compareOp .Eq (.str (st x) t) (.str (st y) u)) Q E s := by
  refine P.eq_str ?_
  have e : ((st x).cps.toList == (st y).cps.toList) = decide (x = y) := by by_cases h : x = y <;> simp [st, h]
  rw [e]; exact h
theorem ne_s (x y : List Nat) {Q : Value → Shared → Prop} (h : Q (.bool (!decide (x = y))) s) : wpAny (model prog w) A (compareOp .NotEq (.str (st x) t) (.str (st y) u)) Q E s := by
  refine P.ne_str ?_
  have e : ((st x).cps.toList != (st y).cps.toList) = !decide (x = y) := by by_cases h : x = y <;> simp [st, h]
  rw [e]; exact h
theorem beq_bs {x y : List Nat} (hx : Ok x) (hy : Ok y) : ((bs x).toList == (bs y).toList) = decide (x = y) := by
  by_cases h : x = y
  · subst h; simp
  · have : ((bs x).toList == (bs y).toList) = false := beq_eq_false_iff_ne.mpr fun e => h ((eq_bs hx.lt hy.lt).mp (Array.ext' e))
    rw [this]; simp [h]
theorem eq_b (x y : List Nat) (hx : Ok x) (hy : Ok y) {Q : Value → Shared → Prop} (h : Q (.bool (decide (x = y))) s) : wpAny (model prog w) A (compareOp .Eq (.bytes (bs x) t) (.bytes (bs y) u)) Q E s := by
  refine eq_bytes ?_
  rw [beq_bs hx hy]; exact h
theorem ne_b (x y : List Nat) (hx : Ok x) (hy : Ok y) {Q : Value → Shared → Prop} (h : Q (.bool (!decide (x = y))) s) : wpAny (model prog w) A (compareOp .NotEq (.bytes (bs x) t) (.bytes (bs y) u)) Q E s := by
  refine ne_bytes ?_
  rw [bne, beq_bs hx hy]; exact h

theorem Ok.nil : Ok [] := ⟨by simp, by simp⟩
theorem Ok.one {c : Nat} (h : c < 256) : Ok [c] := ⟨by simpa using h, by simp⟩
theorem Ok.sub {x y : List Nat} (h : Ok x) (hs : ∀ c ∈ y, c ∈ x) (hl : y.length ≤ x.length) : Ok y := ⟨fun c hc => h.lt c (hs c hc), Nat.le_trans hl h.len⟩
theorem Ok.drop {x : List Nat} (h : Ok x) (n : Nat) : Ok (x.drop n) := h.sub (fun _ hc => List.mem_of_mem_drop hc) (by simp)
theorem Ok.take {x : List Nat} (h : Ok x) (n : Nat) : Ok (x.take n) := h.sub (fun _ hc => List.mem_of_mem_take hc) (by simp; omega)

theorem idx_clip (i j n : Nat) : Builtin.Str.strSliceIndices (some (i : Int)) (some (j : Int)) 1 n = Builtin.Str.strSliceIndices (some ((min i n : Nat) : Int)) (some ((min j n : Nat) : Int)) 1 n := by
  unfold Builtin.Str.strSliceIndices
  have h1 : ¬ ((i : Int) < 0) := by omega
  have h2 : ¬ ((j : Int) < 0) := by omega
  have h3 : ¬ (((min i n : Nat) : Int) < 0) := by omega
  have h4 : ¬ (((min j n : Nat) : Int) < 0) := by omega
  simp only [if_neg h1, if_neg h2, if_neg h3, if_neg h4]
  simp only [show ((1 : Int) > 0) = True from by simp, if_true]
  congr 1 <;> omega
theorem idx_none_lo (hi : Option Int) (n : Nat) : Builtin.Str.strSliceIndices none hi 1 n = Builtin.Str.strSliceIndices (some ((0 : Nat) : Int)) hi 1 n := by
  unfold Builtin.Str.strSliceIndices
  simp
  congr 1
theorem idx_none_hi (lo : Option Int) (n : Nat) : Builtin.Str.strSliceIndices lo none 1 n = Builtin.Str.strSliceIndices lo (some (n : Int)) 1 n := by
  unfold Builtin.Str.strSliceIndices
  have h : ¬ ((n : Int) < 0) := by omega
  simp [h]
theorem slice_of_idx {x : Str} {l u l' u' : Option Int} (e : Builtin.Str.strSliceIndices l u 1 x.length = Builtin.Str.strSliceIndices l' u' 1 x.length) : Txt.slice x l u = Txt.slice x l' u' := by
  unfold Txt.slice; rw [e]
theorem cut_clip (x : List Nat) (i j : Nat) : (x.drop (min i x.length)).take (min j x.length - min i x.length) = (x.drop i).take (j - i) := by
  apply List.ext_getElem?
  intro k
  simp only [List.getElem?_take, List.getElem?_drop]
  by_cases h : k < min j x.length - min i x.length
  · rw [if_pos h, if_pos (by omega), show min i x.length = i by omega]
  · rw [if_neg h]
    by_cases h' : k < j - i
    · rw [if_pos h', List.getElem?_eq_none (by omega)]
    · rw [if_neg h']
theorem slice_ss (x : List Nat) (i j : Nat) (hij : i ≤ j) : Txt.slice (st x) (some (i : Int)) (some (j : Int)) = st ((x.drop i).take (j - i)) := by
  rw [slice_of_idx (idx_clip i j (st x).length), st_len]
  have h := slice_closes (x := st x) (i := ((min i x.length : Nat) : Int)) (j := ((min j x.length : Nat) : Int)) ⟨by omega, by omega, by simp [st]; omega⟩
  rw [eq_of_beq h, ← cut_clip]
  simp [st]
theorem slice_ns (x : List Nat) (j : Nat) : Txt.slice (st x) none (some (j : Int)) = st (x.take j) := by
  rw [slice_of_idx (idx_none_lo _ _), slice_ss x 0 j (Nat.zero_le _)]
  simp
theorem slice_sn (x : List Nat) (i : Nat) : Txt.slice (st x) (some (i : Int)) none = st (x.drop i) := by
  rw [slice_of_idx (idx_none_hi _ _), st_len]
  by_cases h : i ≤ x.length
  · rw [slice_ss x i x.length h]
    rw [List.take_of_length_le (by simp)]
  · rw [slice_of_idx (idx_clip i x.length (st x).length), st_len, slice_ss x _ _ (by omega), cut_clip]
    rw [List.take_of_length_le (by simp)]
theorem picked_ss (x : List Nat) (i j : Nat) : KBy.picked (bs x) (some (i : Int)) (some (j : Int)) = bs ((x.drop i).take (j - i)) := by
  rw [KBc.picked_eq, bs_size]
  simp only [Option.elim, clipAt_nat]
  rw [← cut_clip]
  simp [bs, List.map_take, List.map_drop]
theorem picked_ns (x : List Nat) (j : Nat) : KBy.picked (bs x) none (some (j : Int)) = bs (x.take j) := by
  rw [KBc.picked_eq, bs_size]
  simp only [Option.elim, clipAt_nat]
  have e := cut_clip x 0 j
  rw [Nat.zero_min, Nat.sub_zero, Nat.sub_zero, List.drop_zero] at e
  rw [← e]
  simp [bs, List.map_take]
theorem picked_sn (x : List Nat) (i : Nat) : KBy.picked (bs x) (some (i : Int)) none = bs (x.drop i) := by
  rw [KBc.picked_eq, bs_size]
  simp only [Option.elim, clipAt_nat]
  have e := cut_clip x i x.length
  rw [Nat.min_self, List.take_of_length_le (l := x.drop i) (by simp)] at e
  rw [← e]
  simp [bs, List.map_take, List.map_drop]
end
section
open Builtin
def posn : Nat → List Nat → List Nat
  | _, [] => []
  | k, c :: r => if c = 47 then k :: posn (k + 1) r else posn (k + 1) r
theorem posn_len (k : Nat) (x : List Nat) : (posn k x).length ≤ x.length := by
  induction x generalizing k with
  | nil => simp [posn]
  | cons c r ih => have := ih (k + 1); simp only [posn]; split <;> simp <;> omega
def occStep (b sub : Array UInt8) (acc : List Nat × Nat) (i : Nat) : List Nat × Nat :=
  if i ≥ acc.2 && b.extract i (i + sub.size) == sub then (i :: acc.1, i + sub.size) else acc
theorem at_is {x : List Nat} (hx : Ok x) {k c : Nat} {r : List Nat} (h : x.drop k = c :: r) : ((bs x).extract k (k + (bs [47]).size) == bs [47]) = decide (c = 47) := by
  rw [bs_extract, bs_size, h]
  have hc : c < 256 := hx.lt c (List.mem_of_mem_drop (i := k) (by rw [h]; simp))
  simp only [List.length_cons, List.length_nil]
  rw [show k + (0 + 1) - k = 1 by omega, List.take_succ_cons, List.take_zero]
  by_cases e : c = 47
  · subst e; simp
  · have : (bs [c] == bs [47]) = false := beq_eq_false_iff_ne.mpr fun q => e (by have := (eq_bs (by simpa using hc) (by simp)).mp q; simpa using this)
    rw [this]; simp [e]
theorem occ_run {x : List Nat} (hx : Ok x) : ∀ (y : List Nat) (k : Nat) (acc : List Nat) (last : Nat), x.drop k = y → last ≤ k →
    ((List.range' k y.length).foldl (occStep (bs x) (bs [47])) (acc, last)).1 = (posn k y).reverse ++ acc := by
  intro y
  induction y with
  | nil => intro k acc last _ _; simp [posn]
  | cons c r ih =>
    intro k acc last h hl
    have h' : x.drop (k + 1) = r := by rw [← List.drop_drop, h]; rfl
    simp only [List.length_cons, List.range'_succ, List.foldl_cons]
    unfold occStep
    dsimp only
    rw [at_is hx h]
    by_cases e : c = 47
    · simp only [e, decide_true, Bool.and_true, ge_iff_le, hl, if_true, posn]
      rw [show (k + (bs [47]).size) = k + 1 by rw [bs_size]; rfl]
      have := ih (k + 1) (k :: acc) (k + 1) h' (Nat.le_refl _)
      unfold occStep at this
      rw [this]; simp
    · simp only [e, decide_false, Bool.and_false, Bool.false_eq_true, if_false, posn]
      exact ih (k + 1) acc last h' (Nat.le_succ_of_le hl)
theorem occ_is {x : List Nat} (hx : Ok x) : Bytes.occurrences (bs x) (bs [47]) 0 (bs x).size = posn 0 x := by
  unfold Bytes.occurrences
  have h := occ_run hx x 0 [] 0 (by simp) (Nat.le_refl _)
  have e : (List.range ((bs x).size + 1 - (0 + (bs [47]).size))).map (· + 0) = List.range' 0 x.length := by
    rw [bs_size, bs_size, List.range_eq_range']
    simp
  rw [e]
  have h2 := congrArg List.reverse h
  simp only [List.append_nil, List.reverse_reverse] at h2
  exact h2
def btwStep (b : Array UInt8) (width : Nat) (a : Array (Array UInt8) × Nat) (p : Nat) : Array (Array UInt8) × Nat := (a.1.push (b.extract a.2 p), p + width)
def pre (p : List Nat) : List (List Nat) → List (List Nat)
  | q :: qs => (p ++ q) :: qs
  | [] => [p]
theorem btw_run {x : List Nat} : ∀ (y : List Nat) (k : Nat) (parts : Array (Array UInt8)) (last : Nat), x.drop k = y → last ≤ k → k ≤ x.length →
    (((posn k y).foldl (btwStep (bs x) 1) (parts, last)).1.push ((bs x).extract ((posn k y).foldl (btwStep (bs x) 1) (parts, last)).2 (bs x).size)).toList = parts.toList ++ (pre ((x.drop last).take (k - last)) (splitS y)).map bs := by
  intro y
  induction y with
  | nil =>
    intro k parts last h hl hk
    have hk' : k = x.length := by
      have := congrArg List.length h; simp at this; omega
    simp [posn, splitS, pre, bs_extract, bs_size, hk']
  | cons c r ih =>
    intro k parts last h hl hk
    have h' : x.drop (k + 1) = r := by rw [← List.drop_drop, h]; rfl
    have hk1 : k + 1 ≤ x.length := by
      have := congrArg List.length h; simp at this; omega
    simp only [posn]
    by_cases e : c = 47
    · rw [if_pos e, List.foldl_cons]
      have := ih (k + 1) (parts.push ((bs x).extract last k)) (k + 1) h' (Nat.le_refl _) hk1
      unfold btwStep at this ⊢
      rw [this]
      have e2 : splitS (c :: r) = [] :: splitS r := by simp [splitS, e]
      rw [e2]
      simp only [Array.toList_push, Nat.sub_self, List.take_zero, bs_extract]
      cases hs : splitS r with
      | nil => exact absurd hs (splitS_ne r)
      | cons q qs => simp [pre]
    · rw [if_neg e, ih (k + 1) parts last h' (Nat.le_succ_of_le hl) hk1]
      have e3 : (x.drop last).take (k + 1 - last) = (x.drop last).take (k - last) ++ [c] := by
        have hc : (x.drop last)[k - last]? = some c := by
          rw [List.getElem?_drop, show last + (k - last) = k by omega]
          have := congrArg (fun l => l[0]?) h
          simpa [List.getElem?_drop] using this
        rw [show k + 1 - last = (k - last) + 1 by omega, List.take_add_one, hc]; rfl
      rw [e3]
      cases hs : splitS r with
      | nil => exact absurd hs (splitS_ne r)
      | cons q qs =>
        have e2 : splitS (c :: r) = (c :: q) :: qs := by simp [splitS, e, hs]
        rw [e2]; simp [pre]
theorem btw_is (x : List Nat) : Bytes.between (bs x) 1 (posn 0 x) = (splitS x).map bs := by
  have h := btw_run (x := x) x 0 #[] 0 (by simp) (Nat.le_refl _) (Nat.zero_le _)
  unfold Bytes.between
  unfold btwStep at h
  simp only [Nat.sub_self, List.take_zero, List.drop_zero, List.nil_append] at h
  refine Eq.trans ?_ (h.trans ?_)
  · rfl
  · cases hs : splitS x with
    | nil => exact absurd hs (splitS_ne x)
    | cons q qs => simp [pre]
theorem posn_nil {x : List Nat} (k : Nat) (h : posn k x = []) : 47 ∉ x := by
  induction x generalizing k with
  | nil => simp
  | cons c r ih =>
    simp only [posn] at h
    split at h
    · cases h
    · rename_i hc
      intro hm
      rcases List.mem_cons.mp hm with e | e
      · exact hc e.symm
      · exact ih _ h e
end
def TsAre (o : Bool) : List Value → List (List Nat) → Prop
  | [], [] => True
  | v :: vs, p :: ps => (∃ t, v = T o p t) ∧ TsAre o vs ps
  | _, _ => False
section
open Builtin
variable {M : Model} {prog : Program} {w : World} {A : Around} {E : Value → Shared → Prop} {s : Shared} {t u : Tok} {h₀ : Heap} {L : Addr} {m : Str → Option Value} {news : Led}
theorem TsAre.snoc {o : Bool} {v : Value} {p : List Nat} (hv : ∃ t, v = T o p t) : ∀ {vs : List Value} {ps : List (List Nat)}, TsAre o vs ps → TsAre o (vs ++ [v]) (ps ++ [p])
  | [], [], _ => ⟨hv, trivial⟩
  | _ :: _, _ :: _, h => ⟨h.1, TsAre.snoc hv h.2⟩
theorem TsAre.len {o : Bool} : ∀ {vs : List Value} {ps : List (List Nat)}, TsAre o vs ps → vs.length = ps.length
  | [], [], _ => rfl
  | _ :: _, _ :: _, h => by rw [List.length_cons, List.length_cons, TsAre.len h.2]
theorem TsAre.get {o : Bool} : ∀ {vs : List Value} {ps : List (List Nat)}, TsAre o vs ps → ∀ {i : Nat} {v : Value}, vs[i]? = some v → ∃ p t, ps[i]? = some p ∧ v = T o p t
  | _ :: _, p :: _, h, 0, v, e => by
    obtain ⟨t, ht⟩ := h.1
    cases e
    exact ⟨p, t, rfl, ht⟩
  | _ :: vs, _ :: ps, h, i + 1, v, e => TsAre.get (vs := vs) (ps := ps) h.2 (i := i) (by simpa using e)
theorem mapM_new {Q : List Value → Shared → Prop} : ∀ (ps ps' : List (List Nat)) (acc : List Value) (s : Shared), (∀ p ∈ ps, p.length ≤ 100000) → TsAre true acc.reverse ps' →
    (∀ vs k, TsAre true vs (ps' ++ ps) → Q vs { s with toks := k }) → wpAny M A (List.mapM.loop mkBytes (ps.map bs) acc) Q E s
  | [], ps', acc, s, _, ha, h => by
    have := h acc.reverse s.toks (by simpa using ha)
    exact wpAny_pure this
  | p :: ps, ps', acc, s, hl, ha, h => by
    show wpAny M A (mkBytes (bs p) >>= fun b => List.mapM.loop mkBytes (ps.map bs) (b :: acc)) Q E s
    have := hl p (by simp)
    refine wpAny_bind (wpAny_mkBytes ?_ (by rw [bs_size, sizeLine_eq]; omega))
    refine mapM_new ps (ps' ++ [p]) _ _ (fun q hq => hl q (by simp [hq])) ?_ fun vs k hv => ?_
    · rw [List.reverse_cons]
      exact TsAre.snoc ⟨_, rfl⟩ ha
    · exact h vs k (by simpa using hv)
theorem bind_split (v : Value) : Bytes.bindOptional "bytes.split" "split" ["sep", "maxsplit"] [v] [] = pure [some v, none] := by kernel_rfl
theorem meets_split (x : List Nat) (hx : Ok x) (F : Fr h₀ L s.heap m) (N : News h₀ L s.heap news) {Q : Value → Shared → Prop}
    (h : ∀ D vs h' k, TsAre true vs (splitS x) → Fr h₀ L h' m → News h₀ L h' ((D, listOf vs.toArray 0) :: news) → (∀ p ∈ news, p.1 < D) → Q (.ref D) { s with heap := h', toks := k }) :
    wpAny (model prog w) A (call (.builtin "bytes.split") [.bytes (bs x) t, .bytes (bs [47]) u]) Q E s := by
  refine call_meets (S := fun _ R s' => s' = s ∧ ∀ D vs h' k, TsAre true vs (splitS x) → Fr h₀ L h' m → News h₀ L h' ((D, listOf vs.toArray 0) :: news) → (∀ p ∈ news, p.1 < D) → R (.ok (.ret (.ref D))) { s with heap := h', toks := k })
    slot_bytes_split (typeIs_bytes _ _ _) entry_bytes_split (args_bytes_split_2 _ _) (.of_wp fun prog w A R s' hS => ?_) ⟨rfl, h⟩
  obtain ⟨rfl, h⟩ := hS
  have f1 := bind_split (.bytes (bs [47]) u)
  repeat (any_goals (first | assumption | (with_reducible refine wpAny_of_eq KBy.buffer_eq ?_) | wp_step))
  simp only [Bool.false_eq_true, if_false]
  rw [occ_is hx, List.take_of_length_le (by have := posn_len 0 x; simp [bs_size]; omega)]
  have hl := hx.len
  have hc := splitS_count x
  have l1 : ∀ p ∈ news, p.1 < s'.heap.objs.size := fun p hp => Heap.lt_size (N p hp).1
  by_cases hp : posn 0 x = []
  · rw [hp]
    have e : splitS x = [x] := splitS_of_free (posn_nil 0 hp)
    have h1 := h s'.heap.objs.size [.bytes (bs x) t] (s'.heap.push (listOf #[.bytes (bs x) t] 0)) s'.toks (by rw [e]; exact ⟨⟨t, rfl⟩, trivial⟩) (F.push _) (News.push F N _) l1
    repeat (any_goals (first | assumption | wp_step))
    exact ⟨_, rfl, h1⟩
  · have e0 : (posn 0 x).isEmpty = false := by cases hq : posn 0 x <;> simp_all
    have hsz : (bs [47]).size = 1 := by rw [bs_size]; rfl
    rw [e0, hsz, btw_is]
    refine wpAny_ite ?_
    rw [if_neg Bool.false_ne_true]
    refine wpAny_bind ?_
    show wpAny _ _ (List.mapM.loop mkBytes ((splitS x).map bs) []) _ _ _
    refine mapM_new (splitS x) [] [] s' (fun p hp => Nat.le_trans (splitS_len hp) hl) trivial ?_
    intro vs k hv
    simp only [List.nil_append] at hv
    refine wpAny_bind ?_
    have hlen := hv.len
    refine newList_N (news := news) (s := { s' with toks := k }) F N (fun h' F' N' => ?_) (by rw [hlen, sizeLine_eq]; omega)
    exact wpAny_pure ⟨_, rfl, h _ vs h' k hv F' N' l1⟩

theorem joinS_flat (p : List Nat) (ps : List (List Nat)) : joinS (p :: ps) = p ++ ps.flatMap (fun q => 47 :: q) := by
  induction ps generalizing p with
  | nil => simp [joinS]
  | cons q qs ih => rw [joinS_cons (by simp), ih]; simp
theorem glued_is (ps : List (List Nat)) : Builtin.Str.glued (st [47]) (ps.map st) = st (joinS ps) := by
  have run : ∀ (ps : List (List Nat)) (acc : Array Nat), ((ps.map st).foldl (fun acc p => acc ++ (st [47]).cps ++ p.cps) acc) = acc ++ (ps.flatMap (fun q => 47 :: q)).toArray := by
    intro ps
    induction ps with
    | nil => intro acc; simp
    | cons q qs ih =>
      intro acc
      rw [List.map_cons, List.foldl_cons, ih]
      apply Array.ext'
      simp [st]
  unfold Builtin.Str.glued
  cases ps with
  | nil => rfl
  | cons p ps =>
    simp only [List.map_cons, List.drop_succ_cons, List.drop_zero, List.headD_cons]
    rw [run, joinS_flat]
    simp [st]
theorem txt_split (x : List Nat) : Txt.split (st x) (st [47]) = (splitS x).map st := by
  have h1 := StrLaws.join_split (st x) (st [47])
  have h2 := StrLaws.split_free (st x) 47
  have e : (st [47] : Str) = ⟨#[47]⟩ := rfl
  rw [← e] at h2
  have ne : Txt.split (st x) (st [47]) ≠ [] := by
    intro h0
    rw [h0] at h1
    have h3 : (st [] : Str) = st x := h1
    have h4 : x = [] := (st_inj.mp h3).symm
    subst h4
    revert h0
    decide
  generalize Txt.split (st x) (st [47]) = l at *
  have hl : l = (l.map fun p => p.cps.toList).map st := by
    rw [List.map_map]
    exact (List.map_id l).symm.trans (List.map_congr_left fun p _ => by simp [st])
  have h5 : joinS (l.map fun p => p.cps.toList) = x := by
    have : Builtin.Str.glued (st [47]) l = st x := (StrLaws.glued_eq_join _ _).trans h1
    rw [hl, glued_is] at this
    exact st_inj.mp this
  rw [hl, ← h5, splitS_joinS (by simpa using ne) (by
    intro p hp
    obtain ⟨q, hq, rfl⟩ := List.mem_map.mp hp
    exact h2 q hq)]
theorem TsAre.ofStr : ∀ {l : List (Str × Tok)} {ps : List (List Nat)}, l.map (·.1) = ps.map st → TsAre false (strValues l) ps
  | [], [], _ => trivial
  | (y, t) :: l, p :: ps, e => by
    simp only [List.map_cons, List.cons.injEq] at e
    exact ⟨⟨t, by rw [e.1]; rfl⟩, TsAre.ofStr e.2⟩
theorem meets_splitS (x : List Nat) (hx : Ok x) (F : Fr h₀ L s.heap m) (N : News h₀ L s.heap news) {Q : Value → Shared → Prop}
    (h : ∀ D vs h' k, TsAre false vs (splitS x) → Fr h₀ L h' m → News h₀ L h' ((D, listOf vs.toArray 0) :: news) → (∀ p ∈ news, p.1 < D) → Q (.ref D) { s with heap := h', toks := k }) :
    wpAny (model prog w) A (call (.builtin "str.split") [.str (st x) t, .str (st [47]) u]) Q E s := by
  have hl := hx.len
  refine KSpl.split1 F N (by rw [st_len]; rfl) (fun D l h' k e _ F' N' l1 => ?_) (by rw [st_len, sizeLine_eq]; omega)
  rw [txt_split] at e
  exact h D _ h' k (TsAre.ofStr e) F' N' l1
end
section
open Builtin
variable {M : Model} {prog : Program} {w : World} {A : Around} {E : Value → Shared → Prop} {s : Shared} {t u : Tok} {h₀ : Heap} {L D : Addr} {m : Str → Option Value} {news : Led} {vs : List Value} {ps : List (List Nat)}
/-- the whole length of the parts, a separator to each -/
def weightS : List (List Nat) → Nat
  | [] => 0
  | p :: ps => p.length + 1 + weightS ps
theorem TsAre.toStr : ∀ {vs : List Value} {ps : List (List Nat)}, TsAre false vs ps → ∃ l : List (Str × Tok), vs = strValues l ∧ l.map (·.1) = ps.map st
  | [], [], _ => ⟨[], rfl, rfl⟩
  | v :: vs, p :: ps, h => by
    obtain ⟨⟨t, rfl⟩, h⟩ := h
    obtain ⟨l, rfl, e⟩ := TsAre.toStr h
    exact ⟨(st p, t) :: l, rfl, by simp [e]⟩
theorem weight_fold (ps : List (List Nat)) : ∀ a : Nat, (ps.map st).foldl (· + ·.length + (st [47]).length) a = a + weightS ps := by
  induction ps with
  | nil => intro a; rfl
  | cons p ps ih => intro a; rw [List.map_cons, List.foldl_cons, ih, st_len, st_len]; simp [weightS]; omega
theorem join_s (hl : s.heap.IsList D vs.toArray) (hv : TsAre false vs ps) (hw : weightS ps ≤ 1000000) {Q : Value → Shared → Prop} (h : ∀ t' k, Q (.str (st (joinS ps)) t') { s with toks := k }) :
    wpAny (model prog w) A (call (.builtin "str.join") [.str (st [47]) t, .ref D]) Q E s := by
  obtain ⟨l, rfl, e⟩ := hv.toStr
  refine SC.join hl e ?_ fun t' k => ?_
  · unfold JoinOk Str.tooLong
    rw [List.foldl_toArray, weight_fold, sizeLine_eq]
    simp; omega
  · have e2 : Txt.join (st [47]) (ps.map st) = st (joinS ps) := glued_is ps
    rw [e2]; exact h t' k

theorem joined_is (ps : List (List Nat)) : Bytes.joined (bs [47]) (ps.map bs) = bs (joinS ps) := by
  have run : ∀ (ps : List (List Nat)) (k : Nat) (acc : Array UInt8), 0 < k → ((ps.map bs).zipIdx k).foldl (fun out (p : Array UInt8 × Nat) => (if p.2 > 0 then out ++ bs [47] else out) ++ p.1) acc = acc ++ bs (ps.flatMap (fun q => 47 :: q)) := by
    intro ps
    induction ps with
    | nil => intro k acc _; simp [bs]
    | cons q qs ih =>
      intro k acc hk
      rw [List.map_cons, List.zipIdx_cons, List.foldl_cons, ih (k + 1) _ (Nat.succ_pos k)]
      simp only [gt_iff_lt, hk, if_true]
      apply Array.ext'
      simp [bs]
  unfold Bytes.joined
  cases ps with
  | nil => rfl
  | cons p ps =>
    rw [List.map_cons, List.zipIdx_cons, List.foldl_cons]
    have := run ps (0 + 1) (#[] ++ bs p) (by omega)
    simp only [gt_iff_lt, Nat.lt_irrefl, if_false]
    rw [this, joinS_flat]
    apply Array.ext'
    simp [bs]

def RangeAt {β : Type} (M : Model) (A : Around) (r : Std.Legacy.Range) (b : β) (f : Nat → β → Sem (ForInStep β)) (Q : β → Shared → Prop) (E : Value → Shared → Prop) (s : Shared) : Prop := wpAny M A (forIn r b f) Q E s
theorem range_at {β : Type} {r : Std.Legacy.Range} {b : β} {f : Nat → β → Sem (ForInStep β)} {Q : β → Shared → Prop} (h : RangeAt M A r b f Q E s) : wpAny M A (forIn r b f) Q E s := h
theorem range_run {β : Type} {n : Nat} {b : β} {f : Nat → β → Sem (ForInStep β)} {Q : β → Shared → Prop} (J : Nat → β → Shared → Prop) (h0 : J 0 b s)
    (step : ∀ i b s, i < n → J i b s → wpAny M A (f i b) (fun r s' => ∃ b', r = .yield b' ∧ J (i + 1) b' s') E s) (done : ∀ b s, J n b s → Q b s) : RangeAt M A [0:n] b f Q E s := by
  unfold RangeAt
  rw [Std.Legacy.Range.forIn_eq_forIn_range']
  have hr : List.range' [0:n].start [0:n].size [0:n].step = List.range' 0 n := by simp [Std.Legacy.Range.size]
  rw [hr]
  have run : ∀ (k i : Nat) (b : β) (s : Shared), i + k = n → J i b s → wpAny M A (forIn (List.range' i k) b f) Q E s := by
    intro k
    induction k with
    | zero => intro i b s e hj; rw [List.range'_zero, List.forIn_nil]; exact wpAny_pure (done b s (by rwa [show n = i by omega]))
    | succ k ih =>
      intro i b s e hj
      rw [List.range'_succ, List.forIn_cons]
      refine wpAny_bind (wpAny_mono (step i b s (by omega) hj) (fun r s' hr => ?_) fun _ _ x => x)
      obtain ⟨b', rfl, hj'⟩ := hr
      exact ih (i + 1) b' s' (by omega) hj'
  exact run n 0 b s (by omega) h0
theorem full_no : ((0 : Int) == Bytes.fullReadOnly) = false := by decide
theorem take_eq {id : String} {b : Array UInt8} {t : Tok} : Bytes.takeBufferQuiet? id (.bytes b t) 0 = pure (some (b, none)) := by
  unfold Bytes.takeBufferQuiet? Bytes.takeBuffer?
  rw [KBy.special_eq KBy.look_buffer, KBy.own_buffer, full_no, KBy.buffer_eq]
  kernel_rfl
def takenOf (vs : List Value) : List (Value × Option Value) := vs.map fun v => (v, none)
theorem letGo_run {Q : Unit → Shared → Prop} (keep : List Value) (h : Q () s) : ∀ vs : List Value, wpAny M A (Bytes.joinLetGo (takenOf vs) keep) Q E s := by
  intro vs
  induction vs with
  | nil => exact wpAny_pure h
  | cons v vs ih =>
    show wpAny M A (Bytes.joinLetGo ((v, none) :: takenOf vs) keep) Q E s
    unfold Bytes.joinLetGo
    refine wpAny_bind (wpAny_letGo ?_)
    exact ih
theorem TsAre.noHeap : ∀ {vs : List Value} {ps : List (List Nat)}, TsAre true vs ps → (takenOf vs).any (fun x => x.1.onHeap) = false
  | [], [], _ => rfl
  | v :: vs, p :: ps, h => by
    obtain ⟨⟨t, rfl⟩, h⟩ := h
    have := TsAre.noHeap h
    simp only [takenOf, List.map_cons, List.any_cons] at this ⊢
    rw [this]; rfl
theorem TsAre.take {o : Bool} : ∀ {vs : List Value} {ps : List (List Nat)} (i : Nat), TsAre o vs ps → TsAre o (vs.take i) (ps.take i)
  | [], [], i, _ => by simp [TsAre]
  | v :: vs, p :: ps, 0, _ => by simp [TsAre]
  | v :: vs, p :: ps, i + 1, h => ⟨h.1, TsAre.take i h.2⟩
def sumLen : List (List Nat) → Nat
  | [] => 0
  | p :: ps => p.length + sumLen ps
theorem weight_foldB (ps : List (List Nat)) : ∀ a : Nat, (ps.map bs).foldl (fun x1 x2 => x1 + Array.size x2) a = a + sumLen ps := by
  induction ps with
  | nil => intro a; rfl
  | cons p ps ih => intro a; rw [List.map_cons, List.foldl_cons, ih, bs_size]; simp [sumLen]; omega
theorem weight_parts (ps : List (List Nat)) : sumLen ps + ps.length = weightS ps := by
  induction ps with
  | nil => rfl
  | cons p ps ih => simp only [sumLen, weightS, List.length_cons]; omega
theorem joinS_weight (ps : List (List Nat)) : (joinS ps).length ≤ weightS ps := by
  induction ps with
  | nil => simp [joinS, weightS]
  | cons p ps ih =>
    cases ps with
    | nil => simp [joinS, weightS]
    | cons q qs => rw [joinS_cons (by simp)]; simp [weightS] at ih ⊢; omega
theorem join_b (hl : s.heap.IsList D vs.toArray) (hv : TsAre true vs ps) (hw : weightS ps ≤ 1000000) {Q : Value → Shared → Prop} (h : ∀ t' k, Q (.bytes (bs (joinS ps)) t') { s with toks := k }) :
    wpAny (model prog w) A (call (.builtin "bytes.join") [.bytes (bs [47]) t, .ref D]) Q E s := by
  refine call_meets (S := fun _ R s' => s' = s ∧ ∀ t' k, R (.ok (.ret (.bytes (bs (joinS ps)) t'))) { s with toks := k })
    slot_bytes_join (typeIs_bytes _ _ _) entry_bytes_join (args_bytes_join_2 _ _) (.of_wp fun prog w A R s' hS => ?_) ⟨rfl, h⟩
  obtain ⟨rfl, h⟩ := hS
  obtain ⟨⟨cls, dict, data, slots⟩, ho, hc, n, hd⟩ := id hl
  dsimp only at hc hd
  subst hc hd
  have hT : s'.TypeIs (.ref D) "list" := ⟨_, ho, rfl⟩
  rcases vs with _ | ⟨v, _ | ⟨v', r⟩⟩
  · match ps, hv with
    | [], _ =>
      repeat (any_goals (first | assumption | (with_reducible refine wpAny_of_eq KBy.buffer_eq ?_) | (with_reducible refine range_at ?_) | wp_step))
      refine range_run (fun i b s₂ => s₂ = s' ∧ b = (#[], [])) ⟨rfl, rfl⟩ (fun i b s₂ hi _ => absurd hi (Nat.not_lt_zero _)) ?_
      rintro b s₂ ⟨rfl, rfl⟩
      repeat (any_goals (first | assumption | (with_reducible refine wpAny_of_eq KBy.buffer_eq ?_) | (with_reducible refine range_at ?_) | wp_step))
      exact ⟨_, rfl, h _ _⟩
  · match ps, hv with
    | [p], hv =>
      obtain ⟨⟨t', rfl⟩, _⟩ := hv
      have h1 := h t' s'.toks
      repeat (any_goals (first | assumption | (with_reducible refine wpAny_of_eq KBy.buffer_eq ?_) | (with_reducible refine range_at ?_) | wp_step))
      exact ⟨_, rfl, h1⟩
  · have hlen := hv.len
    repeat (any_goals (first | assumption | (with_reducible refine wpAny_of_eq KBy.buffer_eq ?_) | (with_reducible refine range_at ?_) | wp_step))
    generalize v :: v' :: r = vs at *
    refine range_run (fun i b s₂ => s₂ = s' ∧ b = (((ps.take i).map bs).toArray, takenOf (vs.take i))) ⟨rfl, by simp [takenOf]⟩ ?_ ?_
    · rintro i b s₂ hi ⟨rfl, rfl⟩
      have hi' : i < vs.length := by simpa using hi
      obtain ⟨p, tp, hp, hvp⟩ := hv.get (List.getElem?_eq_getElem hi')
      have hnh := (hv.take i).noHeap
      have hgd : vs.toArray.getD i .none = .bytes (bs p) tp := by
        have e1 : vs.toArray.getD i .none = vs[i] := by simp [hi']
        rw [e1, hvp]; rfl
      dsimp only
      have hs : (ps.take (i + 1)).map bs = (ps.take i).map bs ++ [bs p] := by rw [List.take_add_one, hp]; simp
      have ht : takenOf (vs.take (i + 1)) = takenOf (vs.take i) ++ [(.bytes (bs p) tp, none)] := by
        rw [List.take_add_one, List.getElem?_eq_getElem hi', hvp]; simp [takenOf, T]
      repeat (any_goals (first | assumption | ((with_reducible refine wpAny_ite ?_); rw [if_neg (by rw [hnh]; decide)]) | (rw [hgd]) | (with_reducible refine wpAny_of_eq take_eq ?_) | (with_reducible refine range_at ?_) | wp_step))
      exact ⟨_, rfl, rfl, by rw [hs, ht]; simp⟩
    · rintro b s₂ ⟨rfl, rfl⟩
      have e1 : (ps.take vs.toArray.size).map bs = ps.map bs := by rw [List.take_of_length_le (by simp [hlen])]
      have e2 : vs.take vs.toArray.size = vs := by rw [List.take_of_length_le (by simp)]
      rw [e1, e2]
      dsimp only
      have hz : Bytes.tooLong (Array.foldl (fun x1 x2 => x1 + Array.size x2) ((bs [47]).size * ((ps.map bs).toArray.size - 1)) (ps.map bs).toArray) = false := by
        rw [List.foldl_toArray, weight_foldB]
        apply KBy.tooLong_not
        have := weight_parts ps
        simp only [bs_size, List.size_toArray, List.length_map, List.length_cons, List.length_nil]
        omega
      refine wpAny_ite ?_
      rw [if_neg (by rw [hz]; decide)]
      have hj : (joinS ps).length ≤ weightS ps := joinS_weight ps
      rw [joined_is]
      refine wpAny_bind (wpAny_mkBytes ?_ (by rw [bs_size, sizeLine_eq]; omega))
      refine wpAny_bind (wpAny_holding (wpAny_point ?_))
      refine wpAny_bind (letGo_run _ ?_ vs)
      exact wpAny_pure ⟨_, rfl, h _ _⟩
end
section
variable {prog : Program} {w : World} {A : Around} {E : Value → Shared → Prop} {s : Shared} {value slice : Expr} {x : List Nat} {t : Tok} {h₀ : Heap} {L : Addr} {m : Str → Option Value} {news : Led} {Q : Value → Shared → Prop} {i j : Nat} {ui uj : Tok}
theorem cutS_ns (hF : Fr h₀ L s.heap m) (hN : News h₀ L s.heap news) (hx : Ok x) (h : ∀ h' t' k, Fr h₀ L h' m → News h₀ L h' news → Q (.str (st (x.take j)) t') { s with heap := h', toks := k })
    (hs : subscripted slice false (.str (st x) t) (.ref s.heap.objs.size) = operate [.ref s.heap.objs.size, .str (st x) t] (getItem (.str (st x) t) (.ref s.heap.objs.size)) := by with_unfolding_all rfl)
    (ht : ∀ r, letTemporaryGo value (.str (st x) t) r = pure () := by intro _; with_unfolding_all rfl) :
    wpAny (model prog w) A (subscriptTail value slice (.str (st x) t) (.ref s.heap.objs.size)) Q E { s with heap := s.heap.push { cls := .type "slice", data := .fields #[.none, .int (j : Int) uj, .none] } } := by
  have hl := hx.len
  refine slice_strN_ns hF hN (fun h' t' k a b => ?_) hs ht (by rw [st_len, sizeLine_eq]; omega)
  rw [slice_ns]; exact h h' t' k a b
theorem cutS_sn (hF : Fr h₀ L s.heap m) (hN : News h₀ L s.heap news) (hx : Ok x) (h : ∀ h' t' k, Fr h₀ L h' m → News h₀ L h' news → Q (.str (st (x.drop i)) t') { s with heap := h', toks := k })
    (hs : subscripted slice false (.str (st x) t) (.ref s.heap.objs.size) = operate [.ref s.heap.objs.size, .str (st x) t] (getItem (.str (st x) t) (.ref s.heap.objs.size)) := by with_unfolding_all rfl)
    (ht : ∀ r, letTemporaryGo value (.str (st x) t) r = pure () := by intro _; with_unfolding_all rfl) :
    wpAny (model prog w) A (subscriptTail value slice (.str (st x) t) (.ref s.heap.objs.size)) Q E { s with heap := s.heap.push { cls := .type "slice", data := .fields #[.int (i : Int) ui, .none, .none] } } := by
  have hl := hx.len
  refine slice_strN_sn hF hN (fun h' t' k a b => ?_) hs ht (by rw [st_len, sizeLine_eq]; omega)
  rw [slice_sn]; exact h h' t' k a b
theorem cutS_ss (hF : Fr h₀ L s.heap m) (hN : News h₀ L s.heap news) (hx : Ok x) (hij : i ≤ j) (h : ∀ h' t' k, Fr h₀ L h' m → News h₀ L h' news → Q (.str (st ((x.drop i).take (j - i))) t') { s with heap := h', toks := k })
    (hs : subscripted slice false (.str (st x) t) (.ref s.heap.objs.size) = operate [.ref s.heap.objs.size, .str (st x) t] (getItem (.str (st x) t) (.ref s.heap.objs.size)) := by with_unfolding_all rfl)
    (ht : ∀ r, letTemporaryGo value (.str (st x) t) r = pure () := by intro _; with_unfolding_all rfl) :
    wpAny (model prog w) A (subscriptTail value slice (.str (st x) t) (.ref s.heap.objs.size)) Q E { s with heap := s.heap.push { cls := .type "slice", data := .fields #[.int (i : Int) ui, .int (j : Int) uj, .none] } } := by
  have hl := hx.len
  refine slice_strN_ss hF hN (fun h' t' k a b => ?_) hs ht (by rw [st_len, sizeLine_eq]; omega)
  rw [slice_ss x i j hij]; exact h h' t' k a b
theorem cutB (lo hi : Option Int) {l u : Value} {y : List Nat} (hF : Fr h₀ L s.heap m) (hN : News h₀ L s.heap news) (hx : Ok x) (hl : IsPart l lo) (hu : IsPart u hi) (hy : KBy.picked (bs x) lo hi = bs y)
    (h : ∀ h' t' k, Fr h₀ L h' m → News h₀ L h' news → Q (.bytes (bs y) t') { s with heap := h', toks := k })
    (hs : subscripted slice false (.bytes (bs x) t) (.ref s.heap.objs.size) = operate [.ref s.heap.objs.size, .bytes (bs x) t] (getItem (.bytes (bs x) t) (.ref s.heap.objs.size)) := by with_unfolding_all rfl)
    (ht : ∀ r, letTemporaryGo value (.bytes (bs x) t) r = pure () := by intro _; with_unfolding_all rfl) :
    wpAny (model prog w) A (subscriptTail value slice (.bytes (bs x) t) (.ref s.heap.objs.size)) Q E { s with heap := s.heap.push { cls := .type "slice", data := .fields #[l, u, .none] } } := by
  have hn := hx.len
  refine KBc.slice_K hF hN rfl hl hu (by rw [KBw.ints_length, bs_size]; omega) (fun h' t' k a b _ => ?_) hs ht
  rw [hy]; exact h h' t' k a b
end
local macro_rules | `(tactic| walk_at "call builtin:issubclass") => `(tactic| (k_here; (with_reducible show wpAny _ _ (call (Value.builtin "issubclass") [Value.type _, Value.ref _]) _ _ _); k_dflt (first
  | (refine' issub_tuple meta_str sub_ss sub_sb ?k1 ?_; (case k1 => (refine' News.get ?N ?m; (case N => k_asm); (case m => k_mem))))
  | (refine' issub_tuple meta_bytes sub_bs sub_bb ?k1 ?_; (case k1 => (refine' News.get ?N ?m; (case N => k_asm); (case m => k_mem)))))))
local macro_rules | `(tactic| walk_at "call type:type") => `(tactic| (k_here; (with_reducible show wpAny _ _ (call (Value.type "type") [Value.bytes _ _]) _ _ _); (refine call_type_of (typeIs_bytes _ _ _) (by decide) ?_)))
theorem fspath_con (w : World) (o : Bool) (x : List Nat) (t : Tok) : Con w 94 1 [T o x t] (fun _ => True) (fun _ _ v => v = T o x t) := by
  w_top off
  unfold Con
  k_fill
  cases o <;> dsimp only [T]
  all_goals
    intros; rename_i hret
    refine wpAny_call ?_
    k_dflt (refine' code_ground ?k1 ?k2 ?k3 ?k5 ?kA ?kF ?kK ?k6 ?k7 ?k8 ?k9 ?kB ?_ ?c2 ?c3 ?c4 ?c5; (case kA => exact rfl); (case kF => exact rfl); (case kK => assumption); (case k1 => k_asm); (case k2 => k_asm); (case k3 => k_asm); (case k5 => k_asm); (case k6 => k_is); (case k7 => k_is); (case k8 => ktr_room); (case k9 => exact BindsTo.of_eq rfl); (case c5 => decide); (case kB => exact locs rfl); (case c2 => exact rfl); (case c3 => exact rfl); (case c4 => exact rfl); k_whole; intro L' h' F' N' B' X' T'; (try dsimp only); (try k_fold))
    k_steps
    all_goals exact hret _ _ _ rfl (Fr.keep (by k_asm))
local macro_rules | `(tactic| walk_at "call ref") => `(tactic| (k_here; (with_reducible show wpAny _ _ (call (Value.ref 94) [Value.str _ _]) _ _ _); k_dflt (refine' Con.use (fspath_con _ false _ _) ?k1 ?k2 ?k3 ?k4 ?k5 ?kK ?kd ?ku ?kp ?_; (case k1 => k_asm); (case k2 => k_asm); (case k3 => k_asm); (case k4 => k_asm); (case k5 => k_asm); (case kK => first | exact rfl | assumption); (case kd => ktr_room); (case ku => ktr_units); (case kp => trivial)); intro v9 h9 tk9 hO9 hk9 F9 N9; (clear hk9); (subst hO9); (try dsimp only [T]); (try k_fold)))
local macro_rules | `(tactic| walk_at "call ref") => `(tactic| (k_here; (with_reducible show wpAny _ _ (call (Value.ref 94) [Value.bytes _ _]) _ _ _); k_dflt (refine' Con.use (fspath_con _ true _ _) ?k1 ?k2 ?k3 ?k4 ?k5 ?kK ?kd ?ku ?kp ?_; (case k1 => k_asm); (case k2 => k_asm); (case k3 => k_asm); (case k4 => k_asm); (case k5 => k_asm); (case kK => first | exact rfl | assumption); (case kd => ktr_room); (case ku => ktr_units); (case kp => trivial)); intro v9 h9 tk9 hO9 hk9 F9 N9; (clear hk9); (subst hO9); (try dsimp only [T]); (try k_fold)))
local macro_rules | `(tactic| walk_at "eval Constant str") => `(tactic| first | refine const_s [47] (by decide) ?_ | refine const_s [46] (by decide) ?_ | refine const_s [46, 46] (by decide) ?_ | refine const_s [] (by decide) ?_ | refine const_s [47, 47] (by decide) ?_)
local macro_rules | `(tactic| walk_at "eval Constant bytes") => `(tactic| first | refine const_b [47] (by decide) ?_ | refine const_b [46] (by decide) ?_ | refine const_b [46, 46] (by decide) ?_ | refine const_b [] (by decide) ?_)
theorem getsep_con (w : World) (o : Bool) (x : List Nat) (t : Tok) : Con w 108 1 [T o x t] (fun _ => True) (isT o [47]) := by
  w_top off
  unfold Con
  k_fill
  cases o <;> dsimp only [T]
  all_goals
    intros; rename_i hret
    refine wpAny_call ?_
    k_dflt (refine' code_ground ?k1 ?k2 ?k3 ?k5 ?kA ?kF ?kK ?k6 ?k7 ?k8 ?k9 ?kB ?_ ?c2 ?c3 ?c4 ?c5; (case kA => exact rfl); (case kF => exact rfl); (case kK => assumption); (case k1 => k_asm); (case k2 => k_asm); (case k3 => k_asm); (case k5 => k_asm); (case k6 => k_is); (case k7 => k_is); (case k8 => ktr_room); (case k9 => exact BindsTo.of_eq rfl); (case c5 => decide); (case kB => exact locs rfl); (case c2 => exact rfl); (case c3 => exact rfl); (case c4 => exact rfl); k_whole; intro L' h' F' N' B' X' T'; (try dsimp only); (try k_fold))
    k_steps
    all_goals exact hret _ _ _ ⟨_, rfl⟩ (Fr.keep (by k_asm))
local macro_rules | `(tactic| walk_at "call ref") => `(tactic| (k_here; (with_reducible show wpAny _ _ (call (Value.ref 108) [Value.str _ _]) _ _ _); k_dflt (refine' Con.useT (getsep_con _ false _ _) ?k1 ?k2 ?k3 ?k4 ?k5 ?kK ?kd ?ku ?kp ?_; (case k1 => k_asm); (case k2 => k_asm); (case k3 => k_asm); (case k4 => k_asm); (case k5 => k_asm); (case kK => first | exact rfl | assumption); (case kd => ktr_room); (case ku => ktr_units); (case kp => trivial)); intro t9 h9 tk9 F9 N9; (try dsimp only [T]); (try k_fold)))
local macro_rules | `(tactic| walk_at "call ref") => `(tactic| (k_here; (with_reducible show wpAny _ _ (call (Value.ref 108) [Value.bytes _ _]) _ _ _); k_dflt (refine' Con.useT (getsep_con _ true _ _) ?k1 ?k2 ?k3 ?k4 ?k5 ?kK ?kd ?ku ?kp ?_; (case k1 => k_asm); (case k2 => k_asm); (case k3 => k_asm); (case k4 => k_asm); (case k5 => k_asm); (case kK => first | exact rfl | assumption); (case kd => ktr_room); (case ku => ktr_units); (case kp => trivial)); intro t9 h9 tk9 F9 N9; (try dsimp only [T]); (try k_fold)))
local macro_rules | `(tactic| ktr_rel) => `(tactic| first | assumption | exact Ok.nil | exact Ok.one (by decide) | exact ⟨by decide, by decide⟩ | (refine Ok.take ?_ _; ktr_rel) | (refine Ok.drop ?_ _; ktr_rel))
local macro_rules | `(tactic| walk_at "getMethod bytes") => `(tactic| first | refine gm_sw ?_ | refine gm_ew ?_ | refine gm_split ?_ | refine gm_join ?_)
local macro_rules | `(tactic| walk_at "call builtin:str.startswith") => `(tactic| (refine sw_s _ ?_))
local macro_rules | `(tactic| walk_at "call builtin:bytes.startswith") => `(tactic| (refine sw_b _ (by ktr_rel) ?_))
local macro_rules | `(tactic| walk_at "call builtin:str.endswith") => `(tactic| (refine ew_s _ ?_))
local macro_rules | `(tactic| walk_at "call builtin:bytes.endswith") => `(tactic| (refine ew_b _ (by ktr_rel) ?_))
local macro_rules | `(tactic| walk_at "truthy str") => `(tactic| (refine tr_s _ (by ktr_rel) ?_; intro _))
local macro_rules | `(tactic| walk_at "truthy bytes") => `(tactic| (refine tr_b _ (by ktr_rel) ?_; intro _))
local macro_rules | `(tactic| walk_at "binaryOp Add str str") => `(tactic| (refine add_s _ _ (by ktr_rel) (by ktr_rel) ?_; intro _ _))
local macro_rules | `(tactic| walk_at "binaryOp Add bytes bytes") => `(tactic| (refine add_b _ _ (by ktr_rel) (by ktr_rel) ?_; intro _ _))
local macro_rules | `(tactic| walk_at "inplaceOp Add str str") => `(tactic| (refine iadd_s _ _ (by ktr_rel) (by ktr_rel) ?_; intro _ _))
local macro_rules | `(tactic| walk_at "inplaceOp Add bytes bytes") => `(tactic| (refine iadd_b _ _ (by ktr_rel) (by ktr_rel) ?_; intro _ _))
local macro_rules | `(tactic| walk_at "compareOp Eq str str") => `(tactic| (refine eq_s _ _ ?_))
local macro_rules | `(tactic| walk_at "compareOp Eq bytes bytes") => `(tactic| (refine eq_b _ _ (by ktr_rel) (by ktr_rel) ?_))
local macro_rules | `(tactic| walk_at "compareOp NotEq str str") => `(tactic| (refine ne_s _ _ ?_))
local macro_rules | `(tactic| walk_at "compareOp NotEq bytes bytes") => `(tactic| (refine ne_b _ _ (by ktr_rel) (by ktr_rel) ?_))
local macro_rules | `(tactic| walk_at "subscriptTail Name Slice str ref") => `(tactic| ((with_reducible rename Fr _ _ _ _ => F'); (with_reducible rename News _ _ _ _ => N'); (first
  | ((with_reducible show wpAny _ _ (subscriptTail _ (Expr.Slice none (some _) none _) _ _) _ _ _); first | refine cutS_ns (j := 1) (s := ⟨_, _, _, _, _⟩) F' N' (by ktr_rel) ?_ | refine cutS_ns (j := 2) (s := ⟨_, _, _, _, _⟩) F' N' (by ktr_rel) ?_)
  | ((with_reducible show wpAny _ _ (subscriptTail _ (Expr.Slice (some _) none none _) _ _) _ _ _); first | refine cutS_sn (i := 1) (s := ⟨_, _, _, _, _⟩) F' N' (by ktr_rel) ?_ | refine cutS_sn (i := 2) (s := ⟨_, _, _, _, _⟩) F' N' (by ktr_rel) ?_)
  | ((with_reducible show wpAny _ _ (subscriptTail _ (Expr.Slice (some _) (some _) none _) _ _) _ _ _); first | refine cutS_ss (i := 1) (j := 2) (s := ⟨_, _, _, _, _⟩) F' N' (by ktr_rel) (by decide) ?_ | refine cutS_ss (i := 2) (j := 3) (s := ⟨_, _, _, _, _⟩) F' N' (by ktr_rel) (by decide) ?_)); intro _ _ _ F' N'))
local macro_rules | `(tactic| walk_at "subscriptTail Name Slice bytes ref") => `(tactic| ((with_reducible rename Fr _ _ _ _ => F'); (with_reducible rename News _ _ _ _ => N'); (first
  | ((with_reducible show wpAny _ _ (subscriptTail _ (Expr.Slice none (some _) none _) _ _) _ _ _); first | refine cutB none (some ((1 : Nat) : Int)) (s := ⟨_, _, _, _, _⟩) F' N' (by ktr_rel) (by constructor) (by constructor) (picked_ns _ 1) ?_ | refine cutB none (some ((2 : Nat) : Int)) (s := ⟨_, _, _, _, _⟩) F' N' (by ktr_rel) (by constructor) (by constructor) (picked_ns _ 2) ?_)
  | ((with_reducible show wpAny _ _ (subscriptTail _ (Expr.Slice (some _) none none _) _ _) _ _ _); first | refine cutB (some ((1 : Nat) : Int)) none (s := ⟨_, _, _, _, _⟩) F' N' (by ktr_rel) (by constructor) (by constructor) (picked_sn _ 1) ?_ | refine cutB (some ((2 : Nat) : Int)) none (s := ⟨_, _, _, _, _⟩) F' N' (by ktr_rel) (by constructor) (by constructor) (picked_sn _ 2) ?_)
  | ((with_reducible show wpAny _ _ (subscriptTail _ (Expr.Slice (some _) (some _) none _) _ _) _ _ _); first | refine cutB (some ((1 : Nat) : Int)) (some ((2 : Nat) : Int)) (s := ⟨_, _, _, _, _⟩) F' N' (by ktr_rel) (by constructor) (by constructor) (picked_ss _ 1 2) ?_ | refine cutB (some ((2 : Nat) : Int)) (some ((3 : Nat) : Int)) (s := ⟨_, _, _, _, _⟩) F' N' (by ktr_rel) (by constructor) (by constructor) (picked_ss _ 2 3) ?_)); intro _ _ _ F' N'))
def pjoin (a b : List Nat) : List Nat := if b.head? = some 47 ∨ a = [] then b else if a.getLast? = some 47 then a ++ b else a ++ 47 :: b
section
variable {x y : List Nat}
theorem pj1 (h : y.head? = some 47) : pjoin x y = y := by simp [pjoin, h]
theorem pj2 (h : ¬ y.head? = some 47) (hx : x.isEmpty = true) : pjoin x y = y := by simp at hx; simp [pjoin, hx]
theorem pj3 (h : ¬ y.head? = some 47) (hx : x.isEmpty = false) (hl : x.getLast? = some 47) : pjoin x y = x ++ y := by simp at hx; simp [pjoin, h, hx, hl]
theorem pj4 (h : ¬ y.head? = some 47) (hx : x.isEmpty = false) (hl : ¬ x.getLast? = some 47) : pjoin x y = x ++ ([47] ++ y) := by simp at hx; simp [pjoin, h, hx, hl]
end
theorem join_con (w : World) (o : Bool) (x y : List Nat) (t u : Tok) (hx : Ok x) (hy : Ok y) (hxy : Ok (47 :: y)) : Con w 115 3 [T o x t, T o y u] (fun _ => True) (isT o (pjoin x y)) := by
  w_top off
  unfold Con
  k_fill
  cases o <;> dsimp only [T]
  all_goals
    intros; rename_i hret
    refine wpAny_call ?_
    k_dflt (refine' rest_ground ?k1 ?k2 ?k3 ?k5 ?kA ?kF ?kK ?k6 ?k7 ?k8 ?kV ?kP ?kG ?kB ?_ ?c2 ?c3 ?c4 ?c5; (case kA => exact rfl); (case kF => exact rfl); (case kK => assumption); (case k1 => k_asm); (case k2 => k_asm); (case k3 => k_asm); (case k5 => k_asm); (case k6 => k_is); (case k7 => k_is); (case k8 => ktr_room); (case kV => kl_lit); (case kP => exact rfl); (case kG => exact fun _ => rfl); (case kB => exact fun _ => locs rfl); (case c5 => decide); (case c2 => exact rfl); (case c3 => exact rfl); (case c4 => exact rfl); k_whole; intro D' L' h' F' N' B' X' T'; (try dsimp only); (try k_fold))
    k_steps
    all_goals (try dsimp only)
    k_steps
    all_goals (refine hret _ _ _ ?_ (Fr.keep (by k_asm)))
    all_goals (first | refine isT_s ?_ | refine isT_b ?_)
    all_goals (first | exact (pj1 (by assumption)).symm | exact (pj2 (by assumption) (by assumption)).symm | exact (pj3 (by assumption) (by assumption) (by assumption)).symm | exact (pj4 (by assumption) (by assumption) (by assumption)).symm)
def rootOf (x : List Nat) : List Nat := if ¬ x.take 1 = [47] then [] else if ¬ (x.drop 1).take 1 = [47] ∨ (x.drop 2).take 1 = [47] then [47] else x.take 2
def restOf (x : List Nat) : List Nat := if ¬ x.take 1 = [47] then x else if ¬ (x.drop 1).take 1 = [47] ∨ (x.drop 2).take 1 = [47] then x.drop 1 else x.drop 2
section
variable {x : List Nat}
theorem sr1 (h : ¬ List.take 1 x = [47]) : rootOf x = [] ∧ restOf x = x := by simp [rootOf, restOf, h]
theorem sr2 (h : List.take 1 x = [47]) (h2 : ¬ List.take (2 - 1) (List.drop 1 x) = [47]) : rootOf x = [47] ∧ restOf x = x.drop 1 := by
  have h2' : ¬ List.take 1 (List.drop 1 x) = [47] := h2
  unfold rootOf restOf; rw [if_neg (not_not_intro h), if_neg (not_not_intro h), if_pos (.inl h2'), if_pos (.inl h2')]; exact ⟨rfl, rfl⟩
theorem sr3 (h : List.take 1 x = [47]) (h2 : List.take (2 - 1) (List.drop 1 x) = [47]) (h3 : List.take (3 - 2) (List.drop 2 x) = [47]) : rootOf x = [47] ∧ restOf x = x.drop 1 := by
  have h3' : List.take 1 (List.drop 2 x) = [47] := h3
  unfold rootOf restOf; rw [if_neg (not_not_intro h), if_neg (not_not_intro h), if_pos (.inr h3'), if_pos (.inr h3')]; exact ⟨rfl, rfl⟩
theorem sr4 (h : List.take 1 x = [47]) (h2 : List.take (2 - 1) (List.drop 1 x) = [47]) (h3 : ¬ List.take (3 - 2) (List.drop 2 x) = [47]) : rootOf x = x.take 2 ∧ restOf x = x.drop 2 := by
  have h2' : List.take 1 (List.drop 1 x) = [47] := h2
  have h3' : ¬ List.take 1 (List.drop 2 x) = [47] := h3
  have h4 : ¬ (¬ List.take 1 (List.drop 1 x) = [47] ∨ List.take 1 (List.drop 2 x) = [47]) := fun e => e.elim (fun e => e h2') h3'
  unfold rootOf restOf; rw [if_neg (not_not_intro h), if_neg (not_not_intro h), if_neg h4, if_neg h4]; exact ⟨rfl, rfl⟩
end
theorem splitroot_con (w : World) (o : Bool) (x : List Nat) (t : Tok) (hx : Ok x) : Con w 122 2 [T o x t] (fun _ => True) (isTup3 o [] (rootOf x) (restOf x)) := by
  w_top off
  unfold Con
  k_fill
  cases o <;> dsimp only [T]
  all_goals
    intros; rename_i hret
    refine wpAny_call ?_
    k_dflt (refine' code_ground ?k1 ?k2 ?k3 ?k5 ?kA ?kF ?kK ?k6 ?k7 ?k8 ?k9 ?kB ?_ ?c2 ?c3 ?c4 ?c5; (case kA => exact rfl); (case kF => exact rfl); (case kK => assumption); (case k1 => k_asm); (case k2 => k_asm); (case k3 => k_asm); (case k5 => k_asm); (case k6 => k_is); (case k7 => k_is); (case k8 => ktr_room); (case k9 => exact BindsTo.of_eq rfl); (case c5 => decide); (case kB => exact locs rfl); (case c2 => exact rfl); (case c3 => exact rfl); (case c4 => exact rfl); k_whole; intro L' h' F' N' B' X' T'; (try dsimp only); (try k_fold))
    k_steps
    all_goals (try dsimp only)
    k_steps
    all_goals (refine hret _ _ _ ?_ (Fr.keep (by k_asm)))
    all_goals (rename News _ _ _ _ => NN; first
      | exact isTup3_eq (sr1 (by assumption)).1.symm (sr1 (by assumption)).2.symm (isTup3_of NN (by k_mem) rfl)
      | exact isTup3_eq (sr2 (by assumption) (by assumption)).1.symm (sr2 (by assumption) (by assumption)).2.symm (isTup3_of NN (by k_mem) rfl)
      | exact isTup3_eq (sr3 (by assumption) (by assumption) (by assumption)).1.symm (sr3 (by assumption) (by assumption) (by assumption)).2.symm (isTup3_of NN (by k_mem) rfl)
      | exact isTup3_eq (sr4 (by assumption) (by assumption) (by assumption)).1.symm (sr4 (by assumption) (by assumption) (by assumption)).2.symm (isTup3_of NN (by k_mem) rfl))
theorem splitroot_con' (w : World) (o : Bool) (x r : List Nat) (t : Tok) (hx : Ok x) (hr : rootOf x = r) : Con w 122 2 [T o x t] (fun _ => True) (isTup3 o [] r (restOf x)) := by
  rw [← hr]; exact splitroot_con w o x t hx
section
variable {prog : Program} {w : World} {A : Around} {E : Value → Shared → Prop} {s : Shared} {env : Env} {h₀ : Heap} {x : Str} {body : List Stmt} {Q : Flow → Shared → Prop}
/-- a turn's end: the list d holds names', all else stands -/
def TurnNames (h₀ : Heap) (L : Addr) (x : Str) (m₀ : Str → Option Value) (d : Addr) (cst own : Led) (o : Bool) (names' : List (List Nat)) (s₁ : Shared) (f : Flow) (s₂ : Shared) : Prop :=
  (f = .next ∨ f = .cont) ∧ ∃ h' tk m' vs' n' news', s₂ = { s₁ with heap := h', toks := tk } ∧ Fr h₀ L h' m' ∧ (∀ z, z ≠ x → m' z = m₀ z) ∧ News h₀ L h' news' ∧ (d, listOf (List.toArray vs') n') ∈ news' ∧ TsAre o vs' names' ∧ (∀ p ∈ cst, p ∈ news') ∧ (∀ p ∈ own, p ∈ news')
theorem TurnNames.intro {L : Addr} {m₀ m' : Str → Option Value} {d : Addr} {cst own news' : Led} {o : Bool} {names names' : List (List Nat)} {s₁ : Shared} {f : Flow} {h' : Heap} {tk : Nat} {vs' : List Value} {n' : Nat} (hf : f = .next ∨ f = .cont) (F : Fr h₀ L h' m') (N : News h₀ L h' news') (hm : ∀ z, z ≠ x → m' z = m₀ z) (hd : (d, listOf vs'.toArray n') ∈ news')
    (hv : TsAre o vs' names) (e : names = names') (hc : ∀ p ∈ cst, p ∈ news') (ho : ∀ p ∈ own, p ∈ news') : TurnNames h₀ L x m₀ d cst own o names' s₁ f { s₁ with heap := h', toks := tk } :=
  ⟨hf, h', tk, m', vs', n', news', rfl, F, hm, N, hd, e ▸ hv, hc, ho⟩
theorem loop_acc {o : Bool} {l d : Addr} {vs vs₀ : List Value} {ps z : List (List Nat)} {nn n₀ : Nat} {m₀ : Str → Option Value} {cst : Led} (step : List (List Nat) → List Nat → List (List Nat))
    (hh : A.handled = none) (hl : (l, listOf vs.toArray nn) ∈ cst) (hv : TsAre o vs ps) (F : Fr h₀ env.locals s.heap m₀) (N : News h₀ env.locals s.heap ((d, listOf vs₀.toArray n₀) :: cst)) (h0 : TsAre o vs₀ z)
    (turn : ∀ p t (before : List (List Nat)) vs₁ n₁ h tk own, p ∈ ps → (∀ q ∈ before, q ∈ ps) → before.length ≤ ps.length → TsAre o vs₁ (before.foldl step z) → OwnOff own (d :: cst.map (·.1)) → Fr h₀ env.locals h (fun y => if y = x then some (T o p t) else m₀ y) → News h₀ env.locals h (((d, listOf vs₁.toArray n₁) :: cst) ++ own) →
      wpAny (model prog w) A (execs body env) (TurnNames h₀ env.locals x m₀ d cst own o (step (before.foldl step z) p) { s with heap := h, toks := tk }) E { s with heap := h, toks := tk })
    (done : ∀ (u : Str → Option Value) vs₁ n₁ h tk, TsAre o vs₁ (ps.foldl step z) → Fr h₀ env.locals h (fun y => if y = x then u y else m₀ y) → News h₀ env.locals h ((d, listOf vs₁.toArray n₁) :: cst) → Q .next { s with heap := h, toks := tk }) :
    wpAny (model prog w) A (pyIter (.ref l)) (fun it s₂ => LoopAtV prog w A h₀ env x body Q E it s₂) E s := by
  refine kdl_iter (fun i m nx => ∃ vs₁ n₁, nx = (d, listOf (List.toArray vs₁) n₁) :: cst ∧ TsAre o vs₁ ((ps.take i).foldl step z) ∧ ∀ y, y ≠ x → m y = m₀ y) hh (List.mem_cons_of_mem _ hl) F N ⟨vs₀, n₀, rfl, by simpa using h0, fun _ _ => rfl⟩ ?_ ?_
  · rintro i v m₁ nx h tk own hiv hoff _ ⟨vs₁, n₁, rfl, hv₁, hm⟩ F₁ N₁
    obtain ⟨p, t, hp, rfl⟩ := hv.get hiv
    have e : (fun y => if y = x then some (T o p t) else m₁ y) = fun y => if y = x then some (T o p t) else m₀ y := by
      funext y
      by_cases h1 : y = x
      · simp [h1]
      · simp only [if_neg h1]; exact hm y h1
    rw [e] at F₁
    have hs : (ps.take (i + 1)).foldl step z = step ((ps.take i).foldl step z) p := by
      rw [List.take_add_one, hp]; simp
    rw [hs]
    refine wpAny_mono (turn p t (ps.take i) vs₁ n₁ h tk own (List.mem_of_getElem? hp) (fun q hq => List.mem_of_mem_take hq) (by simp; omega) hv₁ hoff F₁ N₁) (fun f s₂ hT => ?_) fun _ _ e => e
    obtain ⟨hf, h', tk', m', vs', n', news', e2, F', hm', N', hd', hv', hc', ho'⟩ := hT
    have fin : InvEndG h₀ env.locals (fun m' nx => (l, listOf vs.toArray nn) ∈ nx ∧ ∃ vs₁ n₁, nx = (d, listOf (List.toArray vs₁) n₁) :: cst ∧ TsAre o vs₁ (step ((ps.take i).foldl step z) p) ∧ ∀ y, y ≠ x → m' y = m₀ y) own { s with heap := h, toks := tk } s₂ := by
      refine ⟨h', tk', m', news', (d, listOf vs'.toArray n') :: cst, e2, F', N', ?_, ho', ?_, List.mem_cons_of_mem _ hl, vs', n', rfl, hv', hm'⟩
      · intro q hq
        rcases List.mem_cons.mp hq with rfl | hq
        · exact hd'
        · exact hc' q hq
      · exact hoff
    rcases hf with rfl | rfl
    · exact fin
    · exact fin
  · rintro m₁ nx h tk ⟨vs₁, n₁, rfl, hv₁, hm⟩ F₁ N₁
    rw [hv.len, List.take_length] at hv₁
    refine done m₁ vs₁ n₁ h tk hv₁ ?_ N₁
    have e : (fun y => if y = x then m₁ y else m₀ y) = m₁ := by
      funext y
      by_cases h1 : y = x
      · simp [h1]
      · simp only [if_neg h1]; exact (hm y h1).symm
    rw [e]; exact F₁
end
section
variable {prog : Program} {w : World} {A : Around} {E : Value → Shared → Prop} {s : Shared} {h₀ : Heap} {L D : Addr} {m : Str → Option Value} {news news' : Led} {n : Nat} {vs : List Value} {ps : List (List Nat)} {o : Bool}
theorem TsAre.isEmpty (hv : TsAre o vs ps) : vs.isEmpty = ps.isEmpty := by
  have := hv.len
  cases vs <;> cases ps <;> simp_all
theorem tr_list {Q : Bool → Shared → Prop} (N : News h₀ L s.heap news) (hm : (D, listOf vs.toArray n) ∈ news) (hv : TsAre o vs ps) (hb : ps.length ≤ 1000000) (h : ∀ k, Q (!ps.isEmpty) { s with toks := k }) : wpAny (model prog w) A (truthy (.ref D)) Q E s :=
  kgr_truthy N hm rfl rfl (by rw [hv.len]; omega) (by rw [hv.isEmpty]; exact h _)
theorem app_list {x : Value} {Q : Value → Shared → Prop} (F : Fr h₀ L s.heap m) (N : News h₀ L s.heap news) (hv : TsAre o vs ps) (hb : ps.length ≤ 1000000) (U : Upd D (listOf vs.toArray n) (listOf (vs ++ [x]).toArray (n + 1)) news news')
    (h : ∀ h', Fr h₀ L h' m → News h₀ L h' news' → Q .none { s with heap := h' }) : wpAny (model prog w) A (call (.builtin "list.append") [.ref D, x]) Q E s := by
  have e : (vs ++ [x]).toArray = vs.toArray.push x := by simp
  rw [e] at U
  exact append_K F N U h (by rw [List.size_toArray, hv.len, sizeLine_eq]; omega)
theorem TsAre.last : ∀ {vs : List Value} {ps : List (List Nat)}, TsAre o vs ps → ps.isEmpty = false → ∃ v t, vs = vs.dropLast ++ [v] ∧ v = T o (ps.getLastD []) t ∧ TsAre o vs.dropLast ps.dropLast
  | [], [], _, h => by simp at h
  | [v], [p], h, _ => by
    obtain ⟨⟨t, ht⟩, _⟩ := h
    exact ⟨v, t, rfl, ht, trivial⟩
  | v :: v' :: vs, p :: p' :: ps, h, _ => by
    obtain ⟨u, t, h1, h2, h3⟩ := TsAre.last (vs := v' :: vs) (ps := p' :: ps) h.2 rfl
    exact ⟨u, t, congrArg (List.cons v) h1, by simpa using h2, h.1, h3⟩
  | [v], p :: p' :: ps, h, _ => h.2.elim
  | v :: v' :: vs, [p], h, _ => h.2.elim
theorem pop_list {Q : Value → Shared → Prop} (F : Fr h₀ L s.heap m) (N : News h₀ L s.heap news) (hv : TsAre o vs ps) (hb : ps.length ≤ 1000000) (hne : ps.isEmpty = false) (U : Upd D (listOf vs.toArray n) (listOf vs.dropLast.toArray (n + 1)) news news')
    (h : ∀ v h', Fr h₀ L h' m → News h₀ L h' news' → TsAre o vs.dropLast ps.dropLast → Q v { s with heap := h' }) : wpAny (model prog w) A (call (.builtin "list.pop") [.ref D]) Q E s := by
  obtain ⟨y, t, h1, h2, h3⟩ := hv.last hne
  refine kl_pop F N (p := vs.dropLast) (y := y) ?_ U (by have := hv.len; rw [sizeLine_eq]; show vs.length ≤ _; omega) fun h' F' N' => h _ h' F' N' h3
  have e := kpa_last y vs.dropLast
  rw [← h1] at e
  simpa using e
theorem last_item {value slice : Expr} {ui : Tok} {Q : Value → Shared → Prop} (N : News h₀ L s.heap news) (hm : (D, listOf vs.toArray n) ∈ news) (hv : TsAre o vs ps) (hb : ps.length ≤ 1000000) (hne : ps.isEmpty = false)
    (h : ∀ t, Q (T o (ps.getLastD []) t) s) (hs : subscripted slice false (.ref D) (.int (-1) ui) = operate [.ref D, .int (-1) ui] (getItem (.ref D) (.int (-1) ui)) := by with_unfolding_all rfl) :
    wpAny (model prog w) A (subscriptTail value slice (.ref D) (.int (-1) ui)) Q E s := by
  obtain ⟨y, t, h1, h2, h3⟩ := hv.last hne
  have hl : s.heap.IsList D vs.toArray := ⟨_, (N _ hm).1, rfl, n, rfl⟩
  have hlen := hv.len
  have hpos : 0 < ps.length := by
    cases ps with
    | nil => simp at hne
    | cons _ _ => simp
  refine tail_any hl.typeIs slot_list_getitem.lookup (wpAny_getItem_list_neg hl (x := y) (by omega) (by rw [List.size_toArray]; omega) (by omega) ?_ (h2 ▸ h t)) hs
  have e : ((-1 : Int) + (vs.toArray.size : Int)).toNat = vs.dropLast.length := by rw [List.size_toArray, List.length_dropLast]; omega
  rw [e, List.getElem?_toArray]
  conv => lhs; arg 1; rw [h1]
  simp
end
def stepN (names : List (List Nat)) (p : List Nat) : List (List Nat) := if p = [] ∨ p = [46] then names else if p = [46, 46] then names.dropLast else names ++ [p]
def walkN (names : List (List Nat)) (ps : List (List Nat)) : List (List Nat) := ps.foldl stepN names
section
variable {names : List (List Nat)} {p : List Nat}
theorem sn1 (h : p.isEmpty = true) : names = stepN names p := by
  have : p = [] := by simpa using h
  simp [stepN, this]
theorem sn2 (h : p = [46]) : names = stepN names p := by simp [stepN, h]
theorem sn3 (h1 : p.isEmpty = false) (h2 : ¬ p = [46]) (h3 : ¬ p = [46, 46]) : names ++ [p] = stepN names p := by
  have : ¬ p = [] := by intro e; simp [e] at h1
  simp [stepN, this, h2, h3]
theorem sn4 (h : p = [46, 46]) : names.dropLast = stepN names p := by simp [stepN, h]
theorem sn5 (h : p = [46, 46]) (he : names.isEmpty = true) : names = stepN names p := by
  have : names = [] := by simpa using he
  simp [stepN, h, this]
end
theorem weight_app (a b : List (List Nat)) : weightS (a ++ b) = weightS a + weightS b := by
  induction a with
  | nil => simp [weightS]
  | cons p a ih => simp only [List.cons_append, weightS, ih]; omega
theorem weight_dropLast (a : List (List Nat)) : weightS a.dropLast ≤ weightS a := by
  rcases List.eq_nil_or_concat a with rfl | ⟨r, c, rfl⟩
  · simp
  · rw [List.concat_eq_append, List.dropLast_concat, weight_app]; omega
theorem weight_step (names : List (List Nat)) (p : List Nat) : weightS (stepN names p) ≤ weightS names + weightS [p] := by
  unfold stepN
  split
  · omega
  · split
    · have := weight_dropLast names; omega
    · rw [weight_app]; omega
theorem weight_walk (ps : List (List Nat)) : ∀ names, weightS (walkN names ps) ≤ weightS names + weightS ps := by
  induction ps with
  | nil => intro names; simp [walkN, weightS]
  | cons p ps ih =>
    intro names
    have h1 := ih (stepN names p)
    have h2 := weight_step names p
    simp only [walkN, List.foldl_cons] at h1 ⊢
    simp only [weightS] at h2 ⊢
    omega
theorem weight_join {ps : List (List Nat)} (h : ps ≠ []) : weightS ps = (joinS ps).length + 1 := by
  induction ps with
  | nil => exact absurd rfl h
  | cons p ps ih =>
    cases ps with
    | nil => simp [weightS, joinS]
    | cons q qs => rw [joinS_cons (by simp), weightS, ih (by simp)]; simp; omega
theorem weight_split (x : List Nat) : weightS (splitS x) = x.length + 1 := by rw [weight_join (splitS_ne x), joinS_splitS]
theorem len_weight (ps : List (List Nat)) : ps.length ≤ weightS ps := by
  induction ps with
  | nil => simp [weightS]
  | cons p ps ih => simp [weightS]; omega
/-- what holds of each name: it is a piece, not empty, no dot, no two dots -/
def Good (ps : List (List Nat)) (q : List Nat) : Prop := q ∈ ps ∧ q ≠ [] ∧ q ≠ [46] ∧ q ≠ [46, 46]
theorem walk_good {all : List (List Nat)} (ps : List (List Nat)) : ∀ names, (∀ q ∈ names, Good all q) → (∀ q ∈ ps, q ∈ all) → ∀ q ∈ walkN names ps, Good all q := by
  induction ps with
  | nil => intro names h _; exact h
  | cons p ps ih =>
    intro names h hp
    refine ih (stepN names p) ?_ (fun q hq => hp q (by simp [hq]))
    intro q hq
    unfold stepN at hq
    split at hq
    · exact h q hq
    · rename_i h1
      split at hq
      · exact h q (List.dropLast_subset _ hq)
      · rename_i h2
        rcases List.mem_append.mp hq with hq | hq
        · exact h q hq
        · obtain rfl := List.mem_singleton.mp hq
          exact ⟨hp _ (by simp), fun e => h1 (.inl e), fun e => h1 (.inr e), h2⟩
theorem getLastD_mem {names : List (List Nat)} (h : names.isEmpty = false) : names.getLastD [] ∈ names := by
  rcases List.eq_nil_or_concat names with rfl | ⟨r, c, rfl⟩
  · simp at h
  · rw [List.concat_eq_append]; simp
theorem joinS_chars {ps : List (List Nat)} {P : Nat → Prop} (h47 : P 47) (h : ∀ q ∈ ps, ∀ c ∈ q, P c) : ∀ c ∈ joinS ps, P c := by
  induction ps with
  | nil => simp [joinS]
  | cons p ps ih =>
    cases ps with
    | nil => simpa [joinS] using h
    | cons q qs =>
      rw [joinS_cons (by simp)]
      intro c hc
      rcases List.mem_append.mp hc with hc | hc
      · exact h p (by simp) c hc
      · rcases List.mem_cons.mp hc with rfl | hc
        · exact h47
        · exact ih (fun q' hq' => h q' (by simp [List.mem_cons.mp hq'])) c hc
theorem Ok.piece {x p : List Nat} (h : Ok x) (hp : p ∈ splitS x) : Ok p := h.sub (splitS_mem hp) (splitS_len hp)
theorem walk_len {x : List Nat} (h : Ok x) {before : List (List Nat)} (hbl : before.length ≤ (splitS x).length) : (before.foldl stepN []).length ≤ 1000000 := by
  have h1 : ∀ (ps : List (List Nat)) names, (ps.foldl stepN names).length ≤ names.length + ps.length := by
    intro ps
    induction ps with
    | nil => intro names; simp
    | cons p ps ih =>
      intro names
      have := ih (stepN names p)
      have h2 : (stepN names p).length ≤ names.length + 1 := by unfold stepN; split <;> (try split) <;> simp <;> omega
      rw [List.foldl_cons, List.length_cons]; omega
  have := h1 before []
  have h3 := splitS_count x
  have h4 := h.len
  simp at this
  omega
theorem Ok.walked {x : List Nat} (h : Ok x) (hl : x.length ≤ 99990) : Ok (joinS (walkN [] (splitS x))) := by
  refine ⟨joinS_chars (by omega) fun q hq c hc => h.lt c ?_, ?_⟩
  · have := walk_good (all := splitS x) (splitS x) [] (by simp) (fun _ h => h) q hq
    exact splitS_mem this.1 c hc
  · have h1 := weight_walk (splitS x) []
    rw [weight_split] at h1
    have h2 := joinS_weight (walkN [] (splitS x))
    simp only [weightS] at h1
    omega
theorem Ok.app {x y : List Nat} (hx : Ok x) (hy : Ok y) (hl : x.length + y.length ≤ 100000) : Ok (x ++ y) := ⟨fun c hc => (List.mem_append.mp hc).elim (hx.lt c) (hy.lt c), by simpa using hl⟩
local macro_rules | `(tactic| walk_at "call ref") => `(tactic| (k_here; (with_reducible show wpAny _ _ (call (Value.ref 122) [Value.str _ _]) _ _ _); k_dflt (refine' Con.useTup3 (splitroot_con' _ false _ _ _ (by ktr_rel) (by assumption)) ?k1 ?k2 ?k3 ?k4 ?k5 ?kK ?kd ?ku ?kp ?_; (case k1 => k_asm); (case k2 => k_asm); (case k3 => k_asm); (case k4 => k_asm); (case k5 => k_asm); (case kK => first | exact rfl | assumption); (case kd => ktr_room); (case ku => ktr_units); (case kp => trivial)); intro a9 t9 t9' t9'' h9 tk9 F9 N9; (dsimp only [T] at N9); (try dsimp only [T]); (try k_fold)))
local macro_rules | `(tactic| walk_at "call ref") => `(tactic| (k_here; (with_reducible show wpAny _ _ (call (Value.ref 122) [Value.bytes _ _]) _ _ _); k_dflt (refine' Con.useTup3 (splitroot_con' _ true _ _ _ (by ktr_rel) (by assumption)) ?k1 ?k2 ?k3 ?k4 ?k5 ?kK ?kd ?ku ?kp ?_; (case k1 => k_asm); (case k2 => k_asm); (case k3 => k_asm); (case k4 => k_asm); (case k5 => k_asm); (case kK => first | exact rfl | assumption); (case kd => ktr_room); (case ku => ktr_units); (case kp => trivial)); intro a9 t9 t9' t9'' h9 tk9 F9 N9; (dsimp only [T] at N9); (try dsimp only [T]); (try k_fold)))
local macro_rules | `(tactic| walk_at "call builtin:str.split") => `(tactic| (k_here; (with_reducible show wpAny _ _ (call (Value.builtin "str.split") [Value.str _ _, Value.str _ _]) _ _ _); k_dflt (refine' meets_splitS _ ?hx ?k1 ?k2 ?_; (case hx => ktr_rel); (case k1 => k_asm); (case k2 => k_asm)); intro D' vs' h' k' hv' F' N' l1; (try k_lt l1)))
local macro_rules | `(tactic| walk_at "call builtin:bytes.split") => `(tactic| (k_here; (with_reducible show wpAny _ _ (call (Value.builtin "bytes.split") [Value.bytes _ _, Value.bytes _ _]) _ _ _); k_dflt (refine' meets_split _ ?hx ?k1 ?k2 ?_; (case hx => ktr_rel); (case k1 => k_asm); (case k2 => k_asm)); intro D' vs' h' k' hv' F' N' l1; (try k_lt l1)))
local macro_rules | `(tactic| walk_at "truthy ref") => `(tactic| (k_here; (with_reducible show wpAny _ _ (truthy (Value.ref _)) _ _ _); k_dflt (refine' tr_list ?N ?m ?v ?b ?_; (case N => k_asm); (case m => k_mem); (case v => assumption); (case b => first | assumption | omega)); intro _))
local macro_rules | `(tactic| walk_at "call builtin:list.append") => `(tactic| (k_here; (with_reducible show wpAny _ _ (call (Value.builtin "list.append") [Value.ref _, _]) _ _ _); k_dflt (refine' app_list ?F ?N ?v ?b ?U ?_; (case F => k_asm); (case N => k_asm); (case U => k_upd); (case v => assumption); (case b => first | assumption | omega)); (intro h' F' N'; (try dsimp only [List.nil_append, List.cons_append] at N'))))
local macro_rules | `(tactic| walk_at "call builtin:list.pop") => `(tactic| (k_here; (with_reducible show wpAny _ _ (call (Value.builtin "list.pop") [Value.ref _]) _ _ _); k_dflt (refine' pop_list ?F ?N ?v ?b ?e ?U ?_; (case F => k_asm); (case N => k_asm); (case U => k_upd); (case v => assumption); (case b => first | assumption | omega); (case e => assumption)); (intro v' h' F' N' hv'; (try dsimp only [List.nil_append, List.cons_append] at N'))))
local macro_rules | `(tactic| walk_at "subscriptTail Name UnaryOp ref int") => `(tactic| (k_here; (with_reducible show wpAny _ _ (subscriptTail _ _ (Value.ref _) (Value.int _ _)) _ _ _); k_dflt (refine' last_item ?N ?m ?v ?b ?e ?_; (case N => k_asm); (case m => k_mem); (case v => assumption); (case b => first | assumption | omega); (case e => assumption)); (intro t'; (try dsimp only [T]))))
local macro_rules | `(tactic| walk_at "call builtin:str.join") => `(tactic| (k_here; (with_reducible show wpAny _ _ (call (Value.builtin "str.join") [Value.str _ _, Value.ref _]) _ _ _); k_dflt (refine' join_s ?l ?v ?b ?_; (case l => exact News.isList (by k_asm) (by k_mem)); (case v => assumption); (case b => first | assumption | omega)); intro _ _))
local macro_rules | `(tactic| walk_at "call builtin:bytes.join") => `(tactic| (k_here; (with_reducible show wpAny _ _ (call (Value.builtin "bytes.join") [Value.bytes _ _, Value.ref _]) _ _ _); k_dflt (refine' join_b ?l ?v ?b ?_; (case l => exact News.isList (by k_asm) (by k_mem)); (case v => assumption); (case b => first | assumption | omega)); intro _ _))
theorem Ok.rest {x : List Nat} (h : Ok x) : Ok (restOf x) := by
  unfold restOf
  split
  · exact h
  · split
    · exact h.drop 1
    · exact h.drop 2
theorem rest_len (x : List Nat) : (restOf x).length ≤ x.length := by
  unfold restOf
  split
  · exact Nat.le_refl _
  · split <;> simp
theorem walked_len (x : List Nat) : (joinS (walkN [] (splitS x))).length ≤ x.length + 1 := by
  have h1 := weight_walk (splitS x) []
  rw [weight_split] at h1
  have h2 := joinS_weight (walkN [] (splitS x))
  simp only [weightS] at h1
  omega
theorem normpath_con (w : World) (o : Bool) (x r : List Nat) (t : Tok) (hx : Ok x) (hxl : x.length ≤ 99000) (hr : rootOf x = r) (hr2 : r = [47] ∨ r = [47, 47]) :
    Con w 129 4 [T o x t] (fun _ => True) (isT o (r ++ joinS (walkN [] (splitS (restOf x))))) := by
  w_top off
  unfold Con
  k_fill
  have hrest : Ok (restOf x) := Ok.rest hx
  have hxe : x.isEmpty = false := by
    cases x with
    | nil => rcases hr2 with rfl | rfl <;> simp [rootOf] at hr
    | cons c y => rfl
  have hre : r.isEmpty = false := by rcases hr2 with rfl | rfl <;> rfl
  have hrok : Ok r := by rcases hr2 with rfl | rfl <;> exact ⟨by simp, by simp⟩
  have hjok : Ok (joinS (walkN [] (splitS (restOf x)))) := Ok.walked hrest (by have := rest_len x; omega)
  have hwt : weightS (walkN [] (splitS (restOf x))) ≤ 1000000 := by
    have h1 := weight_walk (splitS (restOf x)) []
    rw [weight_split] at h1
    have h2 := hrest.len
    simp only [weightS] at h1
    omega
  have hrj : Ok (r ++ joinS (walkN [] (splitS (restOf x)))) := by
    have h1 := rest_len x
    have h2 := walked_len (restOf x)
    rcases hr2 with rfl | rfl <;> exact Ok.app hrok hjok (by simp only [List.length_cons, List.length_nil]; omega)
  have hne : (r ++ joinS (walkN [] (splitS (restOf x)))).isEmpty = false := by rcases hr2 with rfl | rfl <;> rfl
  clear hr2
  cases o <;> dsimp only [T]
  all_goals
    intros; rename_i hret
    refine wpAny_call ?_
    k_dflt (refine' code_ground ?k1 ?k2 ?k3 ?k5 ?kA ?kF ?kK ?k6 ?k7 ?k8 ?k9 ?kB ?_ ?c2 ?c3 ?c4 ?c5; (case kA => exact rfl); (case kF => exact rfl); (case kK => assumption); (case k1 => k_asm); (case k2 => k_asm); (case k3 => k_asm); (case k5 => k_asm); (case k6 => k_is); (case k7 => k_is); (case k8 => ktr_room); (case k9 => exact BindsTo.of_eq rfl); (case c5 => decide); (case kB => exact locs rfl); (case c2 => exact rfl); (case c3 => exact rfl); (case c4 => exact rfl); k_whole; intro L' h' F' N' B' X' T'; (try dsimp only); (try k_fold))
    k_steps
    rename Fr _ _ _ _ => FF
    rename News _ _ _ _ => NN
    rename TsAre _ _ _ => HV
    refine loop_acc (z := []) (nn := 0) stepN ?_ ?_ HV FF NN ?_ ?_ ?_
    · exact rfl
    · k_mem
    · exact trivial
    · intro p t before vs₁ n₁ h tk own hp hb hbl hv₁ hoff F₁ N₁
      have hpok : Ok p := Ok.piece hrest hp
      have hlen : (before.foldl stepN []).length ≤ 1000000 := walk_len hrest hbl
      have hlast : (before.foldl stepN []).isEmpty = false → (before.foldl stepN []).getLastD [] ≠ [46, 46] ∧ Ok ((before.foldl stepN []).getLastD []) := fun he =>
        have g := walk_good (all := splitS (restOf x)) before [] (by simp) hb _ (getLastD_mem he)
        ⟨g.2.2.2, Ok.piece hrest g.1⟩
      have hlok : Ok ((before.foldl stepN []).getLastD []) := by
        cases he : (before.foldl stepN []).isEmpty with
        | false => exact (hlast he).2
        | true =>
          have : before.foldl stepN [] = [] := by simpa using he
          rw [this]; exact Ok.nil
      simp only [List.cons_append, List.nil_append] at N₁
      dsimp only [T] at F₁
      clear FF NN
      k_steps
      all_goals (try dsimp only)
      k_steps
      all_goals (first
        | (exfalso; exact (hlast (by assumption)).1 (by assumption))
        | (rename Fr _ _ _ _ => FF; rename News _ _ _ _ => NN; first
          | exact TurnNames.intro (.inl rfl) FF NN (fun _ hz => if_neg hz) (by k_mem) (by assumption) (sn4 (by assumption)) (by k_allIn) (fun p hp => by k_ownIn)
          | exact TurnNames.intro (.inl rfl) FF NN (fun _ hz => if_neg hz) (by k_mem) hv₁ (sn5 (by assumption) (by assumption)) (by k_allIn) (fun p hp => by k_ownIn)
          | exact TurnNames.intro (.inr rfl) FF NN (fun _ hz => if_neg hz) (by k_mem) hv₁ (sn1 (by assumption)) (by k_allIn) (fun p hp => by k_ownIn)
          | exact TurnNames.intro (.inr rfl) FF NN (fun _ hz => if_neg hz) (by k_mem) hv₁ (sn2 (by assumption)) (by k_allIn) (fun p hp => by k_ownIn)
          | exact TurnNames.intro (.inl rfl) FF NN (fun _ hz => if_neg hz) (by k_mem) (TsAre.snoc ⟨t, rfl⟩ hv₁) (sn3 (by assumption) (by assumption) (by assumption)) (by k_allIn) (fun p hp => by k_ownIn)
          ))
    · intro u vs₁ n₁ h tk hv₁ F₁ N₁
      clear FF NN
      have hv₂ : TsAre _ vs₁ (walkN [] (splitS (restOf x))) := hv₁
      clear hv₁
      k_steps
      all_goals (try dsimp only)
      k_steps
      all_goals (refine hret _ _ _ ?_ (Fr.keep (by k_asm)))
      all_goals (first | exact isT_s rfl | exact isT_b rfl)
section
variable {prog : Program} {w : World} {A : Around} {E : Value → Shared → Prop} {s : Shared} {h₀ : Heap} {L a : Addr} {m : Str → Option Value} {news : Led} {K : Frag} {mg mb : Str → Option Value} {p : Program} {loose : List Str} {mean : ExcName → Option Value}
  {cn : Str} {cs : Scope} {ccd : Value}
/-- the ints of a text's signs -/
def OrdAt (v y : Value) : Prop := ∃ c t u, v = .str ⟨#[c]⟩ t ∧ y = .int (c : Int) u
theorem ints_of_paired {x : List Nat} : ∀ {vs ys : List Value} {i : Nat}, (∀ j v, vs[j]? = some v → SignAt (st x) (i + j) v) → vs.length + i = x.length → Paired OrdAt vs ys → IntsAre ys ((x.drop i).map fun (c : Nat) => (c : Int))
  | [], ys, i, _, hl, hp => by
    cases hp
    have : x.drop i = [] := List.drop_eq_nil_of_le (by simp at hl; omega)
    rw [this]; exact .nil
  | v :: vs, ys, i, hs, hl, hp => by
    cases hp with
    | cons ho hp =>
      obtain ⟨c, t, u, rfl, rfl⟩ := ho
      obtain ⟨c', u', hc, e⟩ := hs 0 _ rfl
      have hc' : x[i]? = some c := by
        have e2 : c' = c := by
          have := congrArg (fun v => match v with | Value.str z _ => z.cps.toList | _ => []) e
          simpa using this.symm
        rw [← e2]; simpa [st] using hc
      have hd : x.drop i = c :: x.drop (i + 1) := by
        have hi : i < x.length := by simp at hl; omega
        rw [List.drop_eq_getElem_cons hi]
        congr 1
        rw [List.getElem?_eq_getElem hi] at hc'
        exact Option.some.inj hc'
      rw [hd, List.map_cons]
      refine .cons _ _ (ints_of_paired (i := i + 1) (fun j v hv => ?_) (by simp at hl; omega) hp)
      have := hs (j + 1) v (by simpa using hv)
      rwa [show i + (j + 1) = i + 1 + j by omega] at this
end
section
variable {h₀ h h₃ : Heap} {L C : Addr} {m m₃ : Str → Option Value} {news : Led} {o : Obj}
theorem comp_stay (hk : ∀ b ob, b ∉ [h.objs.size] → (h.push o).get? b = some ob → h₃.get? b = some ob) : ∀ b ob, h.get? b = some ob → h₃.get? b = some ob :=
  fun b ob e => hk b ob (fun hm => absurd (Heap.lt_size e) (by rw [List.mem_singleton.mp hm]; exact Nat.lt_irrefl _)) (Heap.get?_push_of_some _ e)
theorem comp_cell (F : Fr h₀ L h m) (N : News h₀ L h news) (hk : ∀ b ob, b ∉ [h.objs.size] → (h.push o).get? b = some ob → h₃.get? b = some ob) (hC : (h.push o).objs.size ≤ C) (hns : h₃.Ns C m₃) :
    ∃ oC, LCg.NsObj oC m₃ ∧ Fr h₀ L h₃ m ∧ News h₀ L h₃ ((C, oC) :: news) := by
  obtain ⟨oC, e, hN⟩ := LCg.ns_obj hns
  have hs := comp_stay hk
  have hlt : h.objs.size < C := by rw [Heap.size_push] at hC; omega
  refine ⟨oC, hN, F.keptAll hs, fun p hp => ?_⟩
  rcases List.mem_cons.mp hp with rfl | hp
  · refine ⟨e, fun q => ?_, ?_⟩
    · obtain ⟨oL, _, _, hL, _⟩ := F.ns
      have h1 := Heap.lt_size hL
      have q' : C = L := q
      rw [← q'] at h1
      exact Nat.lt_asymm hlt h1
    · cases hq : h₀.get? C with
      | none => rfl
      | some o' => exact absurd (Heap.lt_size (F.keep _ _ hq)) (Nat.lt_asymm hlt)
  · exact (N.grown hs) p hp
theorem Keeps.toks {s : Shared} {k : Nat} : Keeps s { s with toks := k } := ⟨s.heap, k, rfl, fun _ _ e => e⟩
end
theorem byteArr_is (x : List Nat) : byteArr (x.map fun (c : Nat) => (c : Int)) = bs x := by
  simp [byteArr, bs]
theorem ints_in {x : List Nat} (hx : Ok x) : KBa.In (x.map fun (c : Nat) => (c : Int)) := by
  intro n hn
  obtain ⟨c, hc, rfl⟩ := List.mem_map.mp hn
  have := hx.lt c hc
  omega
theorem Heap.PlainList.obj {h : Heap} {D : Addr} {ys : Array Value} (x : h.PlainList D ys) : ∃ n, h.get? D = some (listOf ys n) := x
local macro_rules | `(tactic| walk_at "eval ListComp") => `(tactic| (k_here; (with_reducible show wpAny _ _ (eval (Expr.ListComp (Expr.Call (Expr.Name (Str.ofString "ord") _) _ _ _) _ _ _) _) _ _ _); k_dflt (refine wpAny_ListComp_free (fun _ => true) OrdAt (by rfl) (by decide) (by rfl) (by decide) (by rfl) ?_ ?_; rotate_left; (intro _; with_unfolding_all rfl))))
theorem kind_con (w : World) (o : Bool) (x : List Nat) (t : Tok) (hx : Ok x) : Con w 155 2 [.str (st x) t, .bool o] (fun _ => True) (isT o x) := by
  w_top off
  unfold Con
  k_fill
  cases o
  · intros; rename_i hret
    refine wpAny_call ?_
    k_dflt (refine' code_ground ?k1 ?k2 ?k3 ?k5 ?kA ?kF ?kK ?k6 ?k7 ?k8 ?k9 ?kB ?_ ?c2 ?c3 ?c4 ?c5; (case kA => exact rfl); (case kF => exact rfl); (case kK => assumption); (case k1 => k_asm); (case k2 => k_asm); (case k3 => k_asm); (case k5 => k_asm); (case k6 => k_is); (case k7 => k_is); (case k8 => ktr_room); (case k9 => exact BindsTo.of_eq rfl); (case c5 => decide); (case kB => exact locs rfl); (case c2 => exact rfl); (case c3 => exact rfl); (case c4 => exact rfl); k_whole; intro L' h' F' N' B' X' T'; (try dsimp only); (try k_fold))
    k_steps
    all_goals (try dsimp only)
    k_steps
    exact hret _ _ _ (isT_s rfl) (Fr.keep (by k_asm))
  · intros; rename_i hret
    refine wpAny_call ?_
    k_dflt (refine' code_ground ?k1 ?k2 ?k3 ?k5 ?kA ?kF ?kK ?k6 ?k7 ?k8 ?k9 ?kB ?_ ?c2 ?c3 ?c4 ?c5; (case kA => exact rfl); (case kF => exact rfl); (case kK => assumption); (case k1 => k_asm); (case k2 => k_asm); (case k3 => k_asm); (case k5 => k_asm); (case k6 => k_is); (case k7 => k_is); (case k8 => ktr_room); (case k9 => exact BindsTo.of_eq rfl); (case c5 => decide); (case kB => exact locs rfl); (case c2 => exact rfl); (case c3 => exact rfl); (case c4 => exact rfl); k_whole; intro L' h' F' N' B' X' T'; (try dsimp only); (try k_fold))
    k_steps
    have hxl := hx.len
    rename Fr _ _ _ _ => FF
    refine wpAny_pyIter_str fun o St W hst => ?_
    refine ⟨_, _, _, _, _, St, rfl, W _ rfl, by show (st x).length ≤ _; rw [st_len, sizeLine_eq]; omega, hst, ?_, ⟨?_, ?_⟩, ?_⟩
    · intro b hb
      rw [List.mem_singleton.mp hb]
      show _ < (Heap.push _ _).objs.size
      rw [Heap.size_push]; exact Nat.lt_succ_self _
    · intro C i v s₃ m₃ E' _ _ _ _ _ _
      rw [List.forIn_nil]
      exact wpAny_pure ⟨rfl, Keeps.toks (k := s₃.toks)⟩
    · intro C i v s₃ m₃ E' hC hP _ hns hm hkeep htk
      obtain ⟨oC, hN, F₃, N₃⟩ := comp_cell FF (News.nil (h₀ := _) (L := _) (h := _)) hkeep hC hns
      obtain ⟨c, u, hc, rfl⟩ := hP
      clear FF hkeep W hst htk hns hxl
      k_steps
      · exact ⟨c, u, _, rfl, rfl⟩
      · exact Keeps.toks
    · intro D h₂ tk ys vs hD hl hpl hlen hP hpair hkeep
      obtain ⟨n, hpl⟩ := Mine.Heap.PlainList.obj hpl
      have F₂ := FF.keptAll (comp_stay hkeep)
      have N₂ := news_cons (FF.push o) (News.nil (h₀ := _) (L := _) (h := h₂)) hD hpl
      have hf : vs.filter (fun _ => true) = vs := List.filter_eq_self.mpr fun _ _ => rfl
      rw [hf] at hpair
      have hI := ints_of_paired (x := x) (i := 0) (fun j v hv => by simpa using hP j v hv) (by rw [hlen]; show (st x).length + 0 = _; rw [st_len]; rfl) hpair
      have hin := ints_in hx
      clear FF hkeep W hst hpair hP hpl hl hD
      k_steps
      all_goals (try dsimp only)
      k_steps
      rw [byteArr_is]
      exact hret _ _ _ (isT_b rfl) (Fr.keep (by k_asm))
theorem walk_nil (names ps : List (List Nat)) : walkN names ([] :: ps) = walkN names ps := by simp [walkN, stepN]
theorem walk_slash (names : List (List Nat)) (x : List Nat) : walkN names (splitS (47 :: x)) = walkN names (splitS x) := by
  have : splitS (47 :: x) = [] :: splitS x := by simp [splitS]
  rw [this, walk_nil]
theorem head_cons {x : List Nat} (h : x.head? = some 47) : ∃ y, x = 47 :: y := by
  cases x with
  | nil => simp at h
  | cons c y => simp at h; exact ⟨y, by rw [h]⟩
theorem pjoin_root (x : List Nat) : (pjoin [47] x).head? = some 47 ∧ ∀ names, walkN names (splitS (pjoin [47] x)) = walkN names (splitS x) := by
  unfold pjoin
  by_cases h : x.head? = some 47
  · rw [if_pos (.inl h)]; exact ⟨h, fun _ => rfl⟩
  · rw [if_neg (by simp [h]), if_pos (by rfl)]
    exact ⟨rfl, fun names => walk_slash names x⟩
theorem walk_rest {x : List Nat} (h : x.head? = some 47) (names : List (List Nat)) : walkN names (splitS (restOf x)) = walkN names (splitS x) := by
  obtain ⟨y, rfl⟩ := head_cons h
  unfold restOf
  simp only [List.take_succ_cons, List.take_zero, not_true_eq_false, if_false, List.drop_succ_cons, List.drop_zero]
  split
  · exact (walk_slash names y).symm
  · rename_i h2
    have h3 : y.take 1 = [47] := Classical.byContradiction fun e => h2 (.inl e)
    cases y with
    | nil => simp at h3
    | cons c z =>
      simp at h3
      subst h3
      rw [walk_slash, walk_slash]; simp
theorem root_two {x : List Nat} (h : x.head? = some 47) : rootOf x = [47] ∨ rootOf x = [47, 47] := by
  obtain ⟨y, rfl⟩ := head_cons h
  unfold rootOf
  simp only [List.take_succ_cons, List.take_zero, not_true_eq_false, if_false, List.drop_succ_cons, List.drop_zero]
  split
  · exact .inl rfl
  · rename_i h2
    have h3 : y.take 1 = [47] := Classical.byContradiction fun e => h2 (.inl e)
    right
    simp only [List.take_succ_cons, h3]
/-- a good list of names, spelled behind a root, is parted again -/
theorem names_head {all names : List (List Nat)} (hg : ∀ q ∈ names, Good all q) (hf : ∀ q ∈ all, 47 ∉ q) : (joinS names).head? ≠ some 47 := by
  cases names with
  | nil => simp [joinS]
  | cons p ps =>
    have g := hg p (by simp)
    cases p with
    | nil => exact absurd rfl g.2.1
    | cons c q =>
      have hc : c ≠ 47 := fun e => hf _ g.1 (by simp [e])
      cases ps with
      | nil => simpa [joinS] using hc
      | cons a b => rw [joinS_cons (by simp)]; simpa using hc
theorem take_one {x : List Nat} (h : x.head? ≠ some 47) : x.take 1 ≠ [47] := by
  cases x with
  | nil => simp
  | cons c y => simpa using h
theorem part_again {r y : List Nat} (hr : r = [47] ∨ r = [47, 47]) (hy : y.head? ≠ some 47) : rootOf (r ++ y) = r ∧ restOf (r ++ y) = y := by
  have h1 := take_one hy
  rcases hr with rfl | rfl
  · unfold rootOf restOf; simp [h1]
  · unfold rootOf restOf; simp [h1]
local macro_rules | `(tactic| walk_at "call ref") => `(tactic| (k_here; (with_reducible show wpAny _ _ (call (Value.ref 155) [Value.str _ _, Value.bool _]) _ _ _); k_dflt (refine' Con.useT (kind_con _ _ _ _ (by ktr_rel)) ?k1 ?k2 ?k3 ?k4 ?k5 ?kK ?kd ?ku ?kp ?_; (case k1 => k_asm); (case k2 => k_asm); (case k3 => k_asm); (case k4 => k_asm); (case k5 => k_asm); (case kK => first | exact rfl | assumption); (case kd => ktr_room); (case ku => ktr_units); (case kp => trivial)); intro t9 h9 tk9 F9 N9; (try dsimp only [T]); (try k_fold)))
local macro_rules | `(tactic| walk_at "call ref") => `(tactic| (k_here; (with_reducible show wpAny _ _ (call (Value.ref 115) [Value.str _ _, Value.str _ _]) _ _ _); k_dflt (refine' Con.useT (join_con _ false _ _ _ _ (by ktr_rel) (by ktr_rel) (by ktr_rel)) ?k1 ?k2 ?k3 ?k4 ?k5 ?kK ?kd ?ku ?kp ?_; (case k1 => k_asm); (case k2 => k_asm); (case k3 => k_asm); (case k4 => k_asm); (case k5 => k_asm); (case kK => first | exact rfl | assumption); (case kd => ktr_room); (case ku => ktr_units); (case kp => trivial)); intro t9 h9 tk9 F9 N9; (try dsimp only [T]); (try k_fold)))
local macro_rules | `(tactic| walk_at "call ref") => `(tactic| (k_here; (with_reducible show wpAny _ _ (call (Value.ref 115) [Value.bytes _ _, Value.bytes _ _]) _ _ _); k_dflt (refine' Con.useT (join_con _ true _ _ _ _ (by ktr_rel) (by ktr_rel) (by ktr_rel)) ?k1 ?k2 ?k3 ?k4 ?k5 ?kK ?kd ?ku ?kp ?_; (case k1 => k_asm); (case k2 => k_asm); (case k3 => k_asm); (case k4 => k_asm); (case k5 => k_asm); (case kK => first | exact rfl | assumption); (case kd => ktr_room); (case ku => ktr_units); (case kp => trivial)); intro t9 h9 tk9 F9 N9; (try dsimp only [T]); (try k_fold)))
local macro_rules | `(tactic| walk_at "call ref") => `(tactic| (k_here; (with_reducible show wpAny _ _ (call (Value.ref 129) [Value.str _ _]) _ _ _); k_dflt (refine' Con.useT (normpath_con _ false _ _ _ (by ktr_rel) (by ktr_rel) (by assumption) (by ktr_rel)) ?k1 ?k2 ?k3 ?k4 ?k5 ?kK ?kd ?ku ?kp ?_; (case k1 => k_asm); (case k2 => k_asm); (case k3 => k_asm); (case k4 => k_asm); (case k5 => k_asm); (case kK => first | exact rfl | assumption); (case kd => ktr_room); (case ku => ktr_units); (case kp => trivial)); intro t9 h9 tk9 F9 N9; (try dsimp only [T]); (try k_fold)))
local macro_rules | `(tactic| walk_at "call ref") => `(tactic| (k_here; (with_reducible show wpAny _ _ (call (Value.ref 129) [Value.bytes _ _]) _ _ _); k_dflt (refine' Con.useT (normpath_con _ true _ _ _ (by ktr_rel) (by ktr_rel) (by assumption) (by ktr_rel)) ?k1 ?k2 ?k3 ?k4 ?k5 ?kK ?kd ?ku ?kp ?_; (case k1 => k_asm); (case k2 => k_asm); (case k3 => k_asm); (case k4 => k_asm); (case k5 => k_asm); (case kK => first | exact rfl | assumption); (case kd => ktr_room); (case ku => ktr_units); (case kp => trivial)); intro t9 h9 tk9 F9 N9; (try dsimp only [T]); (try k_fold)))
local macro_rules | `(tactic| walk_at "call ref") => `(tactic| (k_here; (with_reducible show wpAny _ _ (call (Value.ref 122) [Value.str _ _]) _ _ _); k_dflt (refine' Con.useTup3 (splitroot_con _ false _ _ (by ktr_rel)) ?k1 ?k2 ?k3 ?k4 ?k5 ?kK ?kd ?ku ?kp ?_; (case k1 => k_asm); (case k2 => k_asm); (case k3 => k_asm); (case k4 => k_asm); (case k5 => k_asm); (case kK => first | exact rfl | assumption); (case kd => ktr_room); (case ku => ktr_units); (case kp => trivial)); intro a9 t9 t9' t9'' h9 tk9 F9 N9; (dsimp only [T] at N9); (try dsimp only [T]); (try k_fold)))
local macro_rules | `(tactic| walk_at "call ref") => `(tactic| (k_here; (with_reducible show wpAny _ _ (call (Value.ref 122) [Value.bytes _ _]) _ _ _); k_dflt (refine' Con.useTup3 (splitroot_con _ true _ _ (by ktr_rel)) ?k1 ?k2 ?k3 ?k4 ?k5 ?kK ?kd ?ku ?kp ?_; (case k1 => k_asm); (case k2 => k_asm); (case k3 => k_asm); (case k4 => k_asm); (case k5 => k_asm); (case kK => first | exact rfl | assumption); (case kd => ktr_room); (case ku => ktr_units); (case kp => trivial)); intro a9 t9 t9' t9'' h9 tk9 F9 N9; (dsimp only [T] at N9); (try dsimp only [T]); (try k_fold)))
theorem pjoin_ok {x : List Nat} (hx : Ok x) (hxl : x.length ≤ 90000) : Ok (pjoin [47] x) ∧ (pjoin [47] x).length ≤ x.length + 1 := by
  unfold pjoin
  split
  · exact ⟨hx, Nat.le_succ _⟩
  · rw [if_pos (by rfl)]
    exact ⟨Ok.app (Ok.one (by decide)) hx (by simp; omega), by simp⟩
theorem Ok.cons47 {x : List Nat} (hx : Ok x) (hxl : x.length ≤ 99000) : Ok (47 :: x) := Ok.app (x := [47]) (Ok.one (by decide)) hx (by simp; omega)
theorem parts_con (w : World) (o : Bool) (x : List Nat) (t : Tok) (hx : Ok x) (hxl : x.length ≤ 90000) : Con w 169 6 [T o x t, .bool o] (fun _ => True) (isTup3 o [] (rootOf (pjoin [47] x)) (joinS (walkN [] (splitS x)))) := by
  w_top off
  unfold Con
  k_fill
  obtain ⟨hyok, hyl⟩ := pjoin_ok hx hxl
  have hyl2 : (pjoin [47] x).length ≤ 99000 := by omega
  have hc := Ok.cons47 hx (by omega)
  have hroot := pjoin_root x
  have hr2 := root_two hroot.1
  obtain ⟨r, hr⟩ : ∃ r, rootOf (pjoin [47] x) = r := ⟨_, rfl⟩
  rw [hr] at hr2
  have hw : walkN [] (splitS (restOf (pjoin [47] x))) = walkN [] (splitS x) := by rw [walk_rest hroot.1, hroot.2]
  have hz : Ok (r ++ joinS (walkN [] (splitS (restOf (pjoin [47] x))))) := by
    have h1 := rest_len (pjoin [47] x)
    have h2 := walked_len (restOf (pjoin [47] x))
    have h3 := Ok.walked (Ok.rest hyok) (by omega)
    rcases hr2 with rfl | rfl
    · exact Ok.app (Ok.one (by decide)) h3 (by simp only [List.length_cons, List.length_nil]; omega)
    · exact Ok.app ⟨by decide, by decide⟩ h3 (by simp only [List.length_cons, List.length_nil]; omega)
  have hp := part_again (r := r) (y := joinS (walkN [] (splitS (restOf (pjoin [47] x))))) hr2 (names_head (all := splitS (restOf (pjoin [47] x))) (walk_good _ [] (by simp) fun _ h => h) (splitS_free _))
  cases o <;> dsimp only [T]
  all_goals
    intros; rename_i hret
    refine wpAny_call ?_
    k_dflt (refine' code_ground ?k1 ?k2 ?k3 ?k5 ?kA ?kF ?kK ?k6 ?k7 ?k8 ?k9 ?kB ?_ ?c2 ?c3 ?c4 ?c5; (case kA => exact rfl); (case kF => exact rfl); (case kK => assumption); (case k1 => k_asm); (case k2 => k_asm); (case k3 => k_asm); (case k5 => k_asm); (case k6 => k_is); (case k7 => k_is); (case k8 => ktr_room); (case k9 => exact BindsTo.of_eq rfl); (case c5 => decide); (case kB => exact locs rfl); (case c2 => exact rfl); (case c3 => exact rfl); (case c4 => exact rfl); k_whole; intro L' h' F' N' B' X' T'; (try dsimp only); (try k_fold))
    k_steps
    rename News _ _ _ _ => NN
    exact hret _ _ _ (isTup3_eq (hp.1.trans hr.symm) (hp.2.trans (by rw [hw])) (isTup3_of NN (by k_mem) rfl)) (Fr.keep (by k_asm))
theorem jailed_con (w : World) (o : Bool) (top x y : List Nat) (t u : Tok) (ht : Ok top) (hx : Ok x) (hc : Ok (47 :: x)) (hy : pjoin top x = y) (hyok : Ok y) (hyl : y.length ≤ 99000) (hr : rootOf y = [47]) :
    Con w 176 6 [.str (st top) t, T o x u, .bool o] (fun _ => True) (isT o (47 :: joinS (walkN [] (splitS y)))) := by
  w_top off
  unfold Con
  k_fill
  subst hy
  have hr2 : [47] = [47] ∨ [47] = [47, 47] := .inl rfl
  have hh : (pjoin top x).head? = some 47 := by
    cases hp : pjoin top x with
    | nil => rw [hp] at hr; simp [rootOf] at hr
    | cons c z =>
      rw [hp] at hr
      unfold rootOf at hr
      split at hr
      · cases hr
      · rename_i h; simpa using h
  have hw : [47] ++ joinS (walkN [] (splitS (restOf (pjoin top x)))) = 47 :: joinS (walkN [] (splitS (pjoin top x))) := by rw [walk_rest hh]; rfl
  rw [← hw]
  cases o <;> dsimp only [T]
  all_goals
    intros; rename_i hret
    refine wpAny_call ?_
    k_dflt (refine' code_ground ?k1 ?k2 ?k3 ?k5 ?kA ?kF ?kK ?k6 ?k7 ?k8 ?k9 ?kB ?_ ?c2 ?c3 ?c4 ?c5; (case kA => exact rfl); (case kF => exact rfl); (case kK => assumption); (case k1 => k_asm); (case k2 => k_asm); (case k3 => k_asm); (case k5 => k_asm); (case k6 => k_is); (case k7 => k_is); (case k8 => ktr_room); (case k9 => exact BindsTo.of_eq rfl); (case c5 => decide); (case kB => exact locs rfl); (case c2 => exact rfl); (case c3 => exact rfl); (case c4 => exact rfl); k_whole; intro L' h' F' N' B' X' T'; (try dsimp only); (try k_fold))
    k_steps
    exact hret _ _ _ (by first | exact isT_s rfl | exact isT_b rfl) (Fr.keep (by k_asm))
theorem ground_list {h₀ h : Heap} {L l : Addr} {m : Str → Option Value} {items : Array Value} (F : Fr h₀ L h m) (x : h₀.IsList l items) : h.IsList l items := x.at fun o e => F.keep l o e
def spell (top : List Nat) (names : List (List Nat)) : List Nat := if joinS names = [] ∨ top = [47] then top ++ joinS names else top ++ [47] ++ joinS names
section
variable {top : List Nat} {names : List (List Nat)}
theorem sp1 (h : joinS names = []) : spell top names = top ++ joinS names := by simp [spell, h]
theorem sp2 (h : top = [47]) : spell top names = top ++ joinS names := by simp [spell, h]
theorem sp3 (h : ¬ joinS names = []) (h2 : ¬ top = [47]) : spell top names = top ++ [47] ++ joinS names := by simp [spell, h, h2]
end
local macro_rules | `(tactic| walk_at "call builtin:str.join") => `(tactic| (k_here; (with_reducible show wpAny _ _ (call (Value.builtin "str.join") [Value.str _ _, Value.ref _]) _ _ _); k_dflt (refine' join_s ?l ?v ?b ?_; (case l => exact ground_list (by k_asm) (by assumption)); (case v => assumption); (case b => first | assumption | omega)); intro _ _))
theorem spell_con (w : World) (top : List Nat) (t : Tok) (l : Addr) (vs : List Value) (names : List (List Nat)) (ht : Ok top) (ht2 : Ok (top ++ [47])) (hj : Ok (joinS names)) (hw : weightS names ≤ 1000000) (hv : TsAre false vs names) :
    Con w 162 2 [.str (st top) t, .ref l] (fun h => h.IsList l vs.toArray) (isT false (spell top names)) := by
  w_top off
  unfold Con
  k_fill
  intros; rename_i hl hret
  refine wpAny_call ?_
  k_dflt (refine' code_ground ?k1 ?k2 ?k3 ?k5 ?kA ?kF ?kK ?k6 ?k7 ?k8 ?k9 ?kB ?_ ?c2 ?c3 ?c4 ?c5; (case kA => exact rfl); (case kF => exact rfl); (case kK => assumption); (case k1 => k_asm); (case k2 => k_asm); (case k3 => k_asm); (case k5 => k_asm); (case k6 => k_is); (case k7 => k_is); (case k8 => ktr_room); (case k9 => exact BindsTo.of_eq rfl); (case c5 => decide); (case kB => exact locs rfl); (case c2 => exact rfl); (case c3 => exact rfl); (case c4 => exact rfl); k_whole; intro L' h' F' N' B' X' T'; (try dsimp only); (try k_fold))
  k_steps
  all_goals (try dsimp only)
  k_steps
  all_goals (refine hret _ _ _ (isT_s ?_) (Fr.keep (by k_asm)))
  all_goals (first | exact (sp1 (by first | assumption | exact of_decide_eq_true (by assumption) | exact of_decide_eq_false (by assumption))).symm | exact (sp2 (by first | assumption | exact of_decide_eq_true (by assumption) | exact of_decide_eq_false (by assumption))).symm | exact (sp3 (by first | assumption | exact of_decide_eq_true (by assumption) | exact of_decide_eq_false (by assumption)) (by first | assumption | exact of_decide_eq_true (by assumption) | exact of_decide_eq_false (by assumption))).symm)
section
variable {prog : Program} {w : World} {A : Around} {E : Value → Shared → Prop} {s : Shared} {env : Env} {h₀ : Heap} {x : Str} {body : List Stmt} {Q : Flow → Shared → Prop}
/-- a loop over a list that stands in the ground -/
theorem iter_ground {l : Addr} {vs : List Value} {m₀ : Str → Option Value} {news : Led} (J : Nat → (Str → Option Value) → Led → Prop)
    (hh : A.handled = none) (hl : h₀.IsList l vs.toArray) (F : Fr h₀ env.locals s.heap m₀) (N : News h₀ env.locals s.heap news) (hj : J 0 m₀ news)
    (turn : ∀ i v m₁ nx h tk own, vs[i]? = some v → OwnOff own (nx.map (·.1)) → J i m₁ nx → Fr h₀ env.locals h (fun y => if y = x then some v else m₁ y) → News h₀ env.locals h (nx ++ own) →
      wpAny (model prog w) A (execs body env) (InvPostG h₀ env.locals (J (i + 1)) own { s with heap := h, toks := tk } Q) E { s with heap := h, toks := tk })
    (done : ∀ m₁ nx h tk, J vs.length m₁ nx → Fr h₀ env.locals h m₁ → News h₀ env.locals h nx → Q .next { s with heap := h, toks := tk }) :
    wpAny (model prog w) A (pyIter (.ref l)) (fun it s₂ => LoopAtV prog w A h₀ env x body Q E it s₂) E s := by
  have hls : s.heap.IsList l vs.toArray := hl.at fun o e => F.keep l o e
  obtain ⟨ol, hol, _⟩ := id hl
  have hlt : l < h₀.objs.size := Heap.lt_size hol
  have hne : l ≠ s.heap.objs.size := Nat.ne_of_lt (Nat.lt_trans (Nat.lt_of_lt_of_le hlt F.above) F.ns.lt)
  refine wpAny_pyIter_list hls ?_
  have W := Walks.list (prog := prog) (w := w) hh s.heap.objs.size l hne vs.toArray
  have hlen : vs.toArray.size = vs.length := by simp
  rw [hlen] at W
  refine ⟨_, _, _, vs.length, _, _, m₀, news, J, rfl, W, ?_, ?_, ?_, ⟨⟨_, Heap.get?_push_size _ rfl, rfl, rfl⟩, hls.at fun o e => Heap.get?_push_of_some _ e⟩, F.push _, (fun p hp => ⟨Heap.get?_push_of_some _ (N p hp).1, (N p hp).2⟩), hj, ?_, ?_⟩
  · intro hm
    rcases List.mem_cons.mp hm with e | hm
    · exact absurd F.ns.lt (e ▸ Nat.lt_irrefl _)
    · exact absurd (Nat.lt_of_lt_of_le hlt F.above) ((List.mem_singleton.mp hm) ▸ Nat.lt_irrefl _)
  · intro b hb
    rw [List.mem_singleton.mp hb]
    exact next_is_new F
  · intro p hp hI
    exact absurd (Heap.lt_size (N p hp).1) ((List.mem_singleton.mp hI) ▸ Nat.lt_irrefl _)
  · rintro i v m₁ news₁ s₁ own ⟨hh', tk', rfl⟩ hin hP hJ hoff hown _ hfp hst F₁ N₁
    have hown2 : ∀ p ∈ own, p.1 = s.heap.objs.size := by
      intro p hp
      rcases List.mem_cons.mp (hown p hp) with h1 | h1
      · exact h1
      · have h2 := List.mem_singleton.mp h1
        have h3 := (N₁ p (List.mem_append_left _ hp)).2.2
        rw [h2, hol] at h3
        cases h3
    have hsep : OwnOff own (news₁.map (·.1)) := by
      intro p hp b hb e
      obtain ⟨q, hq, rfl⟩ := List.mem_map.mp hb
      exact hoff q hq (List.mem_singleton.mpr (e ▸ hown2 p hp))
    have hP' : vs[i]? = some v := by simpa using hP
    have hI0 : h₀.get? s.heap.objs.size = none := next_is_new F
    obtain ⟨⟨oI, hoI, _⟩, _⟩ := id hst
    have hIown : (s.heap.objs.size, oI) ∈ own := hfp _ (List.mem_cons.mpr (.inl rfl)) hI0 _ hoI
    have N₂ : News h₀ env.locals hh' (news₁ ++ own) := fun p hp => N₁ p ((List.mem_append.mp hp).elim (fun h => List.mem_append.mpr (.inr h)) fun h => List.mem_append.mpr (.inl h))
    refine wpAny_mono (turn i v m₁ news₁ hh' tk' own hP' hsep hJ F₁ N₂) (fun f s₂ p => ?_) fun _ _ e => e
    have fin : InvEndG h₀ env.locals (J (i + 1)) own { s with heap := hh', toks := tk' } s₂ → LoopStepU h₀ env.locals [s.heap.objs.size] own (J (i + 1)) { s with heap := hh', toks := tk' } .next s₂ := by
      rintro ⟨h', tk, m', news', nx, e, F', N', hn, ho, ha, hm⟩
      refine ⟨rfl, h', tk, m', nx, e, F', fun p hp => N' p ((List.mem_append.mp hp).elim (ho p) (hn p)), fun p hp hq => ?_, hm⟩
      exact ha _ hIown p.1 (List.mem_map.mpr ⟨p, hp, rfl⟩) (List.mem_singleton.mp hq).symm
    cases f with
    | ret v => exact .ret p
    | brk => exact .brk p
    | next => exact .next (fin p)
    | cont => exact .cont (fin p)
  · rintro h' tk m' news' F' N' _ hJ
    exact done m' news' h' tk hJ F' N'
end
section
open PySem.Spec PySem.SeqAt
variable {prog : Program} {w : World} {A : Around} {E : Value → Shared → Prop} {s : Shared} {h₀ : Heap} {L D l : Addr} {m : Str → Option Value} {news news' : Led} {n : Nat} {vs us : List Value} {ps qs : List (List Nat)} {o : Bool}
theorem TsAre.reads : ∀ {vs : List Value} {ps : List (List Nat)} (h : Heap), TsAre false vs ps → ReadsAll h vs (ps.map fun p => PyData.str (st p)) []
  | [], [], _, _ => .nil
  | v :: vs, p :: ps, h, hv => by
    obtain ⟨⟨t, rfl⟩, hv⟩ := hv
    exact .cons (as := []) (.str (st p) t) (TsAre.reads h hv)
theorem strs_shaped (hok : ∀ p ∈ ps, Ok p) : shaped (.list (ps.map fun p => PyData.str (st p))) = true := by
  have h1 : PyData.canLayAll0 (ps.map fun p => PyData.str (st p)) = true := by
    induction ps with
    | nil => simp [PyData.canLayAll0]
    | cons p ps ih =>
      have := (hok p (by simp)).lt
      simp only [List.map_cons, PyData.canLayAll0, PyData.canLay0, ih (fun q hq => hok q (by simp [hq]))]
      simp only [PyData.strOk, Bool.and_true, Array.all_eq_true']
      intro c hc
      have := this c (by simpa [st] using hc)
      simp; omega
  have h2 : PyData.depthAll (ps.map fun p => PyData.str (st p)) ≤ 1 := by
    clear h1 hok
    induction ps with
    | nil => simp [PyData.depthAll]
    | cons p ps ih => simp only [List.map_cons, PyData.depthAll, PyData.depth]; omega
  have h3 : PyData.depth (.list (ps.map fun p => PyData.str (st p))) ≤ 64 := by simp only [PyData.depth]; omega
  show (PyData.canLay0 (.list _) && decide (PyData.depth (.list _) ≤ 64)) = true
  rw [Bool.and_eq_true]
  exact ⟨by simp only [PyData.canLay0]; exact h1, decide_eq_true h3⟩
theorem eq_nil_list {b : Addr} {Q : Value → Shared → Prop} (hl : s.heap.IsList D vs.toArray) (hv : TsAre false vs ps) (hok : ∀ p ∈ ps, Ok p) (hb : s.heap.IsList b #[]) (hu : A.units + 64 < cLine)
    (h : Q (.bool ps.isEmpty) s) : wpAny (model prog w) A (compareOp .Eq (.ref D) (.ref b)) Q E s := by
  obtain ⟨o, ho, hc, n, hd⟩ := hl
  obtain ⟨o', ho', hc', n', hd'⟩ := hb
  refine eq_dataH_same (da := .list (ps.map fun p => PyData.str (st p))) (db := .list []) (.list ho hc hd (by simpa using hv.reads s.heap)) (.list ho' hc' hd' (by simpa using ReadsAll.nil)) (strs_shaped hok) (by simp [shaped, PyData.canLay0, PyData.canLayAll0, PyData.depth, PyData.depthAll]) hu ?_ ?_
  · cases ps <;> simp [noMix, noMixAll]
  · have e : PySem.Spec.same (.list (ps.map fun p => PyData.str (st p))) (.list []) = ps.isEmpty := by cases ps <;> simp [PySem.Spec.same, PySem.Spec.sameAll]
    rw [e]; exact h
theorem TsAre.dropLast : ∀ {vs : List Value} {ps : List (List Nat)}, TsAre o vs ps → TsAre o vs.dropLast ps.dropLast
  | [], [], _ => trivial
  | [v], [p], _ => trivial
  | v :: v' :: vs, p :: p' :: ps, h => ⟨h.1, TsAre.dropLast (vs := v' :: vs) (ps := p' :: ps) h.2⟩
  | [v], p :: p' :: ps, h => h.2.elim
  | v :: v' :: vs, [p], h => h.2.elim
theorem TsAre.append : ∀ {vs : List Value} {ps : List (List Nat)}, TsAre o vs ps → TsAre o us qs → TsAre o (vs ++ us) (ps ++ qs)
  | [], [], _, h => h
  | _ :: _, _ :: _, h, h' => ⟨h.1, TsAre.append h.2 h'⟩
/-- names[:-1] -/
theorem but_last {value slice : Expr} {ui : Tok} {Q : Value → Shared → Prop} (F : Fr h₀ L s.heap m) (N : News h₀ L s.heap news) (hl : s.heap.IsList D vs.toArray) (hv : TsAre o vs ps) (hb : ps.length ≤ 1000000)
    (h : ∀ D' h', Fr h₀ L h' m → News h₀ L h' ((D', listOf vs.dropLast.toArray 0) :: news) → (∀ p ∈ news, p.1 < D') → TsAre o vs.dropLast ps.dropLast → Q (.ref D') { s with heap := h' })
    (hs : subscripted slice false (.ref D) (.ref s.heap.objs.size) = operate [.ref s.heap.objs.size, .ref D] (getItem (.ref D) (.ref s.heap.objs.size)) := by with_unfolding_all rfl) (ht : ∀ r, letTemporaryGo value (.ref D) r = pure () := by intro _; with_unfolding_all rfl) :
    wpAny (model prog w) A (subscriptTail value slice (.ref D) (.ref s.heap.objs.size)) Q E { s with heap := s.heap.push { cls := .type "slice", data := .fields #[.none, .int (-1) ui, .none] } } := by
  have hlen := hv.len
  refine kms_slice_lit (lo := none) (hi := some (-1)) F N hl (by constructor) (by constructor) (zs := vs.dropLast) ?_ (fun D' h' F' N' l1 => h D' h' F' N' l1 hv.dropLast) hs ht (by rw [List.size_toArray, sizeLine_eq]; omega)
  simp [kms_pick, kms_lo, kms_hi, List.dropLast_eq_take]
theorem add_list {b : Addr} {Q : Value → Shared → Prop} (F : Fr h₀ L s.heap m) (N : News h₀ L s.heap news) (hl : s.heap.IsList D vs.toArray) (hv : TsAre o vs ps) (hb : s.heap.IsList b us.toArray) (hu : TsAre o us qs) (hz : ps.length + qs.length ≤ 1000000)
    (h : ∀ D' h', Fr h₀ L h' m → News h₀ L h' ((D', listOf (vs ++ us).toArray 0) :: news) → (∀ p ∈ news, p.1 < D') → TsAre o (vs ++ us) (ps ++ qs) → Q (.ref D') { s with heap := h' }) :
    wpAny (model prog w) A (binaryOp .Add (.ref D) (.ref b)) Q E s := by
  have h1 := hv.len
  have h2 := hu.len
  exact add_arrays F N hl hb (fun h' F' N' => h _ h' F' N' (fun p hp => Heap.lt_size (N p hp).1) (hv.append hu)) (by rw [List.size_toArray, List.size_toArray, sizeLine_eq]; omega)
end
def stepW (a : List (List Nat) × Bool) (p : List Nat) : List (List Nat) × Bool := if p = [46, 46] then (a.1.dropLast, a.2 || a.1.isEmpty) else if p ≠ [] ∧ p ≠ [46] then (a.1 ++ [p], a.2) else a
def LstAt (l0 : Addr) (vs0 : List Value) (d : Addr) (vs₁ : List Value) (nx : Led) : Prop := (∃ n, nx = [(d, listOf vs₁.toArray n)]) ∨ (nx = [] ∧ d = l0 ∧ vs₁ = vs0)
section
variable {prog : Program} {w : World} {A : Around} {E : Value → Shared → Prop} {s : Shared} {env : Env} {h₀ : Heap} {x : Str} {body : List Stmt} {Q : Flow → Shared → Prop}
def TurnWalk (h₀ : Heap) (L : Addr) (x xn xa : Str) (m₀ : Str → Option Value) (own : Led) (l0 : Addr) (vs0 : List Value) (a : List (List Nat) × Bool) (s₁ : Shared) (f : Flow) (s₂ : Shared) : Prop :=
  (f = .next ∨ f = .cont) ∧ ∃ h' tk m' d vs' nx news', s₂ = { s₁ with heap := h', toks := tk } ∧ Fr h₀ L h' m' ∧ m' xn = some (.ref d) ∧ m' xa = some (.bool a.2) ∧ (∀ z, z ≠ x → z ≠ xn → z ≠ xa → m' z = m₀ z) ∧ News h₀ L h' news' ∧ LstAt l0 vs0 d vs' nx ∧ TsAre false vs' a.1 ∧ (∀ p ∈ nx, p ∈ news') ∧ (∀ p ∈ own, p ∈ news') ∧ (∀ p ∈ own, ∀ q ∈ nx, p.1 ≠ q.1)
theorem TurnWalk.intro {L : Addr} {xn xa : Str} {m₀ m' : Str → Option Value} {own nx news' : Led} {l0 d : Addr} {vs0 vs' : List Value} {a a' : List (List Nat) × Bool} {s₁ : Shared} {f : Flow} {h' : Heap} {tk : Nat} (e : a = a') (hf : f = .next ∨ f = .cont) (F : Fr h₀ L h' m') (N : News h₀ L h' news') (h1 : m' xn = some (.ref d)) (h2 : m' xa = some (.bool a.2))
    (hm : ∀ z, z ≠ x → z ≠ xn → z ≠ xa → m' z = m₀ z) (hl : LstAt l0 vs0 d vs' nx) (hv : TsAre false vs' a.1) (hn : ∀ p ∈ nx, p ∈ news') (ho : ∀ p ∈ own, p ∈ news') (hoff : ∀ p ∈ own, ∀ q ∈ nx, p.1 ≠ q.1) : TurnWalk h₀ L x xn xa m₀ own l0 vs0 a' s₁ f { s₁ with heap := h', toks := tk } := by
  subst e; exact ⟨hf, h', tk, m', d, vs', nx, news', rfl, F, h1, h2, hm, N, hl, hv, hn, ho, hoff⟩
theorem loop_walk {l l0 : Addr} {vs vs0 : List Value} {ps z : List (List Nat)} {m₀ : Str → Option Value} (xn xa : Str) (hxn : xn ≠ x) (hxa : xa ≠ x) (hna : xn ≠ xa)
    (hh : A.handled = none) (hl : h₀.IsList l vs.toArray) (hv : TsAre false vs ps) (hv0 : TsAre false vs0 z) (F : Fr h₀ env.locals s.heap m₀) (N : News h₀ env.locals s.heap []) (hm1 : m₀ xn = some (.ref l0)) (hm2 : m₀ xa = some (.bool false))
    (turn : ∀ p t (before : List (List Nat)) d vs₁ nx h tk own, p ∈ ps → (∀ q ∈ before, q ∈ ps) → before.length ≤ ps.length → LstAt l0 vs0 d vs₁ nx → TsAre false vs₁ (before.foldl stepW (z, false)).1 → OwnOff own (nx.map (·.1)) →
      Fr h₀ env.locals h (fun y => if y = x then some (.str (st p) t) else if y = xa then some (.bool (before.foldl stepW (z, false)).2) else if y = xn then some (.ref d) else m₀ y) → News h₀ env.locals h (nx ++ own) →
      wpAny (model prog w) A (execs body env) (TurnWalk h₀ env.locals x xn xa m₀ own l0 vs0 (stepW (before.foldl stepW (z, false)) p) { s with heap := h, toks := tk }) E { s with heap := h, toks := tk })
    (done : ∀ (u : Str → Option Value) d vs₁ nx h tk, LstAt l0 vs0 d vs₁ nx → TsAre false vs₁ (ps.foldl stepW (z, false)).1 → Fr h₀ env.locals h (fun y => if y = x then u y else if y = xa then some (.bool (ps.foldl stepW (z, false)).2) else if y = xn then some (.ref d) else m₀ y) → News h₀ env.locals h nx → Q .next { s with heap := h, toks := tk }) :
    wpAny (model prog w) A (pyIter (.ref l)) (fun it s₂ => LoopAtV prog w A h₀ env x body Q E it s₂) E s := by
  refine iter_ground (fun i m nx => ∃ d vs₁, LstAt l0 vs0 d vs₁ nx ∧ TsAre false vs₁ ((ps.take i).foldl stepW (z, false)).1 ∧ m xn = some (.ref d) ∧ m xa = some (.bool ((ps.take i).foldl stepW (z, false)).2) ∧ ∀ y, y ≠ x → y ≠ xn → y ≠ xa → m y = m₀ y) hh hl F N ⟨l0, vs0, .inr ⟨rfl, rfl, rfl⟩, by simpa using hv0, hm1, by simpa using hm2, fun _ _ _ _ => rfl⟩ ?_ ?_
  · rintro i v m₁ nx h tk own hiv hoff ⟨d, vs₁, hL, hv₁, e1, e2, hm⟩ F₁ N₁
    obtain ⟨p, t, hp, rfl⟩ := hv.get hiv
    have e : (fun y => if y = x then some (T false p t) else m₁ y) = fun y => if y = x then some (Value.str (st p) t) else if y = xa then some (.bool ((ps.take i).foldl stepW (z, false)).2) else if y = xn then some (.ref d) else m₀ y := by
      funext y
      by_cases h1 : y = x
      · simp [h1, T]
      · simp only [if_neg h1]
        by_cases h2 : y = xa
        · simp [h2, e2]
        · simp only [if_neg h2]
          by_cases h3 : y = xn
          · simp [h3, e1]
          · simp only [if_neg h3]; exact hm y h1 h3 h2
    rw [e] at F₁
    have hs : (ps.take (i + 1)).foldl stepW (z, false) = stepW ((ps.take i).foldl stepW (z, false)) p := by rw [List.take_add_one, hp]; simp
    rw [hs]
    refine wpAny_mono (turn p t (ps.take i) d vs₁ nx h tk own (List.mem_of_getElem? hp) (fun q hq => List.mem_of_mem_take hq) (by simp; omega) hL hv₁ hoff F₁ N₁) (fun f s₂ hT => ?_) fun _ _ e => e
    obtain ⟨hf, h', tk', m', d', vs', nx', news', e3, F', g1, g2, hm', N', hL', hv', hn', ho', hoff'⟩ := hT
    have fin : InvEndG h₀ env.locals (fun m nx => ∃ d vs₁, LstAt l0 vs0 d vs₁ nx ∧ TsAre false vs₁ (stepW ((ps.take i).foldl stepW (z, false)) p).1 ∧ m xn = some (.ref d) ∧ m xa = some (.bool (stepW ((ps.take i).foldl stepW (z, false)) p).2) ∧ ∀ y, y ≠ x → y ≠ xn → y ≠ xa → m y = m₀ y) own { s with heap := h, toks := tk } s₂ := by
      refine ⟨h', tk', m', news', nx', e3, F', N', hn', ho', ?_, d', vs', hL', hv', g1, g2, hm'⟩
      intro p hp b hb
      obtain ⟨q, hq, rfl⟩ := List.mem_map.mp hb
      exact hoff' p hp q hq
    rcases hf with rfl | rfl
    · exact fin
    · exact fin
  · rintro m₁ nx h tk ⟨d, vs₁, hL, hv₁, e1, e2, hm⟩ F₁ N₁
    rw [hv.len, List.take_length] at hv₁ e2
    refine done m₁ d vs₁ nx h tk hL hv₁ ?_ N₁
    have e : (fun y => if y = x then m₁ y else if y = xa then some (.bool (ps.foldl stepW (z, false)).2) else if y = xn then some (.ref d) else m₀ y) = m₁ := by
      funext y
      by_cases h1 : y = x
      · simp [h1]
      · simp only [if_neg h1]
        by_cases h2 : y = xa
        · simp [h2, e2]
        · simp only [if_neg h2]
          by_cases h3 : y = xn
          · simp [h3, e1]
          · simp only [if_neg h3]; exact (hm y h1 h3 h2).symm
    rw [e]; exact F₁
end
section
variable {names : List (List Nat)} {b : Bool} {p : List Nat}
theorem sw1 (h : p = [46, 46]) (hb : b = true) : (names.dropLast, b) = stepW (names, b) p := by simp [stepW, h, hb]
theorem sw2 (h : p = [46, 46]) (hb : b = false) : (names.dropLast, names.isEmpty) = stepW (names, b) p := by simp [stepW, h, hb]
theorem sw3 (h : ¬ p = [46, 46]) (h1 : ¬ p = []) (h2 : ¬ p = [46]) : (names ++ [p], b) = stepW (names, b) p := by simp [stepW, h, h1, h2]
theorem sw4 (h : ¬ p = [46, 46]) (h1 : p = []) : (names, b) = stepW (names, b) p := by simp [stepW, h1]
theorem sw5 (h : ¬ p = [46, 46]) (h1 : p = [46]) : (names, b) = stepW (names, b) p := by simp [stepW, h1]
end
theorem stepW_fst (ps : List (List Nat)) : ∀ (a : List (List Nat) × Bool), (ps.foldl stepW a).1 = walkN a.1 ps := by
  induction ps with
  | nil => intro a; rfl
  | cons p ps ih =>
    intro a
    rw [List.foldl_cons, ih]
    have : (stepW a p).1 = stepN a.1 p := by
      unfold stepW stepN
      by_cases h1 : p = [46, 46]
      · simp [h1]
      · by_cases h2 : p = []
        · simp [h2]
        · by_cases h3 : p = [46] <;> simp [h1, h2, h3]
    rw [this]; rfl

theorem TsAre.one {p : List Nat} {t : Tok} : TsAre false [.str (st p) t] [p] := ⟨⟨_, rfl⟩, trivial⟩
theorem new_off {D : Addr} {o : Obj} {own news : Led} (l1 : ∀ p ∈ news, p.1 < D) (hs : ∀ p ∈ own, p ∈ news) : ∀ p ∈ own, ∀ q ∈ [(D, o)], p.1 ≠ q.1 := fun p hp q hq => by
  simp only [List.mem_singleton] at hq; subst hq; exact Nat.ne_of_lt (l1 p (hs p hp))
theorem stepW_len1 (a : List (List Nat) × Bool) (p : List Nat) : (stepW a p).1.length ≤ a.1.length + 1 := by
  unfold stepW
  split
  · simp; omega
  · split <;> simp
theorem stepW_len (ps : List (List Nat)) : ∀ (a : List (List Nat) × Bool), (ps.foldl stepW a).1.length ≤ a.1.length + ps.length := by
  induction ps with
  | nil => intro a; simp
  | cons p ps ih =>
    intro a
    have := ih (stepW a p)
    have := stepW_len1 a p
    simp only [List.foldl_cons, List.length_cons]; omega
theorem stepW_mem (ps : List (List Nat)) : ∀ (a : List (List Nat) × Bool) (q : List Nat), q ∈ (ps.foldl stepW a).1 → q ∈ a.1 ∨ q ∈ ps := by
  induction ps with
  | nil => intro a q h; exact .inl h
  | cons p ps ih =>
    intro a q h
    rcases ih (stepW a p) q h with h1 | h1
    · have : q ∈ a.1 ∨ q = p := by
        unfold stepW at h1
        split at h1
        · exact .inl (List.dropLast_subset _ h1)
        · split at h1
          · rcases List.mem_append.mp h1 with h2 | h2
            · exact .inl h2
            · exact .inr (by simpa using h2)
          · exact .inl h1
      rcases this with h2 | h2
      · exact .inl h2
      · exact .inr (by simp [h2])
    · exact .inr (List.mem_cons_of_mem _ h1)
local macro_rules | `(tactic| walk_at "binaryOp Add ref ref") => `(tactic| (k_here; (with_reducible show wpAny _ _ (binaryOp Operator.Add (Value.ref _) (Value.ref _)) _ _ _); k_dflt (refine' add_list ?F ?N ?l ?v ?b ?u ?z ?_; (case F => k_asm); (case N => k_asm); (case b => exact News.isList (by k_asm) (by k_mem)); (case l => first | exact News.isList (by k_asm) (by k_mem) | exact ground_list (by k_asm) (by assumption)); (case v => assumption); (case u => exact TsAre.one); (case z => first | assumption | (simp only [List.length_cons, List.length_nil]; omega))); intro D' h' F' N' l1 hv'))
local macro_rules | `(tactic| walk_at "compareOp Eq ref ref") => `(tactic| (k_here; (with_reducible show wpAny _ _ (compareOp CmpOp.Eq (Value.ref _) (Value.ref _)) _ _ _); k_dflt (refine' eq_nil_list ?l ?v ?ok ?b ?u ?_; (case b => exact News.isList (by k_asm) (by k_mem)); (case l => first | exact News.isList (by k_asm) (by k_mem) | exact ground_list (by k_asm) (by assumption)); (case v => assumption); (case ok => assumption); (case u => ktr_units))))
local macro_rules | `(tactic| walk_at "subscriptTail Name Slice ref ref") => `(tactic| (k_here; (with_reducible show wpAny _ _ (subscriptTail _ (Expr.Slice none (some (Expr.UnaryOp _ _ _)) none _) _ _) _ _ _); (with_reducible rename Fr _ _ _ _ => F'); (with_reducible rename News _ _ _ _ => N'); (first
  | refine but_last (s := ⟨_, _, _, _, _⟩) F' N' (News.isList N' (by k_mem)) (by assumption) (by first | assumption | omega) ?_
  | refine but_last (s := ⟨_, _, _, _, _⟩) F' N' (ground_list F' (by assumption)) (by assumption) (by first | assumption | omega) ?_); intro D' h' F' N' l1 hv'))
local macro_rules | `(tactic| walk_at "exec For Name Name cons nil") => `(tactic| (k_here; (rename Fr _ _ _ _ => lF'); (with_unfolding_all refine' For_invVF lF' ?k1 ?k2 ?_; (case k1 => exact rfl); (case k2 => exact rfl); k_whole)))
/-- hands back a tuple of a list (the caller's own, or a new one) and a bool -/
def isWalk (l0 : Addr) (names : List (List Nat)) (b : Bool) (h h' : Heap) (v : Value) : Prop := ∃ a d n vs', v = .ref a ∧ h'.get? a = some (tup [.ref d, .bool b]) ∧ h.get? a = none ∧ h'.get? d = some (listOf (List.toArray vs') n) ∧ (d = l0 ∨ h.get? d = none) ∧ TsAre false vs' names
theorem isWalk_new {h₀ h' : Heap} {L a d l0 : Addr} {news : Led} {n : Nat} {vs : List Value} {names : List (List Nat)} {b : Bool} (N : News h₀ L h' news) (hm : (a, tup [.ref d, .bool b]) ∈ news) (hd : (d, listOf vs.toArray n) ∈ news) (hv : TsAre false vs names) : isWalk l0 names b h₀ h' (.ref a) :=
  ⟨a, d, n, vs, rfl, (N _ hm).1, (N _ hm).2.2, (N _ hd).1, .inr (N _ hd).2.2, hv⟩
theorem isWalk_old {h₀ h' : Heap} {L a d : Addr} {m : Str → Option Value} {news : Led} {n : Nat} {vs : List Value} {names : List (List Nat)} {b : Bool} (F : Fr h₀ L h' m) (N : News h₀ L h' news) (hm : (a, tup [.ref d, .bool b]) ∈ news) (hd : h₀.get? d = some (listOf vs.toArray n)) (hv : TsAre false vs names) : isWalk d names b h₀ h' (.ref a) :=
  ⟨a, d, n, vs, rfl, (N _ hm).1, (N _ hm).2.2, F.keep _ _ hd, .inl rfl, hv⟩
theorem walk_con (w : World) (l0 l : Addr) (vs0 vs : List Value) (n0 : Nat) (z ps : List (List Nat)) (hv0 : TsAre false vs0 z) (hv : TsAre false vs ps) (hz : z.length ≤ 10000) (hp : ps.length ≤ 900000) (hzok : ∀ p ∈ z, Ok p) (hpok : ∀ p ∈ ps, Ok p) :
    Con w 150 12 [.ref l0, .ref l] (fun h => h.get? l0 = some (listOf vs0.toArray n0) ∧ h.IsList l vs.toArray) (isWalk l0 (walkN z ps) (ps.foldl stepW (z, false)).2) := by
  w_top off
  unfold Con
  k_fill
  intros; rename_i hpre hret
  obtain ⟨hg0, hl⟩ := hpre
  have hl0 : Heap.IsList _ l0 vs0.toArray := ⟨_, hg0, rfl, n0, rfl⟩
  refine wpAny_call ?_
  k_dflt (refine' code_ground ?k1 ?k2 ?k3 ?k5 ?kA ?kF ?kK ?k6 ?k7 ?k8 ?k9 ?kB ?_ ?c2 ?c3 ?c4 ?c5; (case kA => exact rfl); (case kF => exact rfl); (case kK => assumption); (case k1 => k_asm); (case k2 => k_asm); (case k3 => k_asm); (case k5 => k_asm); (case k6 => k_is); (case k7 => k_is); (case k8 => ktr_room); (case k9 => exact BindsTo.of_eq rfl); (case c5 => decide); (case kB => exact locs rfl); (case c2 => exact rfl); (case c3 => exact rfl); (case c4 => exact rfl); k_whole; intro L' h' F' N' B' X' T'; (try dsimp only); (try k_fold))
  k_steps
  rename Fr _ _ _ _ => FF
  rename News _ _ _ _ => NN
  refine loop_walk (Str.ofString "names") (Str.ofString "above") (x := Str.ofString "piece") (by decide) (by decide) (by decide) ?_ hl hv hv0 FF NN (l0 := l0) ?_ ?_ ?_ ?_
  · exact rfl
  · exact rfl
  · exact rfl
  · intro p t before d vs₁ nx h tk own hp hb hbl hL hv₁ hoff F₁ N₁
    have hpk : Ok p := hpok p hp
    have hlen : (before.foldl stepW (z, false)).1.length ≤ 999999 := by
      have := stepW_len before (z, false); dsimp only at this; omega
    have hlen2 : (before.foldl stepW (z, false)).1.length ≤ 1000000 := by omega
    have hnok : ∀ q ∈ (before.foldl stepW (z, false)).1, Ok q := fun q hq => (stepW_mem before (z, false) q hq).elim (fun h => hzok q h) (fun h => hpok q (hb q h))
    clear FF NN
    generalize before.foldl stepW (z, false) = aa at hv₁ hlen hlen2 hnok F₁ ⊢
    obtain ⟨names, b⟩ := aa
    dsimp only at hv₁ hlen hlen2 hnok F₁ ⊢
    rcases hL with ⟨n, rfl⟩ | ⟨rfl, rfl, rfl⟩
    · simp only [List.cons_append, List.nil_append] at N₁
      have hoff' : ∀ p ∈ own, ∀ q ∈ [(d, listOf vs₁.toArray n)], p.1 ≠ q.1 := fun p hp q hq => hoff p hp _ (List.mem_map_of_mem hq)
      k_steps
      all_goals (try dsimp only)
      k_steps
      all_goals (rename Fr _ _ _ _ => FF; rename News _ _ _ _ => NN)
      all_goals (first
        | exact TurnWalk.intro (sw5 (by assumption) (by assumption)) (.inl rfl) FF NN rfl rfl (fun z h1 h2 h3 => by simp only [if_neg h1, if_neg h2, if_neg h3]) (.inl ⟨n, rfl⟩) hv₁ (by k_allIn) (fun p hp => by k_ownIn) hoff'
        | exact TurnWalk.intro (sw4 (by assumption) (of_decide_eq_true (by assumption))) (.inl rfl) FF NN rfl rfl (fun z h1 h2 h3 => by simp only [if_neg h1, if_neg h2, if_neg h3]) (.inl ⟨n, rfl⟩) hv₁ (by k_allIn) (fun p hp => by k_ownIn) hoff'
        | (first
          | exact TurnWalk.intro (sw3 (by assumption) (of_decide_eq_false (by assumption)) (by assumption)) (.inl rfl) FF NN rfl rfl (fun z h1 h2 h3 => by simp only [if_neg h1, if_neg h2, if_neg h3]) (.inl ⟨_, rfl⟩) (by assumption) (by k_allIn) (fun p hp => by k_ownIn) (new_off (by assumption) (fun p hp => by k_ownIn))
          | exact TurnWalk.intro (sw1 (by assumption) (by assumption)) (.inl rfl) FF NN rfl rfl (fun z h1 h2 h3 => by simp only [if_neg h1, if_neg h2, if_neg h3]) (.inl ⟨_, rfl⟩) (by assumption) (by k_allIn) (fun p hp => by k_ownIn) (new_off (by assumption) (fun p hp => by k_ownIn))
          | exact TurnWalk.intro (sw2 (by assumption) (by assumption)) (.inl rfl) FF NN rfl rfl (fun z h1 h2 h3 => by simp only [if_neg h1, if_neg h2, if_neg h3]) (.inl ⟨_, rfl⟩) (by assumption) (by k_allIn) (fun p hp => by k_ownIn) (new_off (by assumption) (fun p hp => by k_ownIn)))
        )
    · clear hv0
      simp only [List.nil_append] at N₁
      have hoff' : ∀ p ∈ own, ∀ q ∈ ([] : Led), p.1 ≠ q.1 := fun p hp q hq => nomatch hq
      k_steps
      all_goals (try dsimp only)
      k_steps
      all_goals (rename Fr _ _ _ _ => FF; rename News _ _ _ _ => NN)
      all_goals (first
        | exact TurnWalk.intro (sw5 (by assumption) (by assumption)) (.inl rfl) FF NN rfl rfl (fun z h1 h2 h3 => by simp only [if_neg h1, if_neg h2, if_neg h3]) (.inr ⟨rfl, rfl, rfl⟩) hv₁ (fun _ hq => nomatch hq) (fun p hp => by k_ownIn) hoff'
        | exact TurnWalk.intro (sw4 (by assumption) (of_decide_eq_true (by assumption))) (.inl rfl) FF NN rfl rfl (fun z h1 h2 h3 => by simp only [if_neg h1, if_neg h2, if_neg h3]) (.inr ⟨rfl, rfl, rfl⟩) hv₁ (fun _ hq => nomatch hq) (fun p hp => by k_ownIn) hoff'
        | (first
          | exact TurnWalk.intro (sw3 (by assumption) (of_decide_eq_false (by assumption)) (by assumption)) (.inl rfl) FF NN rfl rfl (fun z h1 h2 h3 => by simp only [if_neg h1, if_neg h2, if_neg h3]) (.inl ⟨_, rfl⟩) (by assumption) (by k_allIn) (fun p hp => by k_ownIn) (new_off (by assumption) (fun p hp => by k_ownIn))
          | exact TurnWalk.intro (sw1 (by assumption) (by assumption)) (.inl rfl) FF NN rfl rfl (fun z h1 h2 h3 => by simp only [if_neg h1, if_neg h2, if_neg h3]) (.inl ⟨_, rfl⟩) (by assumption) (by k_allIn) (fun p hp => by k_ownIn) (new_off (by assumption) (fun p hp => by k_ownIn))
          | exact TurnWalk.intro (sw2 (by assumption) (by assumption)) (.inl rfl) FF NN rfl rfl (fun z h1 h2 h3 => by simp only [if_neg h1, if_neg h2, if_neg h3]) (.inl ⟨_, rfl⟩) (by assumption) (by k_allIn) (fun p hp => by k_ownIn) (new_off (by assumption) (fun p hp => by k_ownIn)))
        )
  · intro u d vs₁ nx h tk hL hv₁ F₁ N₁
    clear FF NN
    rw [stepW_fst] at hv₁
    dsimp only at hv₁
    rcases hL with ⟨n, rfl⟩ | ⟨rfl, rfl, rfl⟩
    · k_steps
      rename Fr _ _ _ _ => FF
      rename News _ _ _ _ => NN
      exact hret _ _ _ (isWalk_new NN (by k_mem) (by k_mem) hv₁) (Fr.keep (by k_asm))
    · clear hv0
      k_steps
      rename Fr _ _ _ _ => FF
      rename News _ _ _ _ => NN
      exact hret _ _ _ (isWalk_old FF NN (by k_mem) hg0 hv₁) (Fr.keep (by k_asm))
def pieces7 : List (List Nat) := [[97], [98], [97, 98], [46], [46, 46], [], [46, 46, 46]]
def pieceOf (x : Int) : List Nat := if x % 8 < 7 then pieces7.getD (x % 8).toNat [] else [(x / 8 % 256).toNat]
theorem pieceOf_ok (x : Int) : Ok (pieceOf x) := by
  unfold pieceOf
  have h0 : 0 ≤ x % 8 := by omega
  have h8 : x % 8 < 8 := by omega
  split
  · have : (x % 8).toNat < 7 := by omega
    generalize (x % 8).toNat = j at this
    match j, this with
    | 0, _ => exact ⟨by decide, by decide⟩
    | 1, _ => exact ⟨by decide, by decide⟩
    | 2, _ => exact ⟨by decide, by decide⟩
    | 3, _ => exact ⟨by decide, by decide⟩
    | 4, _ => exact ⟨by decide, by decide⟩
    | 5, _ => exact ⟨by decide, by decide⟩
    | 6, _ => exact ⟨by decide, by decide⟩
  · exact Ok.one (by omega)
section
variable {prog : Program} {w : World} {A : Around} {E : Value → Shared → Prop} {s : Shared} {env : Env} {h₀ : Heap} {x : Str} {body : List Stmt} {Q : Flow → Shared → Prop}
def TurnMap (h₀ : Heap) (L : Addr) (x : Str) (d : Addr) (m₀ : Str → Option Value) (own : Led) (a : List (List Nat)) (s₁ : Shared) (f : Flow) (s₂ : Shared) : Prop :=
  (f = .next ∨ f = .cont) ∧ ∃ h' tk m' vs' n news', s₂ = { s₁ with heap := h', toks := tk } ∧ Fr h₀ L h' m' ∧ (∀ z, z ≠ x → m' z = m₀ z) ∧ News h₀ L h' news' ∧ TsAre false vs' a ∧ ((d, listOf (List.toArray vs') n) ∈ news') ∧ (∀ p ∈ own, p ∈ news')
theorem TurnMap.intro {L d : Addr} {m₀ m' : Str → Option Value} {own news' : Led} {vs' : List Value} {n : Nat} {a a' : List (List Nat)} {s₁ : Shared} {f : Flow} {h' : Heap} {tk : Nat} (e : a = a') (hf : f = .next ∨ f = .cont) (F : Fr h₀ L h' m') (N : News h₀ L h' news')
    (hm : ∀ z, z ≠ x → m' z = m₀ z) (hv : TsAre false vs' a) (hn : (d, listOf (List.toArray vs') n) ∈ news') (ho : ∀ p ∈ own, p ∈ news') : TurnMap h₀ L x d m₀ own a' s₁ f { s₁ with heap := h', toks := tk } := by
  subst e; exact ⟨hf, h', tk, m', vs', n, news', rfl, F, hm, N, hv, hn, ho⟩
theorem loop_map {l d : Addr} {vs : List Value} {ns : List Int} {m₀ : Str → Option Value} (G : Int → List Nat)
    (hh : A.handled = none) (hl : h₀.IsList l vs.toArray) (hi : IntsAre vs ns) (F : Fr h₀ env.locals s.heap m₀) {n0 : Nat} (N : News h₀ env.locals s.heap [(d, listOf (List.toArray []) n0)])
    (turn : ∀ k t (before : List Int) vs₁ n h tk own, k ∈ ns → before.length < ns.length → TsAre false vs₁ (before.map G) → OwnOff own [d] →
      Fr h₀ env.locals h (fun y => if y = x then some (.int k t) else m₀ y) → News h₀ env.locals h ((d, listOf (List.toArray vs₁) n) :: own) →
      wpAny (model prog w) A (execs body env) (TurnMap h₀ env.locals x d m₀ own (before.map G ++ [G k]) { s with heap := h, toks := tk }) E { s with heap := h, toks := tk })
    (done : ∀ (u : Str → Option Value) vs₁ n h tk, TsAre false vs₁ (ns.map G) → Fr h₀ env.locals h (fun y => if y = x then u y else m₀ y) → News h₀ env.locals h [(d, listOf (List.toArray vs₁) n)] → Q .next { s with heap := h, toks := tk }) :
    wpAny (model prog w) A (pyIter (.ref l)) (fun it s₂ => LoopAtV prog w A h₀ env x body Q E it s₂) E s := by
  have hlen : vs.length = ns.length := hi.length
  refine iter_ground (fun i m nx => ∃ vs₁ n, nx = [(d, listOf (List.toArray vs₁) n)] ∧ TsAre false vs₁ ((ns.take i).map G) ∧ ∀ y, y ≠ x → m y = m₀ y) hh hl F N ⟨[], n0, rfl, trivial, fun _ _ => rfl⟩ ?_ ?_
  · rintro i v m₁ nx h tk own hiv hoff ⟨vs₁, n, rfl, hv₁, hm⟩ F₁ N₁
    have hil : i < ns.length := by rw [← hlen]; exact (List.getElem?_eq_some_iff.mp hiv).1
    obtain ⟨t, hx⟩ := hi.get i ns[i] (List.getElem?_eq_getElem hil)
    rw [hiv] at hx
    obtain rfl : v = .int ns[i] t := by simpa using hx
    have e : (fun y => if y = x then some (Value.int ns[i] t) else m₁ y) = fun y => if y = x then some (.int ns[i] t) else m₀ y := by
      funext y
      by_cases h1 : y = x
      · simp [h1]
      · simp only [if_neg h1]; exact hm y h1
    rw [e] at F₁
    have hs : (ns.take (i + 1)).map G = (ns.take i).map G ++ [G ns[i]] := by rw [List.take_add_one, List.getElem?_eq_getElem hil, List.map_append]; rfl
    rw [hs]
    refine wpAny_mono (turn ns[i] t (ns.take i) vs₁ n h tk own (List.getElem_mem hil) (by simp; omega) hv₁ hoff F₁ N₁) (fun f s₂ hT => ?_) fun _ _ e => e
    obtain ⟨hf, h', tk', m', vs', n', news', e3, F', hm', N', hv', hn', ho'⟩ := hT
    have fin : InvEndG h₀ env.locals (fun m nx => ∃ vs₁ n, nx = [(d, listOf (List.toArray vs₁) n)] ∧ TsAre false vs₁ ((ns.take i).map G ++ [G ns[i]]) ∧ ∀ y, y ≠ x → m y = m₀ y) own { s with heap := h, toks := tk } s₂ := by
      refine ⟨h', tk', m', news', [(d, listOf (List.toArray vs') n')], e3, F', N', ?_, ho', hoff, vs', n', rfl, hv', hm'⟩
      intro p hp
      rw [List.mem_singleton.mp hp]; exact hn'
    rcases hf with rfl | rfl
    · exact fin
    · exact fin
  · rintro m₁ nx h tk ⟨vs₁, n, rfl, hv₁, hm⟩ F₁ N₁
    rw [hlen, List.take_length] at hv₁
    refine done m₁ vs₁ n h tk hv₁ ?_ N₁
    have e : (fun y => if y = x then m₁ y else m₀ y) = m₁ := by
      funext y
      by_cases h1 : y = x
      · simp [h1]
      · simp only [if_neg h1]; exact (hm y h1).symm
    rw [e]; exact F₁
end
theorem mul_st {prog : Program} {w : World} {A : Around} {E : Value → Shared → Prop} {s : Shared} {c n : Nat} {t u : Tok} {Q : Value → Shared → Prop} (hn : n ≤ 100) (h : ∀ t' k, Q (.str (st (List.replicate n c)) t') { s with toks := k }) : wpAny (model prog w) A (binaryOp .Mult (.str (st [c]) t) (.int (n : Int) u)) Q E s := by
  refine SB.mul (mulOk_of 1 100 (by simp [st, Str.length]) (by omega) (by omega) (by decide) (by decide)) fun t' k => ?_
  have e : Txt.mul (st [c]) (n : Int) = st (List.replicate n c) := by
    have := mul_one_list c (n : Int)
    show Txt.mul ⟨#[c]⟩ (n : Int) = ⟨(List.replicate n c).toArray⟩
    rw [Int.toNat_natCast] at this
    rw [← this]
  rw [e]; exact h t' k
theorem pieceOf_len (x : Int) : (pieceOf x).length ≤ 3 := by
  unfold pieceOf
  split
  · have : (x % 8).toNat < 7 := by omega
    generalize (x % 8).toNat = j at this
    match j, this with
    | 0, _ => decide
    | 1, _ => decide
    | 2, _ => decide
    | 3, _ => decide
    | 4, _ => decide
    | 5, _ => decide
    | 6, _ => decide
  · simp
theorem weight_pieces (ns : List Int) : weightS (ns.map pieceOf) ≤ 4 * ns.length := by
  induction ns with
  | nil => simp [weightS]
  | cons n ns ih =>
    have := pieceOf_len n
    simp only [List.map_cons, weightS, List.length_cons]; omega
theorem piece_at {x : Int} {j : Nat} {p : List Nat} (h7 : x.fmod 8 < 7) (e : x.fmod 8 = (j : Int)) (hp : pieces7.getD j [] = p) : pieceOf x = p := by
  have e1 : x.fmod 8 = x % 8 := Int.fmod_eq_emod_of_nonneg x (by decide)
  unfold pieceOf
  rw [e1] at e h7
  rw [if_pos h7, e, Int.toNat_natCast, hp]
theorem piece_chr {x : Int} (h7 : ¬ x.fmod 8 < 7) : pieceOf x = [((x.fdiv 8).fmod 256).toNat] := by
  have e1 : x.fmod 8 = x % 8 := Int.fmod_eq_emod_of_nonneg x (by decide)
  have e2 : x.fdiv 8 = x / 8 := Int.fdiv_eq_ediv_of_nonneg x (by decide)
  have e3 : (x / 8).fmod 256 = x / 8 % 256 := Int.fmod_eq_emod_of_nonneg _ (by decide)
  unfold pieceOf
  rw [e1] at h7
  rw [if_neg h7, e2, e3]
theorem TsAre.put {v : Value} {vs : List Value} {ps : List (List Nat)} {p : List Nat} {t : Tok} (e : v = .str (st p) t) (h : TsAre false vs ps) : TsAre false (vs ++ [v]) (ps ++ [p]) := by
  subst e; exact h.append ⟨⟨t, rfl⟩, trivial⟩
theorem pieces_ok (ns : List Int) (h : ns.length ≤ 1000) : Ok (joinS (ns.map pieceOf)) := by
  refine ⟨joinS_chars (by omega) fun q hq c hc => ?_, ?_⟩
  · obtain ⟨n, _, rfl⟩ := List.mem_map.mp hq
    exact (pieceOf_ok n).lt c hc
  · have := joinS_weight (ns.map pieceOf)
    have := weight_pieces ns
    omega
local macro_rules | `(tactic| walk_at "binaryOp Mult str int") => `(tactic| (k_here; (with_reducible show wpAny _ _ (binaryOp Operator.Mult (Value.str (st [47]) _) (Value.int _ _)) _ _ _); k_dflt (refine' mul_st ?b ?_; (case b => first | assumption | omega)); intro _ _))
def pathOf (ns : List Int) (k : Nat) : List Nat := List.replicate k 47 ++ joinS (ns.map pieceOf)
theorem path_con (w : World) (l : Addr) (vs : List Value) (ns : List Int) (k : Nat) (t : Tok) (hi : IntsAre vs ns) (hn : ns.length ≤ 1000) (hk : k ≤ 100) :
    Con w 143 12 [.ref l, .int (k : Int) t] (fun h => h.IsList l vs.toArray) (isT false (pathOf ns k)) := by
  w_top off
  unfold Con
  k_fill
  have hI : True ∧ IntsAre vs ns := ⟨trivial, hi⟩
  clear hi
  intros; rename_i hl hret
  refine wpAny_call ?_
  k_dflt (refine' code_ground ?k1 ?k2 ?k3 ?k5 ?kA ?kF ?kK ?k6 ?k7 ?k8 ?k9 ?kB ?_ ?c2 ?c3 ?c4 ?c5; (case kA => exact rfl); (case kF => exact rfl); (case kK => assumption); (case k1 => k_asm); (case k2 => k_asm); (case k3 => k_asm); (case k5 => k_asm); (case k6 => k_is); (case k7 => k_is); (case k8 => ktr_room); (case k9 => exact BindsTo.of_eq rfl); (case c5 => decide); (case kB => exact locs rfl); (case c2 => exact rfl); (case c3 => exact rfl); (case c4 => exact rfl); k_whole; intro L' h' F' N' B' X' T'; (try dsimp only); (try k_fold))
  k_steps
  rename Fr _ _ _ _ => FF
  rename News _ _ _ _ => NN
  refine loop_map (x := Str.ofString "x") pieceOf ?_ hl hI.2 FF NN ?_ ?_
  · exact rfl
  · intro k t before vs₁ n h tk own hp hbl hv₁ hoff F₁ N₁
    clear FF NN
    have hblen : (before.map pieceOf).length ≤ 1000000 := by rw [List.length_map]; omega
    k_steps
    all_goals (rename Fr _ _ _ _ => FF; rename News _ _ _ _ => NN)
    all_goals (first
      | exact TurnMap.intro (congrArg (fun q => before.map pieceOf ++ [q]) (piece_at (j := 0) (by assumption) (by assumption) rfl).symm) (.inl rfl) FF NN (fun z h1 => by simp only [if_neg h1]) (TsAre.put rfl hv₁) (by k_mem) (fun p hp => by k_ownIn)
      | exact TurnMap.intro (congrArg (fun q => before.map pieceOf ++ [q]) (piece_at (j := 1) (by assumption) (by assumption) rfl).symm) (.inl rfl) FF NN (fun z h1 => by simp only [if_neg h1]) (TsAre.put rfl hv₁) (by k_mem) (fun p hp => by k_ownIn)
      | exact TurnMap.intro (congrArg (fun q => before.map pieceOf ++ [q]) (piece_at (j := 2) (by assumption) (by assumption) rfl).symm) (.inl rfl) FF NN (fun z h1 => by simp only [if_neg h1]) (TsAre.put rfl hv₁) (by k_mem) (fun p hp => by k_ownIn)
      | exact TurnMap.intro (congrArg (fun q => before.map pieceOf ++ [q]) (piece_at (j := 3) (by assumption) (by assumption) rfl).symm) (.inl rfl) FF NN (fun z h1 => by simp only [if_neg h1]) (TsAre.put rfl hv₁) (by k_mem) (fun p hp => by k_ownIn)
      | exact TurnMap.intro (congrArg (fun q => before.map pieceOf ++ [q]) (piece_at (j := 4) (by assumption) (by assumption) rfl).symm) (.inl rfl) FF NN (fun z h1 => by simp only [if_neg h1]) (TsAre.put rfl hv₁) (by k_mem) (fun p hp => by k_ownIn)
      | exact TurnMap.intro (congrArg (fun q => before.map pieceOf ++ [q]) (piece_at (j := 5) (by assumption) (by assumption) rfl).symm) (.inl rfl) FF NN (fun z h1 => by simp only [if_neg h1]) (TsAre.put rfl hv₁) (by k_mem) (fun p hp => by k_ownIn)
      | exact TurnMap.intro (congrArg (fun q => before.map pieceOf ++ [q]) (piece_at (j := 6) (by assumption) (by assumption) rfl).symm) (.inl rfl) FF NN (fun z h1 => by simp only [if_neg h1]) (TsAre.put rfl hv₁) (by k_mem) (fun p hp => by k_ownIn)
      | exact TurnMap.intro (congrArg (fun q => before.map pieceOf ++ [q]) (piece_chr (by assumption)).symm) (.inl rfl) FF NN (fun z h1 => by simp only [if_neg h1]) (TsAre.put rfl hv₁) (by k_mem) (fun p hp => by k_ownIn))
  · intro u vs₁ n h tk hv₁ F₁ N₁
    clear FF NN
    have hwp := weight_pieces ns
    have hwt : weightS (ns.map pieceOf) ≤ 1000000 := by omega
    have hro : Ok (List.replicate k 47) := ⟨fun c hc => by rw [(List.mem_replicate.mp hc).2]; decide, by simp; omega⟩
    have hjo : Ok (joinS (ns.map pieceOf)) := pieces_ok ns (by omega)
    have hle : (List.replicate k 47 ++ joinS (ns.map pieceOf)).length ≤ 100000 := by have := joinS_weight (ns.map pieceOf); simp; omega
    k_steps
    exact hret _ _ _ (isT_s rfl) (Fr.keep (by k_asm))
section
variable {prog : Program} {w : World} {A A₀ : Around} {s : Shared} {K : Frag} {L : Addr} {h₀ base : Heap} {m mg mb : Str → Option Value} {p : Program} {loose : List Str} {mean : ExcName → Option Value}
/-- a def with cells entered upon the heap as it stands -/
theorem cells_ground {env : Env} {outer : List Env} {R : Result → Shared → Prop} {name qual : Str} {params : Arguments} {body : List Stmt} {scope : Scope} {dV kV doc pm cdv ct oc : Value} {an od : Option Addr} {osl : Array (Option Value)} {f : Addr} {args : Args} {binds : List (Str × Value)}
    (B : Below A₀ base outer h₀) (F : Fr h₀ L s.heap m) (X₀ : K.In h₀) (T : Top p loose mean mg mb h₀) (hA : A.frames = some (env :: outer)) (hf : env.frame = some L) (hke : env.scope.kind = .function)
    (ho : K.lookup f = some ⟨oc, od, .func (fnOf name qual params body scope dV kV doc pm an cdv ct), osl⟩) (hcd : codeIn K cdv qual = true) (hroom : A.depth < recursionLimit)
    (hbind : BindsTo s (fnOf name qual params body scope dV kV doc pm an cdv ct) args binds) (hkind : (binds.all fun y => scope.names.lookup y.1 == some .local || scope.names.lookup y.1 == some .cell) = true)
    (hnd : ((cellsFrom 0 scope.names []).map (·.1)).Nodup)
    (h : ∀ L' h₁ tk cells, Fr s.heap L' h₁ (bindL (envOfC qual scope L' f cdv).kindOf binds fun _ => none) → News s.heap L' h₁ cells →
      CellsAre (bindC (envOfC qual scope L' f cdv).kindOf binds fun _ => none) (cellsFrom (L' + 1) scope.names []) cells → Below A base (env :: outer) s.heap → K.In s.heap → Top p loose mean mg mb s.heap →
      wpAny (model prog w) (A.deeper (envOfC qual scope L' f cdv)) (execs body (envOfC qual scope L' f cdv))
        (fun fl s' => R (.ok (.ret (match fl with | .ret v => v | _ => .none))) s')
        (fun e s' => wpAny (model prog w) (A.deeper (envOfC qual scope L' f cdv)) (leaving (envOfC qual scope L' f cdv) e) (fun _ s'' => R (.error e) s'') (fun e' s'' => R (.error e') s'') s')
        { s with heap := h₁, toks := tk })
    (hco : scope.isCoroutine = false) (hgen : scope.isGenerator = false) (hk : scope.kind = .function) : codeAny (model prog w) A (.call (.ref f) args) R s := by
  have B₁ := pushX B F hf hke
  have hlim := T.nolimit
  have hcd' := codeRec_of (X₀.keeps F.keep) hcd
  refine codeAny_call_function (fd := fnOf name qual params body scope dV kV doc pm an cdv ct) (body := body) hroom ((X₀.keeps F.keep) _ _ ho) rfl hco hgen rfl hcd' (hbind _ _ _ _ ?_)
  refine wpAny_newFunctionEnv_cells hk (kindsX hkind _) fun env' he s' x => ?_
  subst he
  refine ⟨(hlim.keeps F.keep).keeps x.toInCall.keep, codeAny_func ?_⟩
  obtain ⟨h₁, tk, rfl, _⟩ := x.done
  have hk₁ := x.toInCall.keep
  obtain ⟨cells, NC, Y⟩ := Cl.news (h₀ := s.heap) (Nat.le_refl _) fun n c hm => ⟨x.cell n c (lookup_of_mem_nodup (cellsFrom_names scope.names 0 (s.heap.objs.size + 1) [] [] rfl ▸ hnd) hm), x.above n c hm⟩
  exact h s.heap.objs.size h₁ tk cells ⟨x.toInCall.ns, hk₁, Nat.le_refl _⟩ (fun p hp => NC p hp) Y ⟨hA, fun b o e => F.keep b o (B.stays b o e), B₁.frames⟩ (X₀.keeps F.keep) (T.keeps F.keep)
end
section
theorem owner_map : Manifest.owners.lookup (String.ofList ['p', 'a', 'm'].reverse) = some Manifest.sig_map := by kernel_rfl
theorem slot_map_init : Slot "map" "__init__" "object.__init__" :=
  .of (owner := "object") (n := "__init__") (by rw [typeLookup_type, builtinLookup_eq_fast]; kernel_rfl) (by decide +kernel) (by decide +kernel) (by decide +kernel)
    (by first | exact .inl (by decide +kernel) | exact .inr (by decide +kernel)) (by rw [isSubtype_type]; kernel_rfl)
theorem slot_map_iter : Slot "map" "__iter__" "map.__iter__" :=
  .of (owner := "map") (n := "__iter__") (by rw [typeLookup_type, builtinLookup_eq_fast]; kernel_rfl) (by decide +kernel) (by decide +kernel) (by decide +kernel)
    (by first | exact .inl (by decide +kernel) | exact .inr (by decide +kernel)) (by rw [isSubtype_type]; kernel_rfl)
theorem slot_map_next : Slot "map" "__next__" "map.__next__" :=
  .of (owner := "map") (n := "__next__") (by rw [typeLookup_type, builtinLookup_eq_fast]; kernel_rfl) (by decide +kernel) (by decide +kernel) (by decide +kernel)
    (by first | exact .inl (by decide +kernel) | exact .inr (by decide +kernel)) (by rw [isSubtype_type]; kernel_rfl)
theorem entry_map_next : entryFor table "map.__next__" = some Builtin.«map.__next__» := entryFor_of_tree (by kernel_rfl)
theorem args_map_next (a : Value) : argsOk "map.__next__" ⟨[a], []⟩ := by
  unfold argsOk; rw [signature?_of (id := "map.__next__") (n := ['_', '_', 't', 'x', 'e', 'n', '_', '_']) (o := ['p', 'a', 'm']) (by kernel_rfl) owner_map]; kernel_rfl
theorem args_map_iter (a : Value) : argsOk "map.__iter__" ⟨[a], []⟩ := by
  unfold argsOk; rw [signature?_of (id := "map.__iter__") (n := ['_', '_', 'r', 'e', 't', 'i', '_', '_']) (o := ['p', 'a', 'm']) (by kernel_rfl) owner_map]; kernel_rfl
theorem entry_map_iter : entryFor table "map.__iter__" = some Builtin.«dict_keyiterator.__iter__» :=
  entryFor_alias (id' := "dict_keyiterator.__iter__") (by kernel_rfl) (by first | rfl | decide +kernel | (unfold String.splitOn; simp +decide [String.splitOnAux])) (by decide +kernel) (by kernel_rfl)
theorem mro_map : mroOf (.type "map") = pure [.type "map", .type "object"] := by rw [mroOf_type]; kernel_rfl
theorem lookup_map_new : typeLookup (.type "map") "__new__" = pure (some (.builtin "map.__new__")) := by rw [typeLookup_type, builtinLookup_eq_fast]; kernel_rfl
theorem called_map : TypeCalled "map" "map.__new__" "object.__init__" :=
  ⟨by decide +kernel, by decide +kernel, ⟨_, _, mro_map⟩, madeBy_type mro_map lookup_map_new (by decide +kernel), by decide +kernel, by rw [isSubtype_type]; kernel_rfl, slot_map_init⟩
theorem typeCall_map (a b : Value) : checkTypeCall "map" ⟨[a, b], []⟩ = pure () := by kernel_rfl
theorem newCall_map (a b : Value) : checkBuiltinCall "map.__new__" ⟨[.type "map", a, b], []⟩ = pure () := by kernel_rfl
theorem entry_map_new : entryFor table "map.__new__" = some Builtin.«map.__new__» := entryFor_of_tree (by kernel_rfl)
theorem sub_map : isSubtype (.type "map") (.type "map") = pure true := by rw [isSubtype_type]; kernel_rfl
theorem map_no_len : typeLookup (.type "map") "__len__" = pure none := by rw [typeLookup_type, builtinLookup_eq_fast]; kernel_rfl
theorem map_no_hint : typeLookup (.type "map") "__length_hint__" = pure none := by rw [typeLookup_type, builtinLookup_eq_fast]; kernel_rfl
abbrev mapH1 (h : Heap) (l : Addr) : Heap := h.push { cls := .type "list_iterator", data := .fields #[.ref l, .int 0 0] }
abbrev mapH2 (h : Heap) (l : Addr) : Heap := (mapH1 h l).push { cls := .type "tuple", data := .seq #[.ref h.objs.size] }
abbrev mapH3 (h : Heap) (l : Addr) (f : Value) : Heap := (mapH2 h l).push { cls := .type "map", data := .fields #[.ref (mapH1 h l).objs.size, f] }
abbrev IsMap (h : Heap) (z TI : Addr) (f : Value) : Prop :=
  h.get? z = some { cls := .type "map", dict := none, data := .fields #[.ref TI, f], slots := #[] }
abbrev IsOne (h : Heap) (TI : Addr) (v : Value) : Prop := h.get? TI = some { cls := .type "tuple", dict := none, data := .seq #[v], slots := #[] }
theorem meets_map_new (f : Value) (l : Addr) (xs : Array Value) :
    Meets (Builtin.«map.__new__» ⟨[.type "map", f, .ref l], []⟩) (fun _ R s => s.heap.IsList l xs ∧
      R (.ok (.ret (.ref (mapH2 s.heap l).objs.size))) { s with heap := mapH3 s.heap l f }) :=
  .of_wp fun prog w A R s h => by
    obtain ⟨hp, g, d, tk, os⟩ := s; obtain ⟨hl1, h⟩ := h
    have hsub := sub_map
    have hL1 : Heap.IsList (Shared.heap ⟨hp, g, d, tk, os⟩) l xs := hl1
    wp_walk using wpAny_pyIter_list hL1
    exact ⟨_, rfl, h⟩
variable {prog : Program} {w : World} {A : Around} {E : Value → Shared → Prop} {s : Shared}
theorem call_map {f : Value} {l : Addr} {xs : Array Value} {Q : Value → Shared → Prop} (hl : s.heap.IsList l xs)
    (h : ∀ h', IsMap h' (s.heap.objs.size + 2) (s.heap.objs.size + 1) f → IsOne h' (s.heap.objs.size + 1) (.ref s.heap.objs.size) → h'.IsListIter s.heap.objs.size l 0 → h'.objs.size = s.heap.objs.size + 3 →
      (∀ c o, s.heap.get? c = some o → h'.get? c = some o) → Q (.ref (s.heap.objs.size + 2)) { s with heap := h' }) :
    wpAny (model prog w) A (call (.type "map") [f, .ref l]) Q E s := by
  refine callType_new called_map (by decide) (typeCall_map _ _) (newCall_map _ _) (fun obj => F.args_object_init_3 obj _ _) entry_map_new
    (meets_map_new f l xs) ⟨hl, ?_⟩
  have z1 : (mapH1 s.heap l).objs.size = s.heap.objs.size + 1 := Heap.size_push ..
  have z2 : (mapH2 s.heap l).objs.size = s.heap.objs.size + 2 := by rw [Heap.size_push, z1]
  have z3 : (mapH3 s.heap l f).objs.size = s.heap.objs.size + 3 := by rw [Heap.size_push, z2]
  have g3 : (mapH3 s.heap l f).get? (mapH2 s.heap l).objs.size = some _ := Heap.get?_push_size _ rfl
  have g2 : (mapH3 s.heap l f).get? (mapH1 s.heap l).objs.size = some _ := Heap.get?_push_of_some _ (Heap.get?_push_size _ rfl)
  have g1 : (mapH3 s.heap l f).get? s.heap.objs.size = some _ := Heap.get?_push_of_some _ (Heap.get?_push_of_some _ (Heap.get?_push_size _ rfl))
  show _ ∧ _
  rw [z1, z2] at g3
  rw [z1] at g2
  rw [z2]
  exact ⟨⟨_, g3, rfl⟩, h _ g3 g2 ⟨_, g1, rfl, rfl⟩ z3 fun c o x => Heap.get?_push_of_some _ (Heap.get?_push_of_some _ (Heap.get?_push_of_some _ x))⟩
end
section
variable {prog : Program} {w : World} {A : Around} {E : Value → Shared → Prop} {s : Shared}
theorem map_next_item {z TI it l : Addr} {i : Nat} {f : Value} {items : Array Value} {x : Value} {Q : Value → Shared → Prop} (hz : IsMap s.heap z TI f) (hTI : IsOne s.heap TI (.ref it)) (hzi : z ≠ it)
    (hit : s.heap.IsListIter it l i) (hl : s.heap.IsList l items) (hx : items[i]? = some x)
    (hc : ∀ h', h'.IsListIter it l (i + 1) → Heap.SameBut it s.heap h' → wpAny (model prog w) A (call f [x]) Q E { s with heap := h' }) :
    wpAny (model prog w) A (Builtin.«map.__next__» ⟨[.ref z], []⟩) (fun fin s' => ∃ v, fin = .done (.ret v) ∧ Q v s') E s := by
  show wpAny _ _ (field (.ref z) 0 >>= _) _ _ _
  refine wpAny_bind (wpAny_field hz rfl (x := .ref TI) rfl ?_)
  refine wpAny_bind (wpAny_seqItems hTI rfl ?_)
  simp only [List.forIn_cons, List.forIn_nil, Array.forIn_toList.symm]
  refine wpAny_bind (wpAny_bind (wpAny_bind (wpAny_holding (wpAny_nextOf_list_item hit hl hx fun h₁ hit₁ hs₁ => wpAny_pure ?_))))
  have hz₁ : IsMap h₁ z TI f := hs₁.extBut _ _ hzi hz
  refine wpAny_pure ?_
  show wpAny _ _ (field (.ref z) 1 >>= _) _ _ _
  refine wpAny_bind (wpAny_field hz₁ rfl (x := f) rfl ?_)
  refine wpAny_bind (wpAny_holding (wpAny_mono (hc h₁ hit₁ hs₁) (fun v s' hq => ?_) fun _ _ e => e))
  refine wpAny_bind (wpAny_letGo ?_)
  exact wpAny_pure ⟨v, rfl, hq⟩
theorem map_next_end {z TI it l : Addr} {i : Nat} {f : Value} {items : Array Value} {Q : Fin → Shared → Prop} (hh : A.handled = none) (hz : IsMap s.heap z TI f) (hTI : IsOne s.heap TI (.ref it))
    (hit : s.heap.IsListIter it l i) (hl : s.heap.IsList l items) (hx : items[i]? = none)
    (hE : ∀ h' e, Heap.ExtBut it s.heap h' → (∃ o, h'.get? e = some o ∧ o.cls = .type "StopIteration") → E (.ref e) { s with heap := h' }) :
    wpAny (model prog w) A (Builtin.«map.__next__» ⟨[.ref z], []⟩) Q E s := by
  show wpAny _ _ (field (.ref z) 0 >>= _) _ _ _
  refine wpAny_bind (wpAny_field hz rfl (x := .ref TI) rfl ?_)
  refine wpAny_bind (wpAny_seqItems hTI rfl ?_)
  simp only [List.forIn_cons, List.forIn_nil, Array.forIn_toList.symm]
  exact wpAny_bind (wpAny_bind (wpAny_bind (wpAny_holding (wpAny_nextOf_list_end hh hit hl hx hE))))
theorem pyNext_map_item {z TI it l : Addr} {i : Nat} {f : Value} {items : Array Value} {x : Value} {Q : Option Value → Shared → Prop} (hz : IsMap s.heap z TI f) (hTI : IsOne s.heap TI (.ref it)) (hzi : z ≠ it)
    (hit : s.heap.IsListIter it l i) (hl : s.heap.IsList l items) (hx : items[i]? = some x)
    (hc : ∀ h', h'.IsListIter it l (i + 1) → Heap.SameBut it s.heap h' → wpAny (model prog w) A.in1 (call f [x]) (fun v s' => Q (some v) s') (fun _ _ => False) { s with heap := h' }) :
    wpAny (model prog w) A (pyNext (.ref z)) Q E s := by
  have hT : s.TypeIs (.ref z) "map" := ⟨_, hz, rfl⟩
  unfold pyNext
  refine wpAny_bind (wpAny_attempt (wpAny_callSpecial?_slot (name := Str.ofString "__next__") hT slot_map_next
    (wpAny_call_entry slot_map_next hT entry_map_next
      (map_next_item hz hTI hzi hit hl hx fun h' a b => wpAny_mono (hc h' a b) (fun v s' q => ?_) fun _ _ e => e.elim) (args_map_next _))))
  exact wpAny_pure q
end
section
variable {prog : Program} {w : World} {A : Around} {E : Value → Shared → Prop} {s : Shared}
theorem pyNext_map_end {z TI it l : Addr} {i : Nat} {f : Value} {items : Array Value} {Q : Option Value → Shared → Prop} (hh : A.handled = none) (hz : IsMap s.heap z TI f) (hTI : IsOne s.heap TI (.ref it))
    (hit : s.heap.IsListIter it l i) (hl : s.heap.IsList l items) (hx : items[i]? = none)
    (hQ : ∀ h', Heap.ExtBut it s.heap h' → Q none { s with heap := h' }) : wpAny (model prog w) A (pyNext (.ref z)) Q E s := by
  have hT : s.TypeIs (.ref z) "map" := ⟨_, hz, rfl⟩
  unfold pyNext
  refine wpAny_bind (wpAny_attempt (wpAny_callSpecial?_slot (name := Str.ofString "__next__") hT slot_map_next
    (wpAny_call_entry slot_map_next hT entry_map_next (map_next_end hh hz hTI hit hl hx fun h' e hk he => ?_) (args_map_next _))))
  obtain ⟨o, ho, hc⟩ := he
  refine wpAny_bind (wpAny_isInstance (T := "StopIteration") (b := true) ⟨o, ho, hc⟩ isSubtype_stop ?_)
  exact wpAny_pure (hQ _ hk)
theorem pyIter_map {z TI : Addr} {f : Value} {Q : Value → Shared → Prop} (hz : IsMap s.heap z TI f) (h : Q (.ref z) s) : wpAny (model prog w) A (pyIter (.ref z)) Q E s := by
  have hT : s.TypeIs (.ref z) "map" := ⟨_, hz, rfl⟩
  refine wpAny_pyIter_slot hT slot_map_iter (wpAny_call_entry slot_map_iter hT entry_map_iter ?_ (args_map_iter _))
  show wpAny _ _ (ret (.ref z)) _ _ s
  exact wpAny_pure ⟨_, rfl, "map", _, hT, slot_map_next.lookup, h⟩
theorem walks_map {z TI it l : Addr} {f : Value} {items : Array Value} {H0 : Heap} {P : Nat → Value → Prop} (hh : A.handled = none) (hz : IsMap H0 z TI f) (hTI : IsOne H0 TI (.ref it)) (hl : H0.IsList l items) (hit : H0.IsListIter it l 0) (h1 : z ≠ it) (h2 : TI ≠ it) (h3 : l ≠ it)
    (hcall : ∀ i v (s : Shared) (Q E : Value → Shared → Prop), items[i]? = some v → (∀ b o, b ≠ it → H0.get? b = some o → s.heap.get? b = some o) →
      (∀ v' h' tk, P i v' → (∀ b o, s.heap.get? b = some o → h'.get? b = some o) → Q v' { s with heap := h', toks := tk }) → wpAny (model prog w) A.in1 (call f [v]) Q E s) :
    Walks prog w A z (List.range H0.objs.size) [it] items.size P (fun i h => (∀ b o, b ≠ it → H0.get? b = some o → h.get? b = some o) ∧ h.IsListIter it l i) where
  sub := fun b hb => by
    rw [List.mem_singleton.mp hb]
    obtain ⟨o, ho, _⟩ := hit
    exact List.mem_range.mpr (Heap.lt_size ho)
  frame := fun i h h' st hk => by
    refine ⟨fun b o hb e => hk b (List.mem_range.mpr (Heap.lt_size e)) o (st.1 b o hb e), st.2.at fun o e => hk it ?_ o e⟩
    obtain ⟨o, ho, _⟩ := hit
    exact List.mem_range.mpr (Heap.lt_size ho)
  item := fun i s Q E hi st hQ => by
    obtain ⟨k, hi2⟩ := st
    refine pyNext_map_item (k _ _ h1 hz) (k _ _ h2 hTI) h1 hi2 (hl.at fun o e => k _ o h3 e) (Array.getElem?_eq_getElem hi) fun h' hit' hs => ?_
    refine hcall i _ _ _ _ (Array.getElem?_eq_getElem hi) (fun b o hb e => hs.extBut b o hb (k b o hb e)) fun v' h'' tk hP hk => ?_
    exact hQ v' h'' tk hP ⟨fun b o hb e => hk b o (hs.extBut b o hb (k b o hb e)), hit'.at fun o e => hk _ o e⟩ fun b o hb e => hk b o (hs.extBut b o (fun q => hb (q ▸ List.mem_singleton_self _)) e)
  done := fun s Q E st hQ => by
    obtain ⟨k, hi2⟩ := st
    exact pyNext_map_end hh (k _ _ h1 hz) (k _ _ h2 hTI) hi2 (hl.at fun o e => k _ o h3 e) (by simp) fun h' hk => hQ h' s.toks fun b o hb e => hk b o (fun q => hb (q ▸ List.mem_singleton_self _)) e
  self := fun i s Q E st h => pyIter_map (st.1 _ _ h1 hz) h
end
section
variable {prog : Program} {w : World} {A : Around} {E : Value → Shared → Prop} {s : Shared} {I : Addr} {fp wr : List Addr} {G : Array GenState → Array GenState → Prop} {n : Nat} {P : Nat → Value → Prop} {St : Nat → Shared → Prop}
theorem collect_map {Q : List Value → Shared → Prop} (W : WalksS prog w A.in1 I fp wr G n P St) (hT : ∀ i s, St i s → s.TypeIs (.ref I) "map") (hst : St 0 s) (hfp : ∀ b ∈ fp, b < s.heap.objs.size) (hI : I ∈ fp)
    (hQ : ∀ s' acc, Moved wr G s s' → ItemsOf P acc n → Q acc.toList s') (hn : n ≤ sizeLine) : wpAny (model prog w) A (collect (.ref I)) Q E s := by
  have hSf : s.heap.objs.size ∉ fp := fun hm => Nat.lt_irrefl _ (hfp _ hm)
  have hSI : s.heap.objs.size ≠ I := fun e => hSf (e ▸ hI)
  unfold collect
  refine wpAny_bind (wpAny_runValue (codeAny_builtin F.entry_proto_collect ?_))
  rw [Around.under_plainId F.plain_proto_collect _]
  show wpAny _ A.in1 (newList [] >>= fun l => again (.builtin "list.__iadd__" ⟨[l, .ref I], []⟩)) _ _ s
  refine wpAny_bind (wpAny_newObj_type ?_)
  refine wpAny_pure ⟨plainId_quiet F.plain_list_iadd _, codeAny_builtin F.entry_list_iadd ?_⟩
  rw [Around.under_plainId F.plain_list_iadd _]
  have hst₁ := W.frame 0 s (s.heap.push { cls := .type "list", data := .seq ([] : List Value).toArray }) s.toks hst (Nat.le_refl _) fun b _ o e => Heap.get?_push_of_some _ e
  show wpAny _ A.in1 (Builtin.List.listExtendWith (.ref s.heap.objs.size) (.ref I) (.ref s.heap.objs.size)) _ _ _
  unfold Builtin.List.listExtendWith
  refine wpAny_bind (wpAny_typeOf (hT 0 _ hst₁) ?_)
  have h1 : Builtin.List.listSameRef (.ref s.heap.objs.size) (.ref I) = false := by simp [Builtin.List.listSameRef, hSI]
  have h2 : (Value.type "map" == Value.type "list") = false := by decide
  have h3 : (Value.type "map" == Value.type "tuple") = false := by decide
  simp only [h1, h2, h3, Bool.or_false, Bool.false_eq_true, if_false]
  refine wpAny_bind (W.self 0 _ _ _ hst₁ ?_)
  refine wpAny_bind (wpAny_holding ?_)
  unfold Builtin.List.listLengthHint
  refine wpAny_bind (wpAny_specialOf (hT 0 _ hst₁) map_no_len ?_)
  show wpAny _ A.in1 (specialOf (Value.ref I) (Str.ofString "__length_hint__") >>= _) _ _ _
  refine wpAny_bind (wpAny_specialOf (hT 0 _ hst₁) map_no_hint ?_)
  refine wpAny_pure ?_
  show wpAny _ A.in1 (rule "list.extend.makes-room" >>= fun _ => Builtin.List.listTouch (.ref s.heap.objs.size) >>= fun _ =>
    again (.builtin "list.extend.loop" ⟨[.ref s.heap.objs.size, .ref I, .ref s.heap.objs.size], []⟩)) _ _ _
  refine wpAny_bind (wpAny_rule ?_)
  have hS₁ : (s.heap.push { cls := .type "list", data := .seq ([] : List Value).toArray }).get? s.heap.objs.size = some { cls := .type "list", data := .seq ([] : List Value).toArray } := Heap.get?_push_size _ rfl
  refine wpAny_bind ?_
  show wpAny _ A.in1 (updateSeq s.heap.objs.size (·.push .none) >>= fun _ => updateSeq s.heap.objs.size (·.pop)) _ _ _
  refine wpAny_bind (wpAny_updateSeq hS₁ rfl ?_)
  have hS₂ := Heap.get?_update_self (Obj.mapSeq (·.push Value.none)) hS₁ rfl
  refine wpAny_updateSeq hS₂ rfl ?_
  have hS₃ := Heap.get?_update_self (Obj.mapSeq (·.pop)) hS₂ rfl
  have oth : ∀ b o, b ≠ s.heap.objs.size → (s.heap.push { cls := .type "list", data := .seq ([] : List Value).toArray }).get? b = some o →
      (((s.heap.push { cls := .type "list", data := .seq ([] : List Value).toArray }).update s.heap.objs.size (Obj.mapSeq (·.push Value.none))).update s.heap.objs.size (Obj.mapSeq (·.pop))).get? b = some o :=
    fun b o hb e => (Heap.get?_update_other _ _ (Ne.symm hb)).trans ((Heap.get?_update_other _ _ (Ne.symm hb)).trans e)
  refine wpAny_pure ⟨plainId_quiet F.plain_extend_loop _, codeAny_extend_loopS W hn _ hSf _ n 0 _ _ _ rfl (Nat.zero_le _)
    (W.frame 0 ({ s with heap := s.heap.push { cls := .type "list", data := .seq ([] : List Value).toArray } } : Shared) _ s.toks hst₁ (Nat.le_refl _) fun b hb o e => oth b o (fun h => hSf (h ▸ hb)) e) hS₃ (ItemsOf.nil P) fun s' acc' c' hm hS' hacc => ?_⟩
  show wpAny _ A (load s.heap.objs.size >>= _) _ _ s'
  refine wpAny_bind (wpAny_load hS' ?_)
  refine wpAny_pure (hQ s' acc' (Moved.drop_new (o := { cls := .type "list", data := .seq ([] : List Value).toArray }) (tk := s.toks) (Moved.trans W.gtrans ((Moved.refl W.grefl).then_heap (by first | exact Nat.le_refl _ | exact Nat.le_succ _ | omega) fun b o hb e => ?_) hm) (Nat.le_refl _)) hacc)
  exact oth b o (fun h => hb (by rw [h]; exact List.mem_cons_self)) e
theorem code_tuple_map {Q₁ : Value → Shared → Prop} (W : WalksS prog w A.in1.in1 I fp wr G n P St) (hT : ∀ i s, St i s → s.TypeIs (.ref I) "map") (hst : St 0 s) (hfp : ∀ b ∈ fp, b < s.heap.objs.size) (hI : I ∈ fp)
    (h : ∀ s' acc, Moved wr G s s' → ItemsOf P acc n → Q₁ (.ref s'.heap.objs.size) { s' with heap := s'.heap.push { cls := .type "tuple", data := .seq acc } }) (hsz : n ≤ sizeLine) :
    codeAny (model prog w) A (.call (.builtin "tuple.__new__") ⟨[.type "tuple", .ref I], []⟩) (wants Q₁ E) s := by
  refine codeAny_of_tree ?_
  show wpAny _ A.in1 (do checkBuiltinCall "tuple.__new__" ⟨[.type "tuple", .ref I], []⟩; again (.builtin "tuple.__new__" ⟨[.type "tuple", .ref I], []⟩)) _ _ s
  refine wpAny_bind (wpAny_of_eq (F.newCall_tuple_1 _) (wpAny_pure ⟨plainId_quiet F.plain_tuple_new _, codeAny_builtin F.entry_tuple_new ?_⟩))
  rw [Around.under_plainId F.plain_tuple_new _]
  have hsub := sub_tuple_self
  have hinit := init_tuple_lookup
  have hmh := madeHere_tuple
  have hTI := hT 0 s hst
  wp_walk using wpAny_typeOf hTI, collect_map (hn := hsz) W hT hst hfp hI
  intro s' acc hm hacc
  show wpAny _ _ (Builtin.Tuple.tupleExact acc.toList.toArray >>= fun v => ret v) _ _ _
  unfold Builtin.Tuple.tupleExact
  refine wpAny_bind (wpAny_newObj_type ?_ (by show acc.toList.toArray.size ≤ sizeLine; simp only [Array.toArray_toList]; rw [hacc.1]; exact hsz))
  refine wpAny_pure ?_
  have e : acc.toList.toArray = acc := by simp
  rw [e]
  exact h s' acc hm hacc
theorem call_tuple_map {Q : Value → Shared → Prop} (W : WalksS prog w A.in1.in1.in1 I fp wr G n P St) (hT : ∀ i s, St i s → s.TypeIs (.ref I) "map") (hst : St 0 s) (hfp : ∀ b ∈ fp, b < s.heap.objs.size) (hI : I ∈ fp)
    (hQ : ∀ s' acc, Moved wr G s s' → ItemsOf P acc n → Q (.ref s'.heap.objs.size) { s' with heap := s'.heap.push { cls := .type "tuple", data := .seq acc } }) (hsz : n ≤ sizeLine) :
    wpAny (model prog w) A (call (.type "tuple") [.ref I]) Q E s := by
  refine callType_codes (Q₁ := fun obj s₁ => s₁.TypeIs obj "tuple" ∧ Q obj s₁) F.called_tuple (F.typeCall_tuple_1 _) F.entry_object_init
    (code_tuple_map (hsz := hsz) W hT hst hfp hI fun s' acc hm hacc => ⟨⟨_, Heap.get?_push_size _ rfl, rfl⟩, hQ s' acc hm hacc⟩) fun obj s₁ h₁ => ?_
  exact ⟨h₁.1, F.args_object_init_2 obj _, object_init_meets F.called_tuple.init.lookup F.called_tuple.made (by decide) prog w A.in1 _ s₁ ⟨h₁.1, rfl, h₁.2⟩⟩
end
structure MapAt (h₀ : Heap) (L : Addr) (news : Led) (h : Heap) (z : Addr) (f : Value) (l : Addr) : Prop where
  all : ∃ TI it, IsMap h z TI f ∧ IsOne h TI (.ref it) ∧ h.IsListIter it l 0 ∧ z ≠ it ∧ TI ≠ it ∧ l ≠ it ∧ it ≠ L ∧ h₀.get? it = none ∧ ∀ p ∈ news, p.1 ≠ it
section
variable {prog : Program} {w : World} {A : Around} {E : Value → Shared → Prop} {s : Shared} {h₀ : Heap} {L : Addr} {m : Str → Option Value} {news : Led}
theorem map_at {f : Value} {l : Addr} {xs : Array Value} {Q : Value → Shared → Prop} (F : Fr h₀ L s.heap m) (N : News h₀ L s.heap news) (hl : s.heap.IsList l xs)
    (h : ∀ z h', Fr h₀ L h' m → News h₀ L h' news → MapAt h₀ L news h' z f l → Q (.ref z) { s with heap := h' }) : wpAny (model prog w) A (call (.type "map") [f, .ref l]) Q E s := by
  refine call_map hl fun h' hz hTI hit _ hk => ?_
  have hlt : ∀ b o, s.heap.get? b = some o → b ≠ s.heap.objs.size := fun b o e => Nat.ne_of_lt (Heap.lt_size e)
  have hnone : s.heap.get? s.heap.objs.size = none := by
    cases hq : s.heap.get? s.heap.objs.size with
    | none => rfl
    | some o' => exact absurd (Heap.lt_size hq) (Nat.lt_irrefl _)
  have hf := fresh_ne F hnone
  obtain ⟨ol, hol, _⟩ := hl
  exact h _ _ (F.keptAll hk) (N.grown hk) ⟨_, _, hz, hTI, hit, Nat.ne_of_gt (Nat.lt_add_of_pos_right (by decide)), Nat.ne_of_gt (Nat.lt_add_of_pos_right (by decide)), hlt _ _ hol, hf.1, hf.2, fun p hp => hlt _ _ (N p hp).1⟩
end
theorem tuple_map_fs {w : World} {mean : ExcName → Option Value} {mg mb : Str → Option Value} {o : Bool} {x y : List Nat} {t u : Tok} {l z : Addr}
    {dp un : Nat} {gd : Option (List Code)} {cn : Str} {cs : Scope} {a : Addr} {ccd : Value} {cl : List (Str × Addr)} {outer : List Env} {A₀ : Around} {base h₀ : Heap} {L : Addr} {m : Str → Option Value} {news : Led} {s : Shared} {Q E : Value → Shared → Prop}
    (B : Below A₀ base outer h₀) (F : Fr h₀ L s.heap m) (X : Frag.In (hd.heap_39 w.params) h₀) (N : News h₀ L s.heap news) (T' : Top hd.view_39 (looseW hd.view_39 []) mean mg mb h₀) (hk : cs.kind = .function)
    (hd : dp + 1 < recursionLimit) (hu : un + 4 + 8 < cLine) (hl : h₀.IsList l #[T o x t, T o y u]) (M : MapAt h₀ L news s.heap z (.ref 94) l)
    (ret : ∀ (D : Addr) (h' : Heap) (tk' : Nat), Fr h₀ L h' m → News h₀ L h' ((D, tup [T o x t, T o y u]) :: news) → (∀ p ∈ news, p.1 < D) → Q (.ref D) { s with heap := h', toks := tk' }) :
    wpAny (model PySem.Challenge.rw_ab6018_01.row.prog w) (ktrTop dp un gd cn cs L a ccd cl outer) (call (.type "tuple") [.ref z]) Q E s := by
  obtain ⟨TI, it, hz, hTI, hit, h1, h2, h3, h4, h5, h6⟩ := M.all
  have hls := ground_list F hl
  have keepF : ∀ h', (∀ b q, b ≠ it → s.heap.get? b = some q → h'.get? b = some q) → Fr h₀ L h' m := fun h' k => by
    obtain ⟨oL, a1, a2, hL, a3⟩ := F.ns
    refine ⟨⟨oL, a1, a2, k _ _ (Ne.symm h4) hL, a3⟩, fun b q e => k b q (fun e2 => ?_) (F.keep b q e), F.above⟩
    rw [e2, h5] at e; cases e
  have W := walks_map (prog := PySem.Challenge.rw_ab6018_01.row.prog) (w := w) (A := (ktrTop dp (un + 3) gd cn cs L a ccd cl outer)) (P := fun i v => #[T o x t, T o y u][i]? = some v) rfl hz hTI hls hit h1 h2 h3 (by
    intro i v s' Q' E' hv k hQ
    have : ∃ (q : List Nat) (r : Tok), v = T o q r := by
      match i, hv with
      | 0, hv => exact ⟨x, t, by simpa using hv.symm⟩
      | 1, hv => exact ⟨y, u, by simpa using hv.symm⟩
      | n + 2, hv => simp at hv
    obtain ⟨q, r, rfl⟩ := this
    exact (fspath_con w o q r).use (un := un + 4) B (keepF _ k) X (News.nil) T' hk hd (by omega) trivial fun v' h' tk' hO hkk _ _ => by
      subst hO
      exact hQ _ h' tk' hv hkk)
  refine call_tuple_map (A := ktrTop dp un gd cn cs L a ccd cl outer) W.toS (fun i s' st => ⟨_, st.1 _ _ h1 hz, rfl⟩) ⟨fun _ _ _ e => e, hit⟩ (fun b hb => List.mem_range.mp hb) (List.mem_range.mpr (Heap.lt_size hz)) (fun s' acc hm hacc => ?_) (by show 2 ≤ sizeLine; decide)
  obtain ⟨g1, g2, g3, g4, _⟩ := hm
  have hk2 : ∀ b q, b ≠ it → s.heap.get? b = some q → (s'.heap.push { cls := .type "tuple", data := .seq acc }).get? b = some q := fun b q hb e => Heap.get?_push_of_some _ (g1 b q (fun q => hb (List.mem_singleton.mp q)) e)
  have hacc2 : acc = #[T o x t, T o y u] := by
    obtain ⟨e1, e2⟩ := hacc
    apply Array.ext
    · rw [e1]
    · intro i hi1 hi2
      have := e2 i acc[i] (Array.getElem?_eq_getElem hi1)
      dsimp only at this
      rw [Array.getElem?_eq_getElem hi2] at this
      exact (Option.some.inj this).symm
  have e : s' = { s with heap := s'.heap, toks := s'.toks } := by
    cases s'; cases s; simp only [Shared.mk.injEq] at *; exact ⟨trivial, g2, g3, trivial, g4⟩
  have hnew : s'.heap.get? s'.heap.objs.size = none := by
    cases hq : s'.heap.get? s'.heap.objs.size with
    | none => rfl
    | some o' => exact absurd (Heap.lt_size hq) (Nat.lt_irrefl _)
  have F₁ : Fr h₀ L s'.heap m := keepF _ fun b q hb e => g1 b q (fun q => hb (List.mem_singleton.mp q)) e
  have hfr := fresh_ne F₁ hnew
  have N₂ : News h₀ L (s'.heap.push { cls := .type "tuple", data := .seq acc }) ((s'.heap.objs.size, tup [T o x t, T o y u]) :: news) := by
    intro p hp
    rcases List.mem_cons.mp hp with rfl | hp
    · exact ⟨by rw [hacc2]; exact Heap.get?_push_size _ rfl, hfr⟩
    · exact ⟨hk2 _ _ (h6 p hp) (N p hp).1, (N p hp).2⟩
  have R := ret s'.heap.objs.size (s'.heap.push { cls := .type "tuple", data := .seq acc }) s'.toks (keepF _ hk2) N₂ fun p hp => Heap.lt_size (g1 _ _ (fun q => h6 p hp (List.mem_singleton.mp q)) (N p hp).1)
  have e3 : ({ s' with heap := s'.heap.push { cls := .type "tuple", data := .seq acc } } : Shared) = { s with heap := s'.heap.push { cls := .type "tuple", data := .seq acc }, toks := s'.toks } := by
    rw [e]
  rw [e3]; exact R
def TupAt (ax : Addr) (its : Array Value) (news : Led) : Prop := False ∨ ∃ o, (ax, o) ∈ news ∧ o.cls = .type "tuple" ∧ ∃ n, o.data = .seq its n
theorem TupAt.tup {h₀ h : Heap} {L ax : Addr} {its : Array Value} {news : Led} (x : TupAt ax its news) (N : News h₀ L h news) : h.IsTuple ax its := by
  rcases x with x | ⟨o, hm, r⟩
  · exact x.elim
  · exact ⟨o, (N _ hm).1, r⟩
section
variable {prog : Program} {w : World} {A : Around} {E : Value → Shared → Prop} {s : Shared} {h₀ : Heap} {L : Addr} {m : Str → Option Value} {env : Env}
/-- the turns of a list comprehension over a tuple of the ledger -/
def SrcTup (prog : Program) (w : World) (A : Around) (h₀ : Heap) (L : Addr) (m : Str → Option Value) (env : Env) (elt : Expr) (x : Str) (scope : Scope) (cl : List (Str × Addr)) (Fin : Shared → List Value → Led → Prop) (xv : Value) (s₁ : Shared) : Prop :=
  ∃ ax its news, xv = .ref ax ∧ A.handled = none ∧ Fr h₀ L s₁.heap m ∧ News h₀ L s₁.heap news ∧ TupAt ax its news ∧ its.size ≤ sizeLine ∧
    ∀ s₂ : Shared, (∃ h, s₂ = { s₁ with heap := h }) → LCg.CompRest prog w A h₀ L m env elt x scope cl s₂ (TupAt ax its) (fun i v => its[i]? = some v) (Fin s₂) its.size 0 [] news
theorem SrcTup.ledger {elt : Expr} {x : Str} {scope : Scope} {cl : List (Str × Addr)} {Fin : Shared → List Value → Led → Prop} {ax : Addr} {its : Array Value} {k : Nat} {news : Led} {s₁ : Shared}
    (hh : A.handled = none) (F : Fr h₀ L s₁.heap m) (N : News h₀ L s₁.heap news) (hm : (ax, ({ cls := .type "tuple", data := .seq its k } : Obj)) ∈ news) (hsz : its.size ≤ sizeLine)
    (h : ∀ g, LCg.CompRest prog w A h₀ L m env elt x scope cl { s₁ with heap := g } (TupAt ax its) (fun i v => its[i]? = some v) (Fin { s₁ with heap := g }) its.size 0 [] news) :
    SrcTup prog w A h₀ L m env elt x scope cl Fin (.ref ax) s₁ := ⟨ax, its, news, rfl, hh, F, N, .inr ⟨_, hm, rfl, _, rfl⟩, hsz, fun _ ⟨g, e⟩ => e ▸ h g⟩
theorem tuple_st {ax I : Addr} {its : Array Value} : ∀ i (h h' : Heap) (o : Obj) (nw : Led), (h.IsTupleIter I ax i ∧ h.IsTuple ax its) → h.get? I = some o → h'.get? I = some o → (∀ b o, h₀.get? b = some o → h'.get? b = some o) → News h₀ L h' nw → TupAt ax its nw → (h'.IsTupleIter I ax i ∧ h'.IsTuple ax its) :=
  fun i h h' o nw st e e' k N S => ⟨by obtain ⟨o', q, r⟩ := st.1; rw [e] at q; cases q; exact ⟨o, e', r⟩, S.tup N⟩
theorem Assign_ListComp_T {elt iter : Expr} {x y : Str} {px py : Pos} {scope : Scope} {cl : List (Str × Addr)} {pos spos : Pos} {Q : Flow → Shared → Prop} (F₀ : Fr h₀ L s.heap m) (hLe : env.locals = L)
    (hsw : swapsWith (.ListComp elt [⟨.Name x px, iter, [], 0⟩] scope pos) (some (.Name y py)) spos.line env = pure true)
    (hclos : closureFor scope env = pure cl) (hcell : ∀ z ∈ scope.names, z.2 ≠ .cell) (hkind : scope.kind = .function)
    (hnames : ∀ z ∈ scope.names, z.2 = .local → scope.names.lookup z.1 = some .local) (hx : scope.names.lookup x = some .local)
    (hy : env.kindOf y = some .local) (hp : (env.scope.kind == .class || (env.scope.kind == .module && env.locals != env.globals)) = false)
    (h : wpAny (model prog w) A (eval iter env) (SrcTup prog w A h₀ L m env elt x scope cl (fun s₂ => LCg.FinA h₀ L m s₂ y Q)) E s)
    (hs : ∀ x, foldedSetIterable iter env x = pure x := by intro _; rfl) :
    wpAny (model prog w) A (exec (.Assign [.Name y py] (.ListComp elt [⟨.Name x px, iter, [], 0⟩] scope pos) spos) env) Q E s := by
  subst hLe
  rw [exec_Assign_Name_used _ _ _ _ hsw]
  refine wpAny_bind (wpAny_standAt (wpAny_bind ?_))
  show wpAny _ A (do let _ ← comprehension (.ListComp elt [⟨.Name x px, iter, [], 0⟩] scope pos) scope env _ (newList []) false (eval iter env) (some (assign (.Name y py) env))) _ _ s
  refine wpAny_bind (wpAny_mono (wpAny_comprehension_free (use := some (assign (.Name y py) env)) (Q := fun _ s' => Q .next s') rfl hs hclos hkind hnames
    (wpAny_mono h (fun xv s₁ h₁ => ?_) fun _ _ e => e)) (fun _ s' hq => wpAny_pure (wpAny_pure hq)) fun _ _ e => e)
  rcases h₁ with ⟨ax, its, news, rfl, hh, F, N, S, hsz, R⟩
  have hl := S.tup N
  have hlt : ax < s₁.heap.objs.size := by obtain ⟨_, e, _⟩ := hl; exact Heap.lt_size e
  refine wpAny_pyIter_tuple hl ?_
  have up : ∀ b o, s₁.heap.get? b = some o → (s₁.heap.push { cls := .type "tuple_iterator", data := .fields #[.ref ax, .int 0 0] }).get? b = some o := fun b o e => Heap.get?_push_of_some _ e
  refine LCg.block_U (Walks.tuple hh s₁.heap.objs.size ax (Nat.ne_of_lt hlt) its) hsz (fun i h st => by obtain ⟨o, e, _⟩ := st.1; exact ⟨o, e⟩) tuple_st hcell hkind hx ⟨⟨_, Heap.get?_push_size _ rfl, rfl, rfl⟩, S.tup (N.grown up)⟩ (fun b hb => ?_)
    (F.keeps up) (N.grown up) (Nat.ne_of_lt F.ns.lt) (next_is_new F) (fun p hp => Nat.ne_of_lt (Heap.lt_size (N p hp).1)) S (R _ ⟨_, rfl⟩) ?_
  · show b < (s₁.heap.push _).objs.size
    rw [Heap.size_push]
    rcases List.mem_cons.mp hb with rfl | hb
    · exact Nat.lt_succ_self _
    · rw [List.mem_singleton.mp hb]; exact Nat.lt_succ_of_lt hlt
  · intro D C h' tk m' ys news' F' N' o1 hn hC₀ hD₀ hCL hDL hCD offC fin
    show wpAny _ A (assign (.Name y py) env (.ref D)) _ _ _
    refine wpAny_assign_Name (wpAny_storeName_local hy F'.ns (fun h₂ hn₂ hs₂ => ?_) hp)
    have hL₀ : h₀.get? env.locals = none := Heap.get?_none_of_le F'.above
    have F₂ : Fr h₀ env.locals h₂ (fun z => if z = y then some (.ref D) else m z) := ⟨hn₂, fun b o e => hs₂.extBut b o (fun q => by rw [q, hL₀] at e; cases e) (F'.keep b o e), F'.above⟩
    refine ⟨m', hn.sameBut hs₂ hCL, fun h'' hs'' => fin D h'' _ (F₂.change hs'' hCL hC₀) (fun p hp => ?_) o1⟩
    have z : h₂.get? p.1 = some p.2 := hs₂.extBut _ _ (N' p hp).2.1 (N' p hp).1
    refine ⟨hs''.extBut _ _ ?_ z, (N' p hp).2⟩
    rcases List.mem_cons.mp hp with rfl | hp
    · exact Ne.symm hCD
    · exact offC p hp
end
section
variable {prog : Program} {w : World} {A : Around} {E : Value → Shared → Prop} {s : Shared}
theorem pyHash_true {Q : Int → Shared → Prop} (h : Q 1 { s with toks := s.toks + 1 }) : wpAny (model prog w) A (pyHash (.bool true)) Q E s := by
  unfold pyHash
  have hv : [Value.bool true].any Value.onHeap = false := rfl
  refine wpAny_bind ?_
  rw [cRoomFor, if_neg (by rw [hv]; exact Bool.false_ne_true)]; refine wpAny_pure ?_
  refine wpAny_bind (wpAny_specialOf (T := "bool") rfl F.slot_bool_hash.lookup ?_)
  show wpAny _ _ (if (some (Value.builtin "int.__hash__") == some Value.none) = true then _ else _) Q E s
  rw [if_neg (by rw [beq_builtin_none]; exact Bool.false_ne_true)]
  refine wpAny_bind (wpAny_specialOf (T := "bool") rfl F.slot_bool_hash.lookup ?_)
  show wpAny _ _ (callSpecialIfBoundUnlessNone? (.bool true) "__hash__" _ >>= _) Q E s
  refine wpAny_bind (wpAny_callSpecialIfBoundUnlessNone?_slot (T := "bool") rfl F.slot_bool_hash
    (wpAny_call_entry F.slot_bool_hash (T := "bool") rfl entry_int_hash
      (show wpAny _ _ (do ret (← mkInt (rawHash 1))) _ _ s from wpAny_ret_mkInt ?_) (args_int_hash _)))
  show wpAny _ _ (if (decide (-(2 : Int) ^ 63 ≤ rawHash 1) && decide (rawHash 1 < 2 ^ 63)) = true then _ else _) Q E _
  rw [if_pos (by decide +kernel)]
  exact wpAny_pure h
abbrev setNew (p : Bool) : Obj := { cls := .type "set", dict := none, data := .set #[] 0 (.fresh 0 0 (!p)) }
def setT (p : Bool) : SetTable := (layNew (.fresh 0 0 (!p)) #[] 1 (.bool true)).2.1
theorem lay_one (p : Bool) : layNew (.fresh 0 0 (!p)) #[] 1 (.bool true) = (#[(1, .bool true)], setT p, false, false) := by cases p <;> rfl
def setOne (p : Bool) : Obj := Obj.putSet #[(1, .bool true)] (setT p) (setNew p)
theorem setOne_data (p : Bool) : ∃ ep, (setOne p).data = .set #[(1, .bool true)] ep (setT p) ∧ (setOne p).cls = .type "set" ∧ (setOne p).dict = none := by
  cases p <;> exact ⟨_, rfl, rfl, rfl⟩
theorem newSet_p {Q : Value → Shared → Prop} (h : Q (.ref s.heap.objs.size) { s with heap := s.heap.push (setNew (w.params.followText "set-order")) }) : wpAny (model prog w) A (newSet (.type "set")) Q E s := by
  unfold newSet setsByText
  refine wpAny_bind (wpAny_bind (wpAny_askSetting (wpAny_pure ?_)))
  dsimp only
  simp only [newObj]
  exact wpAny_bind (wpAny_alloc (wpAny_pure h))
end
section
variable {prog : Program} {w : World} {A : Around} {E : Value → Shared → Prop} {s : Shared} {D : Addr} {p : Bool}
theorem add_true_first {Q : Value → Shared → Prop} (hD : s.heap.get? D = some (setNew p)) (h : ∀ h', Heap.SameBut D s.heap h' → h'.get? D = some (setOne p) → Q .none { s with heap := h', toks := s.toks + 1 }) :
    wpAny (model prog w) A (call (.builtin "set.add") [.ref D, .bool true]) Q E s := by
  refine wpAny_call_entry F.slot_set_add (⟨_, hD, rfl⟩ : s.TypeIs (.ref D) "set") F.entry_set_add ?_ (F.args_set_add_2 _ _)
  unfold Builtin.«set.add» Builtin.Frozenset.oneOther
  simp only [List.isEmpty_nil, bind_assoc]
  unfold Builtin.Frozenset.addrOf setAdd
  refine wpAny_bind (wpAny_pure ?_)
  try dsimp only
  refine wpAny_bind (wpAny_pure ?_)
  try dsimp only
  refine wpAny_bind ?_
  refine wpAny_holding ?_
  refine wpAny_bind (pyHash_true ?_)
  unfold setAddHashed setAddHashedIn
  refine wpAny_holding (wpAny_bind (wpAny_setState_of (s := { s with toks := s.toks + 1 }) hD rfl (by cases p <;> rfl) ?_))
  dsimp only
  rw [show byScan (.bool true) #[] = true from by decide +kernel]
  simp only [↓reduceIte]
  unfold setAddByScan
  refine wpAny_bind ?_
  refine wpAny_bind (wpAny_rule ?_)
  refine wpAny_bind (m := setScan D (.bool true) 1 true #[]) (wpAny_of_eq (a := .absent) rfl ?_)
  dsimp only
  rw [lay_one]
  dsimp only
  refine wpAny_bind (wpAny_pure ?_)
  have hpl : (SetTable.fresh 0 0 (!p)).plain = true := by cases p <;> rfl
  have hpl2 : (setT p).plain = true := by cases p <;> rfl
  have htf : (setT p).tooFull = false := by cases p <;> rfl
  rw [if_pos hpl2]
  refine wpAny_bind (m := hashByValue 8 (.bool true)) (wpAny_of_eq (a := true) rfl ?_)
  simp only [↓reduceIte, htf, Bool.and_false, Bool.false_eq_true]
  refine wpAny_bind (wpAny_storeSet_of (s := { s with toks := s.toks + 1 }) hD rfl ?_ (by show (1 : Nat) ≤ sizeLine; decide))
  refine wpAny_pure (wpAny_pure ?_)
  show wpAny _ _ (ret Value.none) _ _ _
  refine wpAny_pure ⟨_, rfl, h _ (Heap.SameBut.update _ _ _) ?_⟩
  exact Heap.get?_update_self _ hD (by cases p <;> rfl)
theorem eqBool_true {Q : Bool → Shared → Prop} (h : Q true s) : wpAny (model prog w) A (eqBool (.bool true) (.bool true)) Q E s := by
  unfold eqBool
  refine wpAny_holding ?_
  rw [if_pos (by decide)]
  exact wpAny_bind (wpAny_rule (wpAny_pure h))
theorem add_true_again {Q : Value → Shared → Prop} (hD : s.heap.get? D = some (setOne p)) (h : Q .none { s with toks := s.toks + 1 }) :
    wpAny (model prog w) A (call (.builtin "set.add") [.ref D, .bool true]) Q E s := by
  obtain ⟨ep, hd, hc, _⟩ := setOne_data p
  refine wpAny_call_entry F.slot_set_add (⟨_, hD, hc⟩ : s.TypeIs (.ref D) "set") F.entry_set_add ?_ (F.args_set_add_2 _ _)
  unfold Builtin.«set.add» Builtin.Frozenset.oneOther
  simp only [List.isEmpty_nil, bind_assoc]
  unfold Builtin.Frozenset.addrOf setAdd
  refine wpAny_bind (wpAny_pure ?_)
  try dsimp only
  refine wpAny_bind (wpAny_pure ?_)
  try dsimp only
  refine wpAny_bind ?_
  refine wpAny_holding ?_
  refine wpAny_bind (pyHash_true ?_)
  unfold setAddHashed setAddHashedIn
  have hfit : (setT p).fits (#[(1, Value.bool true)] : Array (Int × Value)).size = true := by cases p <;> rfl
  refine wpAny_holding (wpAny_bind (wpAny_setState_of (s := { s with toks := s.toks + 1 }) hD hd hfit ?_))
  dsimp only
  rw [show byScan (.bool true) #[(1, .bool true)] = true from by decide +kernel]
  simp only [↓reduceIte]
  unfold setAddByScan
  refine wpAny_bind ?_
  refine wpAny_bind (wpAny_rule ?_)
  show wpAny _ _ (setScanFrom D (.bool true) 1 true [(1, .bool true)] 0 >>= _) _ _ _
  refine wpAny_bind ?_
  unfold setScanFrom
  rw [if_pos (by decide)]
  refine wpAny_bind (wpAny_setEpoch_of (s := { s with toks := s.toks + 1 }) hD hd hfit ?_)
  refine wpAny_bind (eqBool_true ?_)
  simp only [Bool.and_self, ↓reduceIte]
  refine wpAny_pure ?_
  refine wpAny_pure (wpAny_pure ?_)
  show wpAny _ _ (ret Value.none) _ _ _
  exact wpAny_pure ⟨_, rfl, h⟩
end
section
theorem owner_setit : Manifest.owners.lookup (String.ofList ['r', 'o', 't', 'a', 'r', 'e', 't', 'i', '_', 't', 'e', 's'].reverse) = some Manifest.sig_set_iterator := by kernel_rfl
theorem slot_setit_next : Slot "set_iterator" "__next__" "set_iterator.__next__" :=
  .of (owner := "set_iterator") (n := "__next__") (by rw [typeLookup_type, builtinLookup_eq_fast]; kernel_rfl) (by decide +kernel) (by decide +kernel) (by decide +kernel)
    (by first | exact .inl (by decide +kernel) | exact .inr (by decide +kernel)) (by rw [isSubtype_type]; kernel_rfl)
theorem entry_setit_next : entryFor table "set_iterator.__next__" = some Builtin.«set_iterator.__next__» := entryFor_of_tree (by kernel_rfl)
theorem args_setit_next (a : Value) : argsOk "set_iterator.__next__" ⟨[a], []⟩ := by
  unfold argsOk; rw [signature?_of (id := "set_iterator.__next__") (n := ['_', '_', 't', 'x', 'e', 'n', '_', '_']) (o := ['r', 'o', 't', 'a', 'r', 'e', 't', 'i', '_', 't', 'e', 's']) (by kernel_rfl) owner_setit]; kernel_rfl
theorem entry_set_iter : entryFor table "set.__iter__" = some Builtin.«frozenset.__iter__» :=
  entryFor_alias (id' := "frozenset.__iter__") (by kernel_rfl) rfl (by decide +kernel) (by kernel_rfl)
variable {prog : Program} {w : World} {A : Around} {E : Value → Shared → Prop} {s : Shared} {D : Addr} {p : Bool}
abbrev setItObj (D : Addr) (ep : Nat) : Obj := { cls := .type "set_iterator", data := .fields #[rawInt 0, rawInt 0, .ref D, rawInt 1, rawInt ep] }
theorem pyIter_one {Q : Value → Shared → Prop} {ep : Nat} (hD : s.heap.get? D = some (setOne p)) (hep : (setOne p).data = .set #[(1, .bool true)] ep (setT p)) (h : Q (.ref s.heap.objs.size) { s with heap := s.heap.push (setItObj D ep) }) : wpAny (model prog w) A (pyIter (.ref D)) Q E s := by
  have hfit : (setT p).fits (#[(1, Value.bool true)] : Array (Int × Value)).size = true := by cases p <;> rfl
  have hT : s.TypeIs (.ref D) "set" := ⟨_, hD, by cases p <;> rfl⟩
  refine wpAny_pyIter_slot hT F.slot_set_iter (wpAny_call_entry F.slot_set_iter hT entry_set_iter ?_ (F.args_set_iter_1 _))
  unfold Builtin.«frozenset.__iter__» Builtin.Frozenset.slot0 slotArgs
  simp only [List.isEmpty_nil, Bool.not_true, Bool.false_eq_true, ↓reduceIte, bind_assoc, List.length_nil, bne_self_eq_false]
  unfold Builtin.Frozenset.addrOf Builtin.Frozenset.sizeOf
  refine wpAny_bind (wpAny_pure ?_)
  try dsimp only
  refine wpAny_bind (wpAny_pure ?_)
  refine wpAny_bind (wpAny_bind (wpAny_setEntries_of hD hep hfit (wpAny_pure ?_)))
  try dsimp only
  unfold setDrawn
  refine wpAny_bind (wpAny_bind (wpAny_setState_of hD hep hfit ?_))
  dsimp only
  unfold setsByText
  refine wpAny_bind (wpAny_bind (wpAny_askSetting (wpAny_pure ?_)))
  refine wpAny_pure ?_
  rw [if_neg (by intro h; rw [Bool.and_eq_true] at h; exact absurd h.2 (by cases p <;> exact Bool.false_ne_true))]
  refine wpAny_bind (wpAny_pure ?_)
  refine wpAny_bind (wpAny_setEpoch_of hD hep hfit ?_)
  exact wpAny_bind (wpAny_newObj_type (wpAny_pure ⟨_, rfl, "set_iterator", _, ⟨_, Heap.get?_push_size _ rfl, rfl⟩, slot_setit_next.lookup, h⟩))
theorem pick_one {α : Type} (f : Nat → Nat) (x : α) : pickOrder f #[x] = #[x] := by
  show pickOrder.go f 1 0 [x] #[] = #[x]
  simp [pickOrder.go, Nat.mod_one]
theorem setWalk_one {Q : Array (Int × Value) → Shared → Prop} {ep : Nat} (hw : w.params.followText "set-order" = true) (hD : s.heap.get? D = some (setOne p)) (hep : (setOne p).data = .set #[(1, .bool true)] ep (setT p))
    (h : Q #[(1, .bool true)] s) : wpAny (model prog w) A (setWalk D) Q E s := by
  have hfit : (setT p).fits (#[(1, Value.bool true)] : Array (Int × Value)).size = true := by cases p <;> rfl
  unfold setWalk
  refine wpAny_bind (wpAny_setState_of hD hep hfit ?_)
  dsimp only
  unfold setsByText
  refine wpAny_bind (wpAny_bind (wpAny_askSetting (wpAny_pure ?_)))
  show wpAny _ _ (if w.params.followText "set-order" = true then _ else _) _ _ _
  rw [if_pos hw]
  refine wpAny_bind (wpAny_askSetting ?_)
  refine wpAny_pure ?_
  rw [pick_one]; exact h
theorem setNext_at {Q : Option (Value × Nat) → Shared → Prop} {ep slot given : Nat} {r : Option (Value × Nat)} (hw : w.params.followText "set-order" = p) (hD : s.heap.get? D = some (setOne p)) (hep : (setOne p).data = .set #[(1, .bool true)] ep (setT p))
    (h1 : p = true → r = ((#[(1, .bool true)] : Array (Int × Value))[given]?).map fun e => (e.2, slot)) (h2 : p = false → r = match (#[(1, .bool true)] : Array (Int × Value))[SetTable.below (setT false).place slot]?, (setT false).place[SetTable.below (setT false).place slot]? with
      | some (_, x), some j => some (x, j + 1)
      | _, _ => none)
    (h : Q r s) : wpAny (model prog w) A (setNext D slot given ep) Q E s := by
  have hfit : (setT p).fits (#[(1, Value.bool true)] : Array (Int × Value)).size = true := by cases p <;> rfl
  unfold setNext
  refine wpAny_bind (wpAny_setState_of hD hep hfit ?_)
  dsimp only
  refine wpAny_bind ?_
  unfold setsByText
  refine wpAny_bind (wpAny_askSetting (wpAny_pure ?_))
  show wpAny _ _ (if w.params.followText "set-order" = true then _ else _) _ _ _
  cases p with
  | true =>
    rw [if_pos hw, if_neg (by simp)]
    refine wpAny_bind (setWalk_one hw hD hep ?_)
    refine wpAny_pure ?_
    rw [← h1 rfl]; exact h
  | false =>
    rw [if_neg (by rw [hw]; exact Bool.false_ne_true)]
    refine wpAny_of_eq (a := r) ?_ h
    rw [h2 rfl]; rfl
abbrev setItObj2 (D : Addr) (ep nx : Nat) : Obj := { cls := .type "set_iterator", data := .fields #[rawInt nx, rawInt 1, .ref D, rawInt 1, rawInt ep] }
theorem pyNext_one {Q : Option Value → Shared → Prop} {ep : Nat} {I : Addr} (hw : w.params.followText "set-order" = p) (hDI : D ≠ I) (hD : s.heap.get? D = some (setOne p)) (hep : (setOne p).data = .set #[(1, .bool true)] ep (setT p)) (hI : s.heap.get? I = some (setItObj D ep))
    (h : ∀ h', h'.get? I = some (setItObj2 D ep (if p then 0 else 2)) → Heap.SameBut I s.heap h' → Q (some (.bool true)) { s with heap := h' }) : wpAny (model prog w) A (pyNext (.ref I)) Q E s := by
  have hfit : (setT p).fits (#[(1, Value.bool true)] : Array (Int × Value)).size = true := by cases p <;> rfl
  have hT : s.TypeIs (.ref I) "set_iterator" := ⟨_, hI, rfl⟩
  unfold pyNext
  refine wpAny_bind (wpAny_attempt (wpAny_callSpecial?_slot (name := Str.ofString "__next__") hT slot_setit_next
    (wpAny_call_entry slot_setit_next hT entry_setit_next ?_ (args_setit_next _))))
  unfold Builtin.«set_iterator.__next__» slotArgs
  simp only [List.isEmpty_nil, Bool.not_true, Bool.false_eq_true, ↓reduceIte, bind_assoc, List.length_nil, bne_self_eq_false]
  refine wpAny_bind (wpAny_pure ?_)
  refine wpAny_bind (wpAny_fieldsOf hI rfl ?_)
  refine wpAny_bind (m := setEntries D) (wpAny_setEntries_of hD hep hfit ?_)
  rw [if_neg (by decide)]
  refine wpAny_bind (m := setNext D 0 0 ep) (setNext_at hw hD hep (r := some (.bool true, if p then 0 else 2)) (by rintro rfl; rfl) (by rintro rfl; rfl) ?_)
  refine wpAny_bind (m := setField (.ref I) 0 (rawInt ((if p then 0 else 2 : Nat) : Int))) (wpAny_setField_rec hI (by simp) fun h₁ hI₁ hs₁ => ?_)
  replace hI₁ : h₁.get? I = some { cls := .type "set_iterator", data := .fields #[rawInt ((if p then 0 else 2 : Nat) : Int), rawInt 0, .ref D, rawInt 1, rawInt ep] } := hI₁
  refine wpAny_bind (m := setField (.ref I) 1 (rawInt (0 + 1))) (wpAny_setField_rec hI₁ (by simp) fun h₂ hI₂ hs₂ => ?_)
  refine wpAny_pure ⟨_, rfl, wpAny_pure (h h₂ hI₂ (hs₁.trans hs₂))⟩
theorem pyNext_two {Q : Option Value → Shared → Prop} {ep : Nat} {I : Addr} (hh : A.handled = none) (hw : w.params.followText "set-order" = p) (hDI : D ≠ I) (hD : s.heap.get? D = some (setOne p)) (hep : (setOne p).data = .set #[(1, .bool true)] ep (setT p)) (hI : s.heap.get? I = some (setItObj2 D ep (if p then 0 else 2)))
    (h : ∀ h', Heap.ExtBut I s.heap h' → Q none { s with heap := h' }) : wpAny (model prog w) A (pyNext (.ref I)) Q E s := by
  have hfit : (setT p).fits (#[(1, Value.bool true)] : Array (Int × Value)).size = true := by cases p <;> rfl
  have hT : s.TypeIs (.ref I) "set_iterator" := ⟨_, hI, rfl⟩
  unfold pyNext
  refine wpAny_bind (wpAny_attempt (wpAny_callSpecial?_slot (name := Str.ofString "__next__") hT slot_setit_next
    (wpAny_call_entry slot_setit_next hT entry_setit_next ?_ (args_setit_next _))))
  unfold Builtin.«set_iterator.__next__» slotArgs
  simp only [List.isEmpty_nil, Bool.not_true, Bool.false_eq_true, ↓reduceIte, bind_assoc, List.length_nil, bne_self_eq_false]
  refine wpAny_bind (wpAny_pure ?_)
  refine wpAny_bind (wpAny_fieldsOf hI rfl ?_)
  refine wpAny_bind (m := setEntries D) (wpAny_setEntries_of hD hep hfit ?_)
  rw [if_neg (by decide)]
  refine wpAny_bind (m := setNext D (if p then 0 else 2) 1 ep) (setNext_at hw hD hep (r := none) (by rintro rfl; rfl) (by rintro rfl; rfl) ?_)
  refine wpAny_bind (m := setField (.ref I) 2 .none) (wpAny_setField_rec hI (by simp) fun h₁ hI₁ hs₁ => ?_)
  show wpAny _ _ (newExc (.type "StopIteration") [] >>= _) _ _ _
  refine wpAny_bind ?_
  simp only [newExc, newTuple]
  refine wpAny_bind (wpAny_newObj_type ?_ (by size_fits))
  refine wpAny_bind (m := firstArgMember _ _) (wpAny_of_eq (a := Value.none) (by first | rfl | (simp only [firstArgMember]; rfl)) ?_)
  refine wpAny_newObj_type ?_ (by size_fits)
  simp only [raiseNew]
  refine wpAny_bind (wpAny_handled ?_)
  first | rw [show A.in1.handled = none from hh] | rw [hh]
  refine wpAny_bind (wpAny_pure (wpAny_throw ?_))
  refine wpAny_bind (wpAny_isInstance (T := "StopIteration") (b := true) ⟨_, Heap.get?_push_size _ rfl, rfl⟩ isSubtype_stop ?_)
  exact wpAny_pure (h _ ((hs₁.extBut.push _).push _))
theorem unpack_one {Q : List Value → Shared → Prop} (hh : A.handled = none) (hw : w.params.followText "set-order" = p) (hD : s.heap.get? D = some (setOne p)) 
    (h : ∀ h', (∀ b o, s.heap.get? b = some o → h'.get? b = some o) → Q [.bool true] { s with heap := h' }) : wpAny (model prog w) A (unpackItems (.ref D) 1 none) Q E s := by
  obtain ⟨ep, hep, hc, _⟩ := setOne_data p
  have hT : s.TypeIs (.ref D) "set" := ⟨_, hD, hc⟩
  have hlt : D ≠ s.heap.objs.size := Nat.ne_of_lt (Heap.lt_size hD)
  unfold unpackItems
  refine wpAny_bind ?_
  unfold notIterableAtAll
  refine wpAny_bind (wpAny_specialOf hT F.slot_set_iter.lookup ?_)
  refine wpAny_pure ?_
  simp only [Bool.false_eq_true, if_false]
  refine wpAny_bind (wpAny_holding (pyIter_one hD hep ?_))
  refine wpAny_bind (wpAny_holding ?_)
  show wpAny _ _ (pyNext (.ref s.heap.objs.size) >>= _) _ _ _
  refine wpAny_bind (pyNext_one (s := { s with heap := s.heap.push (setItObj D ep) }) hw hlt (Heap.get?_push_of_some _ hD) hep (Heap.get?_push_size _ rfl) fun h₁ hI₁ hs₁ => ?_)
  refine wpAny_bind (wpAny_holding (wpAny_pure ?_))
  refine wpAny_pure ?_
  rw [if_neg (by simp)]
  have hD₁ : h₁.get? D = some (setOne p) := hs₁.extBut _ _ hlt (Heap.get?_push_of_some _ hD)
  refine wpAny_bind (wpAny_holding (pyNext_two (s := { s with heap := h₁ }) hh hw hlt hD₁ hep hI₁ fun h₂ he₂ => ?_))
  simp only [Option.isSome_none, Bool.false_eq_true, if_false]
  exact wpAny_pure (h h₂ fun b o e => he₂ b o (Nat.ne_of_lt (Heap.lt_size e)) (hs₁.extBut b o (Nat.ne_of_lt (Heap.lt_size e)) (Heap.get?_push_of_some _ e)))
end
section
variable {prog : Program} {w : World} {A : Around} {E : Value → Shared → Prop} {R : Result → Shared → Prop} {s : Shared}
theorem compTurn_set (elt target iter : Expr) (ifs : List Expr) (scope : Scope) (pos : Pos) (it acc : Value) (env : Env) :
    compTurn (.SetComp elt [⟨target, iter, ifs, 0⟩] scope pos) 0 it acc env = (do
      standAt iter.pos
      match ← pyNext it with
      | none => pure (.done .next)
      | some v =>
        letOwnedTupleGo target it v
        assign target env v
        let mut ok := true
        for c in ifs do
          if ok then ok ← isTrue c env (eval c env)
        if ok then
          (do let v ← eval elt env; standAt elt.pos; let _ ← call (.builtin "set.add") [acc, v])
        again (.compLoop (.SetComp elt [⟨target, iter, ifs, 0⟩] scope pos) 0 it acc env)) := by rfl
theorem codeAny_compLoop_set {elt target iter : Expr} {scope : Scope} {pos : Pos} {it acc : Value} {env : Env} (I : Nat → Shared → Prop)
    (turn : ∀ n s, I n s → wpAny (model prog w) A (pyNext it) (fun r s₁ => match r with
      | none => R (.ok .next) s₁
      | some v => wpAny (model prog w) A (assign target env v) (fun _ s₂ =>
          wpAny (model prog w) A (eval elt env) (fun x s₄ =>
              wpAny (model prog w) A (call (.builtin "set.add") [acc, x]) (fun _ s₅ => ∃ m, m < n ∧ I m s₅) (notedBy (model prog w) A env fun e s' => R (.error e) s') s₄) (notedBy (model prog w) A env fun e s' => R (.error e) s') s₂)
            (notedBy (model prog w) A env fun e s' => R (.error e) s') s₁) (notedBy (model prog w) A env fun e s' => R (.error e) s') s)
    (n : Nat) (h : I n s) (ht : ∀ v, letOwnedTupleGo target it v = pure () := by intro _; rfl) :
    codeAny (model prog w) A (.compLoop (.SetComp elt [⟨target, iter, [], 0⟩] scope pos) 0 it acc env) R s := by
  refine codeAny_loop rfl I (fun n s hI => ?_) n h
  show wpAny _ A ((compTurn (.SetComp elt [⟨target, iter, [], 0⟩] scope pos) 0 it acc env).onRaise (fun x => do noteFrame x env; theTreesLotGoes x)) _ _ s
  refine wpAny_noted ?_
  rw [compTurn_set]
  refine wpAny_bind (wpAny_standAt (wpAny_bind (wpAny_mono (turn n s hI) (fun r s₁ h₁ => ?_) fun _ _ h' => h')))
  cases r with
  | none => exact wpAny_pure h₁
  | some v =>
    refine wpAny_bind (wpAny_of_eq (ht v) ?_)
    refine wpAny_bind (wpAny_mono h₁ (fun _ s₂ h₂ => ?_) fun _ _ h' => h')
    refine wpAny_bind (wpAny_tests_nil ?_)
    simp only [if_true]
    refine wpAny_bind (wpAny_bind (wpAny_mono h₂ (fun x s₄ h₄ => ?_) fun _ _ h' => h'))
    exact wpAny_bind (wpAny_standAt (wpAny_bind (wpAny_mono h₄ (fun _ s₅ h₅ => wpAny_pure (wpAny_pure ⟨rfl, h₅⟩)) fun _ _ h' => h')))
theorem codeAny_compStart_set {elt target iter ifs rest scope pos it acc env}
    (h0 : codeAny (model prog w) A (.compLoop (.SetComp elt (⟨target, iter, ifs, 0⟩ :: rest) scope pos) 0 it acc env) R s)
    (h : wpAny (model prog w) A (pyIter it) (fun it' s' => codeAny (model prog w) A (.compLoop (.SetComp elt (⟨target, iter, ifs, 0⟩ :: rest) scope pos) 0 it' acc env) R s')
      (notedBy (model prog w) A env fun x s' => R (.error x) s') s) :
    codeAny (model prog w) A (.compStart (.SetComp elt (⟨target, iter, ifs, 0⟩ :: rest) scope pos) 0 it acc env) R s := by
  refine codeAny_of_tree ?_
  show wpAny _ A ((compStart (.SetComp elt (⟨target, iter, ifs, 0⟩ :: rest) scope pos) 0 it acc env).onRaise (fun x => do noteFrame x env; standAt theWindowsPlace)) _ _ s
  refine wpAny_notedAt ?_
  unfold compStart
  show wpAny _ A (ask >>= _) _ _ s
  refine wpAny_bind (wpAny_askSetting (wpAny_ite ?_))
  split
  · first
      | exact wpAny_bind (wpAny_pure (wpAny_pure (And.intro rfl h0)))
      | exact wpAny_pure (And.intro rfl h0)
  · first
      | exact wpAny_bind (wpAny_rule (wpAny_bind (wpAny_standAt (wpAny_bind (wpAny_mono h (fun it' s' h' => wpAny_pure (And.intro rfl h')) fun _ _ x => x)))))
      | (refine wpAny_bind (wpAny_rule ?_); show wpAny _ _ (standAt iter.pos >>= _) _ _ s; exact wpAny_bind (wpAny_standAt (wpAny_bind (wpAny_mono h (fun it' s' h' => wpAny_pure (And.intro rfl h')) fun _ _ x => x))))
end
section
variable {prog : Program} {w : World} {A : Around} {E : Value → Shared → Prop} {s : Shared} {h₀ : Heap} {L : Addr} {m : Str → Option Value} {env : Env}
def IsTrueAt (s₁ : Shared) (h : Heap) (y : Value) (s₂ : Shared) : Prop := y = .bool true ∧ ∃ tk', s₂ = { s₁ with heap := h, toks := tk' }
theorem IsTrueAt.intro {s₁ : Shared} {h : Heap} {b : Bool} {tk : Nat} (e : b = true) : IsTrueAt s₁ h (.bool b) { s₁ with heap := h, toks := tk } := ⟨by rw [e], tk, rfl⟩
/-- one turn of a set comprehension whose element is True and that changes no object -/
def TrueTurn (prog : Program) (w : World) (A : Around) (h₀ : Heap) (L : Addr) (m : Str → Option Value) (env : Env) (elt : Expr) (x : Str) (scope : Scope) (cl : List (Str × Addr)) (its : Array Value) (news : Led) (s₁ : Shared) : Prop :=
  ∀ (i : Nat) v I oI C oC D oD m₂ h tk (E' : Value → Shared → Prop), its[i]? = some v → LCg.NsObj oC m₂ → m₂ x = some v → Fr h₀ L h m → News h₀ L h ((I, oI) :: (C, oC) :: (D, oD) :: news) →
    wpAny (model prog w) A (eval elt (compEnvC scope cl C env)) (IsTrueAt s₁ h) E' { s₁ with heap := h, toks := tk }
def SetSrc (prog : Program) (w : World) (A : Around) (h₀ : Heap) (L : Addr) (m : Str → Option Value) (env : Env) (elt : Expr) (x : Str) (scope : Scope) (cl : List (Str × Addr)) (p : Bool) (Q : Value → Shared → Prop) (xv : Value) (s₁ : Shared) : Prop :=
  ∃ ax its news, xv = .ref ax ∧ A.handled = none ∧ Fr h₀ L s₁.heap m ∧ News h₀ L s₁.heap news ∧ TupAt ax its news ∧ 0 < its.size ∧
      TrueTurn prog w A h₀ L m env elt x scope cl its news s₁ ∧ (∀ D h tk, Fr h₀ L h m → News h₀ L h ((D, setOne p) :: news) → (∀ q ∈ news, q.1 ≠ D) → Q (.ref D) { s₁ with heap := h, toks := tk })
theorem two_items {a b v : Value} {i : Nat} (h : (#[a, b] : Array Value)[i]? = some v) : v = a ∨ v = b := by
  match i, h with
  | 0, h => exact .inl (by simpa using h.symm)
  | 1, h => exact .inr (by simpa using h.symm)
  | n + 2, h => simp at h
theorem SetSrc.two {elt : Expr} {x : Str} {scope : Scope} {cl : List (Str × Addr)} {p : Bool} {Q : Value → Shared → Prop} {ax : Addr} {a b : Value} {news : Led} {s₁ : Shared} (hh : A.handled = none) (F : Fr h₀ L s₁.heap m) (N : News h₀ L s₁.heap news) (hm : (ax, tup [a, b]) ∈ news)
    (t1 : ∀ I oI C oC D oD m₂ h tk (E' : Value → Shared → Prop), LCg.NsObj oC m₂ → m₂ x = some a → Fr h₀ L h m → News h₀ L h ((I, oI) :: (C, oC) :: (D, oD) :: news) → wpAny (model prog w) A (eval elt (compEnvC scope cl C env)) (IsTrueAt s₁ h) E' { s₁ with heap := h, toks := tk })
    (t2 : ∀ I oI C oC D oD m₂ h tk (E' : Value → Shared → Prop), LCg.NsObj oC m₂ → m₂ x = some b → Fr h₀ L h m → News h₀ L h ((I, oI) :: (C, oC) :: (D, oD) :: news) → wpAny (model prog w) A (eval elt (compEnvC scope cl C env)) (IsTrueAt s₁ h) E' { s₁ with heap := h, toks := tk })
    (fin : ∀ D h tk, Fr h₀ L h m → News h₀ L h ((D, setOne p) :: news) → (∀ q ∈ news, q.1 ≠ D) → Q (.ref D) { s₁ with heap := h, toks := tk }) : SetSrc prog w A h₀ L m env elt x scope cl p Q (.ref ax) s₁ :=
  ⟨ax, #[a, b], news, rfl, hh, F, N, .inr ⟨_, hm, rfl, _, rfl⟩, Nat.zero_lt_succ _, fun i v I oI C oC D oD m₂ h tk E' hiv hC hx F' N' => by
    rcases two_items hiv with rfl | rfl
    · exact t1 I oI C oC D oD m₂ h tk E' hC hx F' N'
    · exact t2 I oI C oC D oD m₂ h tk E' hC hx F' N', fin⟩
theorem SetComp_tup {elt iter : Expr} {x : Str} {px : Pos} {scope : Scope} {cl : List (Str × Addr)} {pos : Pos} {Q : Value → Shared → Prop} {p : Bool} (F₀ : Fr h₀ L s.heap m) (hp : w.params.followText "set-order" = p)
    (hclos : closureFor scope env = pure cl) (hcell : ∀ y ∈ scope.names, y.2 ≠ .cell) (hkind : scope.kind = .function)
    (hnames : ∀ y ∈ scope.names, y.2 = .local → scope.names.lookup y.1 = some .local) (hx : scope.names.lookup x = some .local)
    (h : wpAny (model prog w) A (eval iter env) (SetSrc prog w A h₀ L m env elt x scope cl p Q) E s)
    (hs : ∀ x, foldedSetIterable iter env x = pure x := by intro _; rfl) :
    wpAny (model prog w) A (eval (.SetComp elt [⟨.Name x px, iter, [], 0⟩] scope pos) env) Q E s := by
  have _ := F₀
  rw [arm_eval_SetComp]
  refine wpAny_comprehension_free (use := none) rfl hs hclos hkind hnames (wpAny_mono h (fun xv s₁ h₁ => ?_) fun _ _ e => e)
  obtain ⟨ax, its, news, rfl, hh, F, N, S, hpos, turn, fin⟩ := h₁
  have hl := S.tup N
  have hlt : ax < s₁.heap.objs.size := by obtain ⟨_, e, _⟩ := hl; exact Heap.lt_size e
  refine wpAny_pyIter_tuple hl ?_
  have up : ∀ b o, s₁.heap.get? b = some o → (s₁.heap.push { cls := .type "tuple_iterator", data := .fields #[.ref ax, .int 0 0] }).get? b = some o := fun b o e => Heap.get?_push_of_some _ e
  have W := Walks.tuple (prog := prog) (w := w) hh s₁.heap.objs.size ax (Nat.ne_of_lt hlt) its
  generalize hI : s₁.heap.objs.size = I at W
  generalize hH1 : s₁.heap.push { cls := .type "tuple_iterator", data := .fields #[.ref ax, .int 0 0] } = H1 at up
  have hH1s : H1.objs.size = I + 1 := by rw [← hH1, Heap.size_push, hI]
  have hIt : H1.IsTupleIter I ax 0 := ⟨_, by rw [← hH1, ← hI]; exact Heap.get?_push_size _ rfl, rfl, rfl⟩
  have F1 : Fr h₀ L H1 m := F.keeps up
  have N1 : News h₀ L H1 news := N.grown up
  have hLlt : L < I := by rw [← hI]; exact F.ns.lt
  have nI : ∀ q ∈ news, q.1 < I := fun q hq => by rw [← hI]; exact Heap.lt_size (N q hq).1
  have hI₀ : ∀ a, I ≤ a → h₀.get? a = none := fun a ha => by
    cases e : h₀.get? a with
    | none => rfl
    | some o' => exact absurd (Heap.lt_size (F.keep a o' e)) (Nat.not_lt.mpr (hI ▸ ha))
  refine newSet_p ?_
  rw [hp]
  refine wpAny_newFunctionEnv hcell (by intro y hy; simp at hy) (fun h₁ hns₁ hsb₁ => ?_) hkind
  dsimp only at hns₁ hsb₁ ⊢
  generalize hH2 : H1.push (setNew p) = H2 at hns₁ hsb₁ ⊢
  have hH2s : H2.objs.size = I + 2 := by rw [← hH2, Heap.size_push, hH1s]
  rw [hH1s]
  have old : ∀ b o, H1.get? b = some o → h₁.get? b = some o := fun b o e => hsb₁.extBut b o (by have := Heap.lt_size e; rw [hH2s]; rw [hH1s] at this; exact Nat.ne_of_lt (Nat.lt_succ_of_lt this)) (Heap.get?_push_of_some _ (hH2 ▸ Heap.get?_push_of_some _ e))
  have hD1 : h₁.get? (I + 1) = some (setNew p) := hsb₁.extBut _ _ (by rw [hH2s]; exact Nat.ne_of_lt (Nat.lt_succ_self _)) (Heap.get?_push_of_some _ (by rw [← hH2, ← hH1s]; exact Heap.get?_push_size _ rfl))
  have hC : H2.objs.size = I + 2 := hH2s
  have hDC : I + 1 ≠ H2.objs.size := by rw [hC]; exact Nat.ne_of_lt (Nat.lt_succ_self _)
  have hCI : I ≠ H2.objs.size := by rw [hC]; exact Nat.ne_of_lt (Nat.lt_succ_of_lt (Nat.lt_succ_self _))
  have hDI : I ≠ I + 1 := Nat.ne_of_lt (Nat.lt_succ_self _)
  have hI0 : h₀.get? I = none := hI₀ I (Nat.le_refl _)
  have hD0 : h₀.get? (I + 1) = none := hI₀ _ (Nat.le_succ _)
  have hC0 : h₀.get? H2.objs.size = none := hI₀ _ (by rw [hC]; exact Nat.le_succ_of_le (Nat.le_succ _))
  have hIL : L ≠ I := Nat.ne_of_lt hLlt
  have hDL : I + 1 ≠ L := Ne.symm (Nat.ne_of_lt (Nat.lt_succ_of_lt hLlt))
  have hCL : H2.objs.size ≠ L := by rw [hC]; exact Ne.symm (Nat.ne_of_lt (Nat.lt_succ_of_lt (Nat.lt_succ_of_lt hLlt)))
  have nC : ∀ q ∈ news, q.1 ≠ H2.objs.size := fun q hq => by rw [hC]; exact Nat.ne_of_lt (Nat.lt_succ_of_lt (Nat.lt_succ_of_lt (nI q hq)))
  have nD : ∀ q ∈ news, q.1 ≠ I + 1 := fun q hq => Nat.ne_of_lt (Nat.lt_succ_of_lt (nI q hq))
  have axlt : ax < I := hI ▸ hlt
  have loop : ∀ s₃ : Shared, s₃ = { s₁ with heap := h₁, toks := s₁.toks + ([] : List (Str × Value)).length } →
      codeAny (model prog w) A (.compLoop (.SetComp elt [⟨.Name x px, iter, [], 0⟩] scope pos) 0 (.ref I) (.ref (I + 1)) (compEnvC scope cl H2.objs.size env))
        (compPost (model prog w) A E none Q (.ref (I + 1)) H2.objs.size) s₃ := by
    rintro s₃ rfl
    refine codeAny_compLoop_set
      (fun k s' => ∃ h' tk i m', s' = { s₁ with heap := h', toks := tk } ∧ i ≤ its.size ∧ k = its.size + 1 - i ∧ (h'.IsTupleIter I ax i ∧ h'.IsTuple ax its) ∧ Fr h₀ L h' m ∧ h'.Ns H2.objs.size m' ∧ News h₀ L h' news ∧
        h'.get? (I + 1) = some (if i = 0 then setNew p else setOne p)) ?_ (its.size + 1)
      ⟨h₁, _, 0, _, rfl, Nat.zero_le _, rfl, ⟨hIt.at fun o e => old _ o e, S.tup (N1.grown old)⟩, F1.keeps old, hns₁, N1.grown old, hD1⟩
    rintro k s' ⟨h', tk, i, m', rfl, hi, rfl, hst', F', hn', N', hD'⟩
    by_cases hlt : i < its.size
    · refine W.item i _ _ _ hlt hst' fun v h₂ tk₂ hPv hst₂ hk₂ => ?_
      refine wpAny_assign_Name (wpAny_storeName_local (lookup_relabel_local hx) (hn'.at' fun o e => hk₂ _ o (by simpa using Ne.symm hCI) e) (fun h₃ hn₃ hs₃ => ?_) (by simp [compEnvC, relabel, hkind]))
      have hst₃ : h₃.IsTupleIter I ax (i + 1) ∧ h₃.IsTuple ax its := W.frame _ _ _ hst₂ fun b hb o e => hs₃.extBut b o (fun q => by
        rcases List.mem_cons.mp hb with e2 | hb
        · exact hCI (e2 ▸ q)
        · rw [List.mem_singleton.mp hb] at q
          have q' : ax = H2.objs.size := q
          rw [hC] at q'
          exact absurd axlt (by rw [q']; exact Nat.not_lt.mpr (Nat.le_add_right _ _))) e
      obtain ⟨oI, heI⟩ : ∃ o, h₃.get? I = some o := by obtain ⟨o, e, _⟩ := hst₃.1; exact ⟨o, e⟩
      obtain ⟨oC, heC, hoC⟩ := LCg.ns_obj hn₃
      have F₃ : Fr h₀ L h₃ m := (LCg.fr_but F' hk₂ hIL hI0).change hs₃ hCL hC0
      have N₂ : News h₀ L h₂ news := LCg.news_but N' hk₂ fun q hq => Nat.ne_of_lt (nI q hq)
      have hD₃ : h₃.get? (I + 1) = some (if i = 0 then setNew p else setOne p) := hs₃.extBut _ _ hDC (hk₂ _ _ (by simpa using Ne.symm hDI) hD')
      have N₃' : News h₀ L h₃ news := fun q hq => ⟨hs₃.extBut _ _ (nC q hq) (N₂ q hq).1, (N₂ q hq).2⟩
      have N₃ : News h₀ L h₃ ((I, oI) :: (H2.objs.size, oC) :: (I + 1, if i = 0 then setNew p else setOne p) :: news) := fun q hq => by
        rcases List.mem_cons.mp hq with rfl | hq
        · exact ⟨heI, Ne.symm hIL, hI0⟩
        · rcases List.mem_cons.mp hq with rfl | hq
          · exact ⟨heC, hCL, hC0⟩
          · rcases List.mem_cons.mp hq with rfl | hq
            · exact ⟨hD₃, hDL, hD0⟩
            · exact N₃' q hq
      refine wpAny_mono (turn i v I oI H2.objs.size oC (I + 1) _ _ h₃ _ _ hPv hoC (by simp) F₃ N₃) (fun y s₄ h₄ => ?_) fun _ _ e => e
      obtain ⟨rfl, tk₄, rfl⟩ := h₄
      have last : ∀ h₅ tk₅, Heap.SameBut (I + 1) h₃ h₅ → h₅.get? (I + 1) = some (setOne p) → ∃ m, m < its.size + 1 - i ∧ ∃ h' tk i m', ({ s₁ with heap := h₅, toks := tk₅ } : Shared) = { s₁ with heap := h', toks := tk } ∧ i ≤ its.size ∧ m = its.size + 1 - i ∧ (h'.IsTupleIter I ax i ∧ h'.IsTuple ax its) ∧ Fr h₀ L h' _ ∧ h'.Ns H2.objs.size m' ∧ News h₀ L h' news ∧
          h'.get? (I + 1) = some (if i = 0 then setNew p else setOne p) := fun h₅ tk₅ hs₅ hD₅ => by
        refine ⟨its.size + 1 - (i + 1), by omega, h₅, tk₅, i + 1, _, rfl, hlt, rfl, W.frame _ _ _ hst₃ fun b hb o e => hs₅.extBut b o (fun q => ?_) e, F₃.change hs₅ hDL hD0, hn₃.sameBut hs₅ (Ne.symm hDC), fun q hq => ⟨hs₅.extBut _ _ (nD q hq) (N₃' q hq).1, (N₃' q hq).2⟩, by rw [if_neg (Nat.succ_ne_zero i)]; exact hD₅⟩
        rcases List.mem_cons.mp hb with e2 | hb
        · exact hDI (e2 ▸ q)
        · rw [List.mem_singleton.mp hb] at q
          exact absurd (q ▸ axlt : I + 1 < I) (Nat.not_lt.mpr (Nat.le_succ _))
      by_cases hi0 : i = 0
      · rw [if_pos hi0] at hD₃
        exact add_true_first (s := { s₁ with heap := h₃, toks := tk₄ }) hD₃ fun h₅ hs₅ hD₅ => last h₅ _ hs₅ hD₅
      · rw [if_neg hi0] at hD₃
        exact add_true_again (s := { s₁ with heap := h₃, toks := tk₄ }) hD₃ (last h₃ _ (Heap.SameBut.refl _ _) hD₃)
    · obtain rfl : i = its.size := Nat.le_antisymm hi (Nat.not_lt.mp hlt)
      refine W.done _ _ _ hst' fun h₂ tk₂ hk₂ => ?_
      have hD₂ := hk₂ _ _ (by simpa using Ne.symm hDI) hD'
      rw [if_neg (Nat.ne_of_gt hpos)] at hD₂
      have F₂ := LCg.fr_but F' hk₂ hIL hI0
      have N₂ : News h₀ L h₂ news := LCg.news_but N' hk₂ fun q hq => Nat.ne_of_lt (nI q hq)
      refine ⟨m', hn'.at' fun o e => hk₂ _ o (by simpa using Ne.symm hCI) e, fun h'' hs'' => fin _ h'' tk₂ (F₂.change hs'' hCL hC0) (fun q hq => ?_) nD⟩
      rcases List.mem_cons.mp hq with rfl | hq
      · exact ⟨hs''.extBut _ _ hDC hD₂, hDL, hD0⟩
      · exact ⟨hs''.extBut _ _ (nC q hq) (N₂ q hq).1, (N₂ q hq).2⟩
  exact codeAny_compStart_set (loop _ rfl) (W.self 0 _ _ _ ⟨hIt.at fun o e => old _ o e, S.tup (N1.grown old)⟩ (loop _ rfl))
end
section
variable {prog : Program} {w : World} {A : Around} {E : Value → Shared → Prop} {s : Shared} {h₀ : Heap} {L : Addr} {m : Str → Option Value} {env : Env} {news : Led}
theorem assign_one {D : Addr} {p : Bool} {y : Str} {py pos : Pos} {k} {Q : Unit → Shared → Prop} (F : Fr h₀ L s.heap m) (N : News h₀ L s.heap news) (hm : (D, setOne p) ∈ news) (hh : A.handled = none) (hw : w.params.followText "set-order" = p)
    (h : ∀ h', Fr h₀ L h' m → News h₀ L h' news → wpAny (model prog w) A (assign (.Name y py) env (.bool true)) Q E { s with heap := h' }) :
    wpAny (model prog w) A (assign (.Tuple [.Name y py] k pos) env (.ref D)) Q E s := by
  rw [arm_assign_Tuple]
  refine wpAny_bind (wpAny_standAt ?_)
  unfold unpack
  show wpAny _ _ (holding [.ref D] (unpackItems (.ref D) 1 none) >>= _) _ _ _
  refine wpAny_bind (wpAny_holding (unpack_one hh hw (N _ hm).1 fun h' hk => ?_))
  exact assignInOrder_cons (wpAny_mono (h h' (F.keptAll hk) (N.grown hk)) (fun _ _ q => assignInOrder_nil q) fun _ _ e => e)
end
section
variable {prog : Program} {w : World} {A : Around} {E : Value → Shared → Prop} {s : Shared} {h₀ : Heap} {L : Addr} {m : Str → Option Value} {env : Env}
def FiltSrc (prog : Program) (w : World) (A : Around) (h₀ : Heap) (L : Addr) (m : Str → Option Value) (env : Env) (elt test : Expr) (x : Str) (scope : Scope) (cl : List (Str × Addr)) (p : Value → Bool) (Q : Value → Shared → Prop) (xv : Value) (s₁ : Shared) : Prop :=
  ∃ ax vs k news, xv = .ref ax ∧ A.handled = none ∧ Fr h₀ L s₁.heap m ∧ News h₀ L s₁.heap news ∧ (ax, listOf (List.toArray vs) k) ∈ news ∧ vs.length ≤ sizeLine ∧
    (∀ v ∈ vs, ∀ (s₃ : Shared) C oC m₂ (E' : Value → Shared → Prop), LCg.NsObj oC m₂ → m₂ x = some v → Fr h₀ L s₃.heap m → News h₀ L s₃.heap ((C, oC) :: news) → wpAny (model prog w) A (isTrue test (compEnvC scope cl C env) (eval test (compEnvC scope cl C env))) (fun ok s₄ => ok = p v ∧ Keeps s₃ s₄) E' s₃) ∧
    (∀ v ∈ vs, ∀ (s₃ : Shared) C oC m₂ (E' : Value → Shared → Prop), LCg.NsObj oC m₂ → m₂ x = some v → Fr h₀ L s₃.heap m → News h₀ L s₃.heap ((C, oC) :: news) → wpAny (model prog w) A (eval elt (compEnvC scope cl C env)) (fun y s₄ => y = v ∧ Keeps s₃ s₄) E' s₃) ∧
    (∀ D h tk n, Fr h₀ L h m → News h₀ L h ((D, listOf (List.toArray (vs.filter p)) n) :: news) → (∀ q ∈ news, q.1 ≠ D) → Q (.ref D) { s₁ with heap := h, toks := tk })
theorem paired_eq : ∀ {vs ys : List Value}, Paired (fun v y => y = v) vs ys → ys = vs
  | _, _, .nil => rfl
  | _, _, .cons h r => by rw [h, paired_eq r]
theorem comp_filter {elt iter test : Expr} {x : Str} {px : Pos} {scope : Scope} {cl : List (Str × Addr)} {pos : Pos} {Q : Value → Shared → Prop} (p : Value → Bool) (F₀ : Fr h₀ L s.heap m)
    (hclos : closureFor scope env = pure cl) (hcell : ∀ y ∈ scope.names, y.2 ≠ .cell) (hkind : scope.kind = .function)
    (hnames : ∀ y ∈ scope.names, y.2 = .local → scope.names.lookup y.1 = some .local) (hx : scope.names.lookup x = some .local)
    (h : wpAny (model prog w) A (eval iter env) (FiltSrc prog w A h₀ L m env elt test x scope cl p Q) E s)
    (hs : ∀ x, foldedSetIterable iter env x = pure x := by intro _; rfl) :
    wpAny (model prog w) A (eval (.ListComp elt [⟨.Name x px, iter, [test], 0⟩] scope pos) env) Q E s := by
  have _ := F₀
  refine wpAny_ListComp_free p (fun v y => y = v) hclos hcell hkind hnames hx (wpAny_mono h (fun xv s₁ h₁ => ?_) fun _ _ e => e) hs
  obtain ⟨ax, vs, k, news, rfl, hh, F, N, hm, hsz, ht, he, fin⟩ := h₁
  have hl : s₁.heap.IsList ax vs.toArray := ⟨_, (N _ hm).1, rfl, k, rfl⟩
  have hlt : ax < s₁.heap.objs.size := Heap.lt_size (N _ hm).1
  refine wpAny_pyIter_list hl ?_
  have W := Walks.list (prog := prog) (w := w) hh s₁.heap.objs.size ax (Nat.ne_of_lt hlt) vs.toArray
  refine ⟨_, _, _, vs.toArray.size, _, _, rfl, W, by simpa using hsz, ⟨⟨_, Heap.get?_push_size _ rfl, rfl, rfl⟩, hl.push _⟩, ?_, ⟨?_, ?_⟩, ?_⟩
  · intro b hb
    show b < (s₁.heap.push _).objs.size
    rw [Heap.size_push]
    rcases List.mem_cons.mp hb with rfl | hb
    · exact Nat.lt_succ_self _
    · rw [List.mem_singleton.mp hb]; exact Nat.lt_succ_of_lt hlt
  · intro C i v s₃ m₃ E' hC hP hns hm3 hkeep _
    obtain ⟨oC, hN, F₃, N₃⟩ := comp_cell F N hkeep hC hns
    exact wpAny_tests_one (ht v (by have := List.mem_of_getElem? (by simpa using hP : vs[i]? = some v); exact this) s₃ C oC m₃ E' hN hm3 F₃ N₃)
  · intro C i v s₃ m₃ E' hC hP _ hns hm3 hkeep _
    obtain ⟨oC, hN, F₃, N₃⟩ := comp_cell F N hkeep hC hns
    exact he v (by have := List.mem_of_getElem? (by simpa using hP : vs[i]? = some v); exact this) s₃ C oC m₃ E' hN hm3 F₃ N₃
  · intro D h₂ tk ys vs' hD hli hpl hlen hP hpair hkeep
    obtain ⟨n, hpl⟩ := Mine.Heap.PlainList.obj hpl
    have hst := comp_stay hkeep
    have e1 : vs' = vs := by
      apply List.ext_getElem?
      intro j
      rcases Nat.lt_or_ge j vs'.length with hj | hj
      · have := hP j vs'[j] (List.getElem?_eq_getElem hj)
        rw [List.getElem?_eq_getElem hj]
        simpa using this.symm
      · rw [List.getElem?_eq_none hj, List.getElem?_eq_none (by rw [hlen] at hj; simpa using hj)]
    have e2 : ys = (vs.filter p).toArray := by
      have := paired_eq hpair
      rw [e1] at this
      rw [← this]
    have hDge : ∀ q ∈ news, q.1 ≠ D := fun q hq e => by
      have h1 := Heap.get?_push_of_some { cls := .type "list_iterator", data := .fields #[.ref ax, .int 0 0] } (N q hq).1
      rw [e] at h1
      have h2 : (s₁.heap.push { cls := .type "list_iterator", data := .fields #[.ref ax, .int 0 0] }).get? D = none := hD
      rw [h1] at h2; cases h2
    rw [e2] at hpl
    exact fin D h₂ tk n (F.keptAll hst) (news_cons (F.push _) (N.grown hst) hD hpl) hDge
/-- the test of commonpath's inner comprehension -/
def keepT : Value → Bool
  | .str x _ => !(x == st []) && !(x == st [46])
  | .bytes x _ => !(x == bs []) && !(x == bs [46])
  | _ => false
def keepN (q : List Nat) : Bool := decide (q ≠ []) && decide (q ≠ [46])
theorem keepT_T {o : Bool} {q : List Nat} {t : Tok} (hq : Ok q) : keepT (T o q t) = keepN q := by
  have e1 : ∀ y : List Nat, (st q == st y) = decide (q = y) := fun y => by
    rw [Bool.eq_iff_iff, beq_iff_eq, decide_eq_true_eq, st_inj]
  have e2 : ∀ y : List Nat, Ok y → (bs q == bs y) = decide (q = y) := fun y hy => by
    rw [Bool.eq_iff_iff, beq_iff_eq, decide_eq_true_eq, eq_bs hq.lt hy.lt]
  cases o
  · show (!(st q == st []) && !(st q == st [46])) = _
    rw [e1, e1]; simp [keepN]
  · show (!(bs q == bs []) && !(bs q == bs [46])) = _
    rw [e2 _ Ok.nil, e2 _ (Ok.one (by decide))]; simp [keepN]
theorem TsAre.filterT {o : Bool} : ∀ {vs : List Value} {ps : List (List Nat)}, (∀ q ∈ ps, Ok q) → TsAre o vs ps → TsAre o (vs.filter keepT) (ps.filter keepN)
  | [], [], _, h => h
  | v :: vs, q :: ps, hk, ⟨⟨t, e⟩, h⟩ => by
    have ih := TsAre.filterT (fun q' hq' => hk q' (List.mem_cons_of_mem _ hq')) h
    subst e
    have e := keepT_T (o := o) (t := t) (hk q List.mem_cons_self)
    cases hq : keepN q with
    | true => rw [List.filter_cons_of_pos (by rw [e, hq]), List.filter_cons_of_pos hq]; exact ⟨⟨t, rfl⟩, ih⟩
    | false => rw [List.filter_cons_of_neg (by rw [e, hq]; decide), List.filter_cons_of_neg (by rw [hq]; decide)]; exact ih
theorem TsAre.mem {o : Bool} : ∀ {vs : List Value} {ps : List (List Nat)} {v : Value}, TsAre o vs ps → v ∈ vs → ∃ q t, q ∈ ps ∧ v = T o q t
  | [], [], _, _, h => nomatch h
  | v :: vs, q :: ps, u, ⟨⟨t, e⟩, h⟩, hm => by
    rcases List.mem_cons.mp hm with rfl | hm
    · exact ⟨q, t, List.mem_cons_self, e⟩
    · obtain ⟨q', t', h1, h2⟩ := TsAre.mem h hm
      exact ⟨q', t', List.mem_cons_of_mem _ h1, h2⟩
def IsKeep (b : Bool) (s₃ : Shared) (ok : Bool) (s₄ : Shared) : Prop := ok = b ∧ Keeps s₃ s₄
theorem IsKeep.intro {b ok : Bool} {s₃ : Shared} {tk : Nat} (e : ok = b) : IsKeep b s₃ ok { s₃ with toks := tk } := ⟨e, Keeps.toks⟩
def IsItem (v : Value) (s₃ : Shared) (y : Value) (s₄ : Shared) : Prop := y = v ∧ Keeps s₃ s₄
theorem IsItem.intro {v y : Value} {s₃ : Shared} {tk : Nat} (e : y = v) : IsItem v s₃ y { s₃ with toks := tk } := ⟨e, Keeps.toks⟩
theorem off1_of {D : Addr} : ∀ {l : Led}, (∀ p ∈ l, p.1 ≠ D) → LCg.Off1 D l
  | [], _ => trivial
  | _ :: _, h => ⟨h _ List.mem_cons_self, off1_of fun p hp => h p (List.mem_cons_of_mem _ hp)⟩
def FiltEnd (h₀ : Heap) (L : Addr) (m : Str → Option Value) (o : Bool) (qs : List (List Nat)) (news : Led) (Q : Value → Shared → Prop) (s₁ : Shared) : Prop :=
  ∀ D h tk n vs', TsAre o vs' qs → Fr h₀ L h m → News h₀ L h ((D, listOf (List.toArray vs') n) :: news) → LCg.Off1 D news → Q (.ref D) { s₁ with heap := h, toks := tk }
theorem FiltSrc.texts {elt test : Expr} {x : Str} {scope : Scope} {cl : List (Str × Addr)} {Q : Value → Shared → Prop} {ax : Addr} {vs : List Value} {k : Nat} {news : Led} {s₁ : Shared} {o : Bool} {ps : List (List Nat)} (hh : A.handled = none) (F : Fr h₀ L s₁.heap m) (N : News h₀ L s₁.heap news) (hm : (ax, listOf (List.toArray vs) k) ∈ news)
    (hv : TsAre o vs ps) (hok : ∀ q ∈ ps, Ok q) (hlen : ps.length ≤ 1000000)
    (ht : ∀ q t, Ok q → ∀ (g : Heap) (gs dr tk os) C oC m₂ (E' : Value → Shared → Prop), LCg.NsObj oC m₂ → m₂ x = some (T o q t) → Fr h₀ L g m → News h₀ L g ((C, oC) :: news) → wpAny (model prog w) A (isTrue test (compEnvC scope cl C env) (eval test (compEnvC scope cl C env))) (IsKeep (keepN q) ⟨g, gs, dr, tk, os⟩) E' ⟨g, gs, dr, tk, os⟩)
    (he : ∀ q t, Ok q → ∀ (g : Heap) (gs dr tk os) C oC m₂ (E' : Value → Shared → Prop), LCg.NsObj oC m₂ → m₂ x = some (T o q t) → Fr h₀ L g m → News h₀ L g ((C, oC) :: news) → wpAny (model prog w) A (eval elt (compEnvC scope cl C env)) (IsItem (T o q t) ⟨g, gs, dr, tk, os⟩) E' ⟨g, gs, dr, tk, os⟩)
    (fin : FiltEnd h₀ L m o (ps.filter keepN) news Q s₁) : FiltSrc prog w A h₀ L m env elt test x scope cl keepT Q (.ref ax) s₁ := by
  refine ⟨ax, vs, k, news, rfl, hh, F, N, hm, by rw [hv.len, sizeLine_eq]; omega, ?_, ?_, fun D h tk n F' N' off => fin D h tk n _ (TsAre.filterT hok hv) F' N' (off1_of off)⟩
  · rintro v hvm ⟨g, gs, dr, tk, os⟩ C oC m₂ E' hN hx F₃ N₃
    obtain ⟨q, t, hq, rfl⟩ := hv.mem hvm
    rw [keepT_T (hok q hq)]
    exact ht q t (hok q hq) g gs dr tk os C oC m₂ E' hN hx F₃ N₃
  · rintro v hvm ⟨g, gs, dr, tk, os⟩ C oC m₂ E' hN hx F₃ N₃
    obtain ⟨q, t, hq, rfl⟩ := hv.mem hvm
    exact he q t (hok q hq) g gs dr tk os C oC m₂ E' hN hx F₃ N₃
end
section
variable {prog : Program} {w : World} {A : Around} {E : Value → Shared → Prop} {s : Shared} {h₀ : Heap} {L : Addr} {m : Str → Option Value} {env : Env}
theorem FiltSrc.strs {elt test : Expr} {x : Str} {scope : Scope} {cl : List (Str × Addr)} {Q : Value → Shared → Prop} {ax : Addr} {vs : List Value} {k : Nat} {news : Led} {s₁ : Shared} {ps : List (List Nat)} (hh : A.handled = none) (F : Fr h₀ L s₁.heap m) (N : News h₀ L s₁.heap news) (hm : (ax, listOf (List.toArray vs) k) ∈ news)
    (hv : TsAre false vs ps) (hok : ∀ q ∈ ps, Ok q) (hlen : ps.length ≤ 1000000)
    (ht : ∀ q t, Ok q → ∀ (g : Heap) (gs dr tk os) C oC m₂ (E' : Value → Shared → Prop), LCg.NsObj oC m₂ → m₂ x = some (.str (st q) t) → Fr h₀ L g m → News h₀ L g ((C, oC) :: news) → wpAny (model prog w) A (isTrue test (compEnvC scope cl C env) (eval test (compEnvC scope cl C env))) (IsKeep (keepN q) ⟨g, gs, dr, tk, os⟩) E' ⟨g, gs, dr, tk, os⟩)
    (he : ∀ q t, Ok q → ∀ (g : Heap) (gs dr tk os) C oC m₂ (E' : Value → Shared → Prop), LCg.NsObj oC m₂ → m₂ x = some (.str (st q) t) → Fr h₀ L g m → News h₀ L g ((C, oC) :: news) → wpAny (model prog w) A (eval elt (compEnvC scope cl C env)) (IsItem (.str (st q) t) ⟨g, gs, dr, tk, os⟩) E' ⟨g, gs, dr, tk, os⟩)
    {qs : List (List Nat)} (hq : ps.filter keepN = qs) (fin : FiltEnd h₀ L m false qs news Q s₁) : FiltSrc prog w A h₀ L m env elt test x scope cl keepT Q (.ref ax) s₁ := by
  subst hq; exact FiltSrc.texts (o := false) hh F N hm hv hok hlen ht he fin
theorem FiltSrc.bytes {elt test : Expr} {x : Str} {scope : Scope} {cl : List (Str × Addr)} {Q : Value → Shared → Prop} {ax : Addr} {vs : List Value} {k : Nat} {news : Led} {s₁ : Shared} {ps : List (List Nat)} (hh : A.handled = none) (F : Fr h₀ L s₁.heap m) (N : News h₀ L s₁.heap news) (hm : (ax, listOf (List.toArray vs) k) ∈ news)
    (hv : TsAre true vs ps) (hok : ∀ q ∈ ps, Ok q) (hlen : ps.length ≤ 1000000)
    (ht : ∀ q t, Ok q → ∀ (g : Heap) (gs dr tk os) C oC m₂ (E' : Value → Shared → Prop), LCg.NsObj oC m₂ → m₂ x = some (.bytes (bs q) t) → Fr h₀ L g m → News h₀ L g ((C, oC) :: news) → wpAny (model prog w) A (isTrue test (compEnvC scope cl C env) (eval test (compEnvC scope cl C env))) (IsKeep (keepN q) ⟨g, gs, dr, tk, os⟩) E' ⟨g, gs, dr, tk, os⟩)
    (he : ∀ q t, Ok q → ∀ (g : Heap) (gs dr tk os) C oC m₂ (E' : Value → Shared → Prop), LCg.NsObj oC m₂ → m₂ x = some (.bytes (bs q) t) → Fr h₀ L g m → News h₀ L g ((C, oC) :: news) → wpAny (model prog w) A (eval elt (compEnvC scope cl C env)) (IsItem (.bytes (bs q) t) ⟨g, gs, dr, tk, os⟩) E' ⟨g, gs, dr, tk, os⟩)
    {qs : List (List Nat)} (hq : ps.filter keepN = qs) (fin : FiltEnd h₀ L m true qs news Q s₁) : FiltSrc prog w A h₀ L m env elt test x scope cl keepT Q (.ref ax) s₁ := by
  subst hq; exact FiltSrc.texts (o := true) hh F N hm hv hok hlen ht he fin
end
theorem kp1 {q : List Nat} (h : q.isEmpty = true) : false = keepN q := by
  have : q = [] := by simpa using h
  simp [keepN, this]
theorem kp2 {q : List Nat} (h : q.isEmpty = false) (h2 : ¬ q = [46]) : true = keepN q := by
  have : q ≠ [] := by intro e; simp [e] at h
  simp [keepN, this, h2]
theorem kp3 {q : List Nat} (h2 : q = [46]) : false = keepN q := by simp [keepN, h2]
section
open Builtin AutoSeq1 MeetsSeq MeetsSeq2 MeetsSeq3 SeqRoads2 SeqAt
open AutoSeq1 (wpAny_loadPart')
theorem eqAt_T {o : Bool} {p : List Nat} {t u : Tok} (A : Around) (s : Shared) : EqAt A s (T o p t) (T o p u) true := by
  cases o
  · have h := EqAt.str_str (A := A) (s := s) (st p) t (st p) u
    rwa [beq_self_eq_true] at h
  · intro prog w E Q hq
    show wpAny _ _ (eqBool (.bytes (bs p) t) (.bytes (bs p) u)) _ _ _
    unfold eqBool
    refine wpAny_holding ?_
    have rc : wpAny (model prog w) A (richCompare .Eq (.bytes (bs p) t) (.bytes (bs p) u)) (fun v s' => wpAny (model prog w) A (truthOfDropped v) Q E s') E s := by
      refine richCompare_gives (op := .Eq) (typeIs_bytes s _ t) (typeIs_bytes s _ u) FB.slot_bytes_eq FB.entry_bytes_eq (FB.args_bytes_eq_2 _ _) (gives_bytes_eq _ _ t u) (fun e => nomatch e) ?_
      rw [beq_self_eq_true]
      exact wpAny_truthy_bool hq
    refine wpAny_ite_split (fun hab => ?_) (fun _ => ?_)
    · exact wpAny_bind (wpAny_rule (wpAny_pure hq))
    · exact wpAny_bind rc
/-- the comparing loop of two lists of which the second is where the first begins -/
theorem lt_loopAt (code : Nat) (op : CmpOp) (hcode : (code = 0 ∧ op = .Lt) ∨ (code = 4 ∧ op = .Gt)) (l b : Addr) (items items2 : Array Value) (n n2 : Nat) (dd dd2 : Option Addr) (sl sl2 : Array (Option Value)) (hsz : items2.size ≤ items.size) (k : Nat) :
    ∀ i : Nat, items2.size - i = k → Meets (Builtin.«list.__eq__.loop» ⟨[.ref l, .ref b, rawInt i, rawInt code], []⟩)
      (fun A R s => s.heap.get? l = some { cls := .type "list", dict := dd, data := .seq items n, slots := sl } ∧ s.heap.get? b = some { cls := .type "list", dict := dd2, data := .seq items2 n2, slots := sl2 } ∧
        (∀ j (h1 : j < items.size) (h2 : j < items2.size), EqAt A.in1 s items[j] items2[j] true) ∧
        R (.ok (.ret (.bool (if code = 0 then false else decide (items2.size < items.size))))) s) := by
  induction k with
  | zero =>
    intro i hk prog w A R s h
    obtain ⟨hp, g, d, tk, os⟩ := s; obtain ⟨hl, hb, he, h⟩ := h
    have hi2 : items2[((i : Nat) : Int).toNat]? = none := by simp; omega
    rcases hcode with ⟨rfl, rfl⟩ | ⟨rfl, rfl⟩
    all_goals
      wp_walk using wpAny_loadPart' hl, wpAny_loadPart' hb
      rw [hi2]
      cases items[((i : Nat) : Int).toNat]? <;>
      · wp_walk using wpAny_loadPart' hl, wpAny_loadPart' hb
        first
          | exact h
          | (show R (.ok (.ret (.bool (decide (items.size < items2.size))))) _
             rw [show decide (items.size < items2.size) = false from decide_eq_false (by omega)]
             exact h)
  | succ k ih =>
    intro i hk prog w A R s h
    obtain ⟨hp, g, d, tk, os⟩ := s; obtain ⟨hl, hb, he, h⟩ := h
    have hlt2 : i < items2.size := by omega
    have hlt : i < items.size := by omega
    have hi1 : items[((i : Nat) : Int).toNat]? = some items[i] := by simp [hlt]
    have hi2 : items2[((i : Nat) : Int).toNat]? = some items2[i] := by simp [hlt2]
    have hc : ((i : Int) + 1) = ((i + 1 : Nat) : Int) := by push_cast; rfl
    rcases id hcode with ⟨rfl, rfl⟩ | ⟨rfl, rfl⟩
    all_goals
      wp_walk using wpAny_loadPart' hl, wpAny_loadPart' hb
      rw [hi1, hi2]
      refine wpAny_bind (he i hlt hlt2 prog w _ _ ?_)
      wp_walk
      rw [hc]
      exact ⟨plainId_quiet plain_eq_loop _, codeAny_builtin entry_eq_loop (by
        rw [Around.under_plainId plain_eq_loop _]
        exact ih (i + 1) (by omega) prog w A R _ ⟨hl, hb, he, h⟩)⟩
theorem list_ltAt (l b : Addr) (items items2 : Array Value) (n n2 : Nat) (dd dd2 : Option Addr) (sl sl2 : Array (Option Value)) (hsz : items2.size ≤ items.size) :
    Meets (Builtin.«list.__lt__» ⟨[.ref l, .ref b], []⟩)
      (fun A R s => s.heap.get? l = some { cls := .type "list", dict := dd, data := .seq items n, slots := sl } ∧ s.heap.get? b = some { cls := .type "list", dict := dd2, data := .seq items2 n2, slots := sl2 } ∧
        (∀ j (h1 : j < items.size) (h2 : j < items2.size), EqAt A.in1 s items[j] items2[j] true) ∧
        R (.ok (.ret (.bool false))) s) := by
  intro prog w A R s h
  obtain ⟨hp, g, d, tk, os⟩ := s; obtain ⟨hl, hb, he, h⟩ := h
  have f3 := AutoSeq1.sub_list_list
  wp_walk using wpAny_loadPart' hl, wpAny_loadPart' hb
  exact ⟨plainId_quiet plain_eq_loop _, codeAny_builtin entry_eq_loop (by
    rw [Around.under_plainId plain_eq_loop _]
    exact lt_loopAt 0 .Lt (.inl ⟨rfl, rfl⟩) l b items items2 n n2 dd dd2 sl sl2 hsz _ 0 rfl prog w A R _ ⟨hl, hb, he, h⟩)⟩
theorem list_gtAt (l b : Addr) (items items2 : Array Value) (n n2 : Nat) (dd dd2 : Option Addr) (sl sl2 : Array (Option Value)) (hsz : items2.size ≤ items.size) :
    Meets (Builtin.«list.__gt__» ⟨[.ref l, .ref b], []⟩)
      (fun A R s => s.heap.get? l = some { cls := .type "list", dict := dd, data := .seq items n, slots := sl } ∧ s.heap.get? b = some { cls := .type "list", dict := dd2, data := .seq items2 n2, slots := sl2 } ∧
        (∀ j (h1 : j < items.size) (h2 : j < items2.size), EqAt A.in1 s items[j] items2[j] true) ∧
        R (.ok (.ret (.bool (decide (items2.size < items.size))))) s) := by
  intro prog w A R s h
  obtain ⟨hp, g, d, tk, os⟩ := s; obtain ⟨hl, hb, he, h⟩ := h
  have f3 := AutoSeq1.sub_list_list
  wp_walk using wpAny_loadPart' hl, wpAny_loadPart' hb
  exact ⟨plainId_quiet plain_eq_loop _, codeAny_builtin entry_eq_loop (by
    rw [Around.under_plainId plain_eq_loop _]
    exact lt_loopAt 4 .Gt (.inr ⟨rfl, rfl⟩) l b items items2 n n2 dd dd2 sl sl2 hsz _ 0 rfl prog w A R _ ⟨hl, hb, he, h⟩)⟩
variable {prog : Program} {w : World} {A : Around} {E : Value → Shared → Prop} {s : Shared}
theorem rc_lt {l b : Addr} {items items2 : Array Value} (hl : s.heap.IsList l items) (hb : s.heap.IsList b items2) (hsz : items2.size ≤ items.size) (hu : A.units < cLine)
    (he : ∀ j (h1 : j < items.size) (h2 : j < items2.size), EqAt A.in1 s items[j] items2[j] true) {Q : Value → Shared → Prop} (h : Q (.bool false) s) : wpAny (model prog w) A (richCompare .Lt (.ref l) (.ref b)) Q E s := by
  obtain ⟨⟨cls, dd, data, sl⟩, ho, hc, n, hd⟩ := id hl
  obtain ⟨⟨cls2, dd2, data2, sl2⟩, ho2, hc2, n2, hd2⟩ := id hb
  simp only at hc hd hc2 hd2
  subst hc hd hc2 hd2
  exact richCompare_meets_room (op := .Lt) ⟨_, ho, rfl⟩ ⟨_, ho2, rfl⟩ F.slot_list_lt F.entry_list_lt (F.args_list_lt_2 _ _) (list_ltAt l b items items2 n n2 dd dd2 sl sl2 hsz)
    ⟨ho, ho2, he, show Value.bool false ≠ Value.notImplemented ∧ Q (.bool false) s from ⟨(fun x => nomatch x), h⟩⟩ hu
theorem rc_gt {l b : Addr} {items items2 : Array Value} (hl : s.heap.IsList l items) (hb : s.heap.IsList b items2) (hsz : items2.size ≤ items.size) (hu : A.units < cLine)
    (he : ∀ j (h1 : j < items.size) (h2 : j < items2.size), EqAt A.in1 s items[j] items2[j] true) {Q : Value → Shared → Prop} (h : Q (.bool (decide (items2.size < items.size))) s) : wpAny (model prog w) A (richCompare .Gt (.ref l) (.ref b)) Q E s := by
  obtain ⟨⟨cls, dd, data, sl⟩, ho, hc, n, hd⟩ := id hl
  obtain ⟨⟨cls2, dd2, data2, sl2⟩, ho2, hc2, n2, hd2⟩ := id hb
  simp only at hc hd hc2 hd2
  subst hc hd hc2 hd2
  exact richCompare_meets_room (op := .Gt) ⟨_, ho, rfl⟩ ⟨_, ho2, rfl⟩ F.slot_list_gt F.entry_list_gt (F.args_list_gt_2 _ _) (list_gtAt l b items items2 n n2 dd dd2 sl sl2 hsz)
    ⟨ho, ho2, he, show Value.bool _ ≠ Value.notImplemented ∧ Q (.bool _) s from ⟨(fun x => nomatch x), h⟩⟩ hu
end
section
open Builtin
variable {prog : Program} {w : World} {A : Around} {E : Value → Shared → Prop} {s : Shared} {h₀ : Heap} {L : Addr} {m : Str → Option Value} {news : Led}
theorem min_two_lists {l a b : Addr} {va vb : Array Value} {Q : Value → Shared → Prop} (hh : A.handled = none) (hu : A.units + 1 < cLine) (F₀ : Fr h₀ L s.heap m) (N₀ : News h₀ L s.heap news) (hl : s.heap.IsList l #[.ref a, .ref b])
    (ha : s.heap.IsList a va) (hb : s.heap.IsList b vb) (hsz : va.size ≤ vb.size) (he : ∀ (A' : Around) (s' : Shared) j (h1 : j < vb.size) (h2 : j < va.size), SeqAt.EqAt A' s' vb[j] va[j] true)
    (h : ∀ h' tk, Fr h₀ L h' m → News h₀ L h' news → Q (.ref a) { s with heap := h', toks := tk }) :
    wpAny (model prog w) A (call (.builtin "min") [.ref l]) Q E s := by
  have hname : (toString "min" ++ toString ".loop" : String) = "min.loop" := by decide
  have hlt : l < s.heap.objs.size := by obtain ⟨_, e, _⟩ := hl; exact Heap.lt_size e
  have halt : a < s.heap.objs.size := by obtain ⟨_, e, _⟩ := ha; exact Heap.lt_size e
  have hblt : b < s.heap.objs.size := by obtain ⟨_, e, _⟩ := hb; exact Heap.lt_size e
  refine call_function_tree F.kind_min F.plain_min F.entry_min (F.args_min1 _) ?_
  show wpAny _ A.in1 (Builtin.Builtins.bindParams "min" ["key", "default"] 0 ⟨[], []⟩ >>= _) _ _ s
  refine wpAny_bind (wpAny_of_eq (show Builtin.Builtins.bindParams "min" ["key", "default"] 0 ⟨[], []⟩ = pure [none, none] from rfl) ?_)
  refine wpAny_bind (wpAny_pure ?_)
  refine wpAny_bind (wpAny_pyIter_list hl ?_)
  have W := Walks.list (prog := prog) (w := w) (A := A.in1) hh s.heap.objs.size l (Nat.ne_of_lt hlt) #[.ref a, .ref b]
  refine wpAny_bind (wpAny_newObj_type ?_)
  rw [hname]
  generalize hI : s.heap.objs.size = I at *
  have hS : (s.heap.push { cls := .type "list_iterator", data := .fields #[.ref l, .int 0 0] }).objs.size = I + 1 := by rw [Heap.size_push, hI]
  rw [show (({ s with heap := s.heap.push { cls := .type "list_iterator", data := .fields #[.ref l, .int 0 0] } } : Shared).heap.objs.size) = I + 1 from hS]
  have old : ∀ x o, s.heap.get? x = some o → ((s.heap.push { cls := .type "list_iterator", data := .fields #[.ref l, .int 0 0] }).push { cls := .type "list", data := .seq #[] }).get? x = some o := fun x o e => Heap.get?_push_of_some _ (Heap.get?_push_of_some _ e)
  have hst0 : ((s.heap.push { cls := .type "list_iterator", data := .fields #[.ref l, .int 0 0] }).push { cls := .type "list", data := .seq #[] }).IsListIter I l 0 ∧ ((s.heap.push { cls := .type "list_iterator", data := .fields #[.ref l, .int 0 0] }).push { cls := .type "list", data := .seq #[] }).IsList l #[.ref a, .ref b] := by
    refine ⟨⟨_, Heap.get?_push_of_some _ (by rw [← hI]; exact Heap.get?_push_size _ rfl), rfl, rfl⟩, hl.at (old l)⟩
  have hSo : ((s.heap.push { cls := .type "list_iterator", data := .fields #[.ref l, .int 0 0] }).push { cls := .type "list", data := .seq #[] }).get? (I + 1) = some { cls := .type "list", data := .seq #[] } := by rw [← hS]; exact Heap.get?_push_size _ rfl
  have key : ∀ h₁ h₂ : Heap, (∀ x o, x ∉ [I] → h₁.get? x = some o → h₂.get? x = some o) → (∀ x o, x < I → s.heap.get? x = some o → h₁.get? x = some o) → ∀ x o, x < I → s.heap.get? x = some o → h₂.get? x = some o :=
    fun h₁ h₂ hk ho x o hx e => hk x o (by rw [List.mem_singleton]; exact Nat.ne_of_lt hx) (ho x o hx e)
  refine wpAny_pure ⟨plainId_quiet F.plain_min_loop _, ?_⟩
  generalize hH : (s.heap.push { cls := .type "list_iterator", data := .fields #[.ref l, .int 0 0] }).push { cls := .type "list", data := .seq #[] } = H at *
  have o0 : ∀ x o, x < I → s.heap.get? x = some o → H.get? x = some o := fun x o _ e => old x o e
  clear hS hH old
  -- the first turn
  refine codeAny_builtin F.entry_min_loop ?_
  rw [Around.under_plainId F.plain_min_loop _]
  show wpAny _ A.in1 (seqItems? (.ref (I + 1)) >>= _) _ _ _
  refine wpAny_bind (wpAny_seqItems hSo rfl ?_)
  show wpAny _ A.in1 (tryCatch (pyNext (.ref I)) _ >>= _) _ _ _
  refine wpAny_bind (wpAny_tryCatch (W.item 0 _ _ _ (Nat.zero_lt_succ _) hst0 fun v h1 tk1 hP1 hst1 hk1 => ?_))
  have ev : v = .ref a := by simpa using hP1.symm
  subst ev
  have o1 := key _ _ hk1 o0
  have hS1 := hk1 (I + 1) _ (by rw [List.mem_singleton]; exact Nat.succ_ne_self I) hSo
  show wpAny _ A.in1 (updateSeq (I + 1) (fun _ => #[.ref a, .ref a]) >>= _) _ _ _
  refine wpAny_bind ?_
  refine wpAny_updateSeq hS1 rfl ?_
  rw [hname]
  have hS2 := Heap.get?_update_self (Obj.mapSeq fun _ => #[.ref a, .ref a]) hS1 rfl
  have hst2 := W.frame _ _ _ hst1 fun b hb o e => (Heap.get?_update_other _ (Obj.mapSeq fun _ => #[.ref a, .ref a]) (show I + 1 ≠ b from fun q => by
    rcases List.mem_cons.mp hb with e2 | hb
    · exact Nat.succ_ne_self I (q.trans e2)
    · rw [List.mem_singleton.mp hb] at q; exact Nat.ne_of_gt (Nat.lt_succ_of_lt hlt) q)).trans e
  have o2 : ∀ x o, x < I → s.heap.get? x = some o → (h1.update (I + 1) (Obj.mapSeq fun _ => #[.ref a, .ref a])).get? x = some o := fun x o hx e => (Heap.get?_update_other _ _ (show I + 1 ≠ x from Nat.ne_of_gt (Nat.lt_succ_of_lt hx))).trans (o1 x o hx e)
  refine wpAny_pure ⟨plainId_quiet F.plain_min_loop _, ?_⟩
  generalize h1.update (I + 1) (Obj.mapSeq fun _ => #[.ref a, .ref a]) = H2 at *
  -- the second turn
  refine codeAny_builtin F.entry_min_loop ?_
  rw [Around.under_plainId F.plain_min_loop _]
  show wpAny _ A.in1 (seqItems? (.ref (I + 1)) >>= _) _ _ _
  refine wpAny_bind (wpAny_seqItems hS2 rfl ?_)
  show wpAny _ A.in1 (tryCatch (pyNext (.ref I)) _ >>= _) _ _ _
  refine wpAny_bind (wpAny_tryCatch (W.item 1 _ _ _ (Nat.lt_succ_self 1) hst2 fun v h3 tk3 hP3 hst3 hk3 => ?_))
  have ev : v = .ref b := by simpa using hP3.symm
  subst ev
  have o3 := key _ _ hk3 o2
  have hS3 := hk3 (I + 1) _ (by rw [List.mem_singleton]; exact Nat.succ_ne_self I) hS2
  have ha3 : h3.IsList a va := ha.at fun o e => o3 a o halt e
  have hb3 : h3.IsList b vb := hb.at fun o e => o3 b o hblt e
  show wpAny _ A.in1 (tryCatch (holding [.ref b, .ref b] (richCompare .Lt (.ref b) (.ref a) >>= _)) _ >>= _) _ _ _
  refine wpAny_bind (wpAny_tryCatch (wpAny_holding (wpAny_bind (rc_lt (s := { s with heap := h3, toks := tk3 }) hb3 ha3 hsz hu (fun j h1 h2 => he _ _ j h1 h2) ?_))))
  refine wpAny_bind (wpAny_holding (wpAny_truthy_bool ?_))
  refine wpAny_bind (wpAny_letGo (wpAny_pure ?_))
  have fin : ∀ (r : Addr) (h5 : Heap) (tk5 : Nat) (c : Nat), (∀ h' tk, Fr h₀ L h' m → News h₀ L h' news → Q (.ref r) { s with heap := h', toks := tk }) →
      (h5.IsListIter I l 2 ∧ h5.IsList l #[.ref a, .ref b]) → h5.get? (I + 1) = some { cls := .type "list", data := .seq #[.ref r, .ref r] c } → (∀ x o, x < I → s.heap.get? x = some o → h5.get? x = some o) →
      codeAny (model prog w) A (.builtin "min.loop" ⟨[.ref I, .none, .ref (I + 1)], []⟩) (fun rr s' => match rr with | .ok (.ret v) => Q v s' | .ok _ => False | .error e => E e s') { s with heap := h5, toks := tk5 } := by
    intro r h5 tk5 c hQ hst5 hS5 o5
    refine codeAny_builtin F.entry_min_loop ?_
    rw [Around.under_plainId F.plain_min_loop _]
    show wpAny _ A.in1 (seqItems? (.ref (I + 1)) >>= _) _ _ _
    refine wpAny_bind (wpAny_seqItems hS5 rfl ?_)
    show wpAny _ A.in1 (tryCatch (pyNext (.ref I)) _ >>= _) _ _ _
    refine wpAny_bind (wpAny_tryCatch (W.done _ _ _ hst5 fun h6 tk6 hk6 => ?_))
    have o6 := key _ _ hk6 o5
    have hS6 := hk6 (I + 1) _ (by rw [List.mem_singleton]; exact Nat.succ_ne_self I) hS5
    show wpAny _ A.in1 (updateSeq (I + 1) (fun _ => #[]) >>= _) _ _ _
    refine wpAny_bind ?_
    refine wpAny_updateSeq hS6 rfl (wpAny_bind (wpAny_letGo (wpAny_pure ?_)))
    have o7 : ∀ x o, s.heap.get? x = some o → (h6.update (I + 1) (Obj.mapSeq fun _ => #[])).get? x = some o := fun x o e => by
      have hx : x < I := by rw [← hI]; exact Heap.lt_size e
      exact (Heap.get?_update_other _ _ (show I + 1 ≠ x from Nat.ne_of_gt (Nat.lt_succ_of_lt hx))).trans (o6 x o hx e)
    exact hQ _ tk6 (F₀.keptAll o7) (N₀.grown o7)
  simp only [Bool.false_eq_true, if_false]
  refine wpAny_bind (wpAny_letGo ?_)
  rw [hname]
  exact wpAny_pure ⟨plainId_quiet F.plain_min_loop _, fin a _ _ _ h hst3 hS3 o3⟩
theorem max_two_lists {l a b : Addr} {va vb : Array Value} {Q : Value → Shared → Prop} (hh : A.handled = none) (hu : A.units + 1 < cLine) (F₀ : Fr h₀ L s.heap m) (N₀ : News h₀ L s.heap news) (hl : s.heap.IsList l #[.ref a, .ref b])
    (ha : s.heap.IsList a va) (hb : s.heap.IsList b vb) (hsz : va.size ≤ vb.size) (he : ∀ (A' : Around) (s' : Shared) j (h1 : j < vb.size) (h2 : j < va.size), SeqAt.EqAt A' s' vb[j] va[j] true)
    (h : ∀ h' tk, Fr h₀ L h' m → News h₀ L h' news → Q (.ref (if va.size < vb.size then b else a)) { s with heap := h', toks := tk }) :
    wpAny (model prog w) A (call (.builtin "max") [.ref l]) Q E s := by
  have hname : (toString "max" ++ toString ".loop" : String) = "max.loop" := by decide
  have hlt : l < s.heap.objs.size := by obtain ⟨_, e, _⟩ := hl; exact Heap.lt_size e
  have halt : a < s.heap.objs.size := by obtain ⟨_, e, _⟩ := ha; exact Heap.lt_size e
  have hblt : b < s.heap.objs.size := by obtain ⟨_, e, _⟩ := hb; exact Heap.lt_size e
  refine call_function_tree F.kind_max F.plain_max F.entry_max (F.args_max1 _) ?_
  show wpAny _ A.in1 (Builtin.Builtins.bindParams "max" ["key", "default"] 0 ⟨[], []⟩ >>= _) _ _ s
  refine wpAny_bind (wpAny_of_eq (show Builtin.Builtins.bindParams "max" ["key", "default"] 0 ⟨[], []⟩ = pure [none, none] from rfl) ?_)
  refine wpAny_bind (wpAny_pure ?_)
  refine wpAny_bind (wpAny_pyIter_list hl ?_)
  have W := Walks.list (prog := prog) (w := w) (A := A.in1) hh s.heap.objs.size l (Nat.ne_of_lt hlt) #[.ref a, .ref b]
  refine wpAny_bind (wpAny_newObj_type ?_)
  rw [hname]
  generalize hI : s.heap.objs.size = I at *
  have hS : (s.heap.push { cls := .type "list_iterator", data := .fields #[.ref l, .int 0 0] }).objs.size = I + 1 := by rw [Heap.size_push, hI]
  rw [show (({ s with heap := s.heap.push { cls := .type "list_iterator", data := .fields #[.ref l, .int 0 0] } } : Shared).heap.objs.size) = I + 1 from hS]
  have old : ∀ x o, s.heap.get? x = some o → ((s.heap.push { cls := .type "list_iterator", data := .fields #[.ref l, .int 0 0] }).push { cls := .type "list", data := .seq #[] }).get? x = some o := fun x o e => Heap.get?_push_of_some _ (Heap.get?_push_of_some _ e)
  have hst0 : ((s.heap.push { cls := .type "list_iterator", data := .fields #[.ref l, .int 0 0] }).push { cls := .type "list", data := .seq #[] }).IsListIter I l 0 ∧ ((s.heap.push { cls := .type "list_iterator", data := .fields #[.ref l, .int 0 0] }).push { cls := .type "list", data := .seq #[] }).IsList l #[.ref a, .ref b] := by
    refine ⟨⟨_, Heap.get?_push_of_some _ (by rw [← hI]; exact Heap.get?_push_size _ rfl), rfl, rfl⟩, hl.at (old l)⟩
  have hSo : ((s.heap.push { cls := .type "list_iterator", data := .fields #[.ref l, .int 0 0] }).push { cls := .type "list", data := .seq #[] }).get? (I + 1) = some { cls := .type "list", data := .seq #[] } := by rw [← hS]; exact Heap.get?_push_size _ rfl
  have key : ∀ h₁ h₂ : Heap, (∀ x o, x ∉ [I] → h₁.get? x = some o → h₂.get? x = some o) → (∀ x o, x < I → s.heap.get? x = some o → h₁.get? x = some o) → ∀ x o, x < I → s.heap.get? x = some o → h₂.get? x = some o :=
    fun h₁ h₂ hk ho x o hx e => hk x o (by rw [List.mem_singleton]; exact Nat.ne_of_lt hx) (ho x o hx e)
  refine wpAny_pure ⟨plainId_quiet F.plain_max_loop _, ?_⟩
  generalize hH : (s.heap.push { cls := .type "list_iterator", data := .fields #[.ref l, .int 0 0] }).push { cls := .type "list", data := .seq #[] } = H at *
  have o0 : ∀ x o, x < I → s.heap.get? x = some o → H.get? x = some o := fun x o _ e => old x o e
  clear hS hH old
  -- the first turn
  refine codeAny_builtin F.entry_max_loop ?_
  rw [Around.under_plainId F.plain_max_loop _]
  show wpAny _ A.in1 (seqItems? (.ref (I + 1)) >>= _) _ _ _
  refine wpAny_bind (wpAny_seqItems hSo rfl ?_)
  show wpAny _ A.in1 (tryCatch (pyNext (.ref I)) _ >>= _) _ _ _
  refine wpAny_bind (wpAny_tryCatch (W.item 0 _ _ _ (Nat.zero_lt_succ _) hst0 fun v h1 tk1 hP1 hst1 hk1 => ?_))
  have ev : v = .ref a := by simpa using hP1.symm
  subst ev
  have o1 := key _ _ hk1 o0
  have hS1 := hk1 (I + 1) _ (by rw [List.mem_singleton]; exact Nat.succ_ne_self I) hSo
  show wpAny _ A.in1 (updateSeq (I + 1) (fun _ => #[.ref a, .ref a]) >>= _) _ _ _
  refine wpAny_bind ?_
  refine wpAny_updateSeq hS1 rfl ?_
  rw [hname]
  have hS2 := Heap.get?_update_self (Obj.mapSeq fun _ => #[.ref a, .ref a]) hS1 rfl
  have hst2 := W.frame _ _ _ hst1 fun b hb o e => (Heap.get?_update_other _ (Obj.mapSeq fun _ => #[.ref a, .ref a]) (show I + 1 ≠ b from fun q => by
    rcases List.mem_cons.mp hb with e2 | hb
    · exact Nat.succ_ne_self I (q.trans e2)
    · rw [List.mem_singleton.mp hb] at q; exact Nat.ne_of_gt (Nat.lt_succ_of_lt hlt) q)).trans e
  have o2 : ∀ x o, x < I → s.heap.get? x = some o → (h1.update (I + 1) (Obj.mapSeq fun _ => #[.ref a, .ref a])).get? x = some o := fun x o hx e => (Heap.get?_update_other _ _ (show I + 1 ≠ x from Nat.ne_of_gt (Nat.lt_succ_of_lt hx))).trans (o1 x o hx e)
  refine wpAny_pure ⟨plainId_quiet F.plain_max_loop _, ?_⟩
  generalize h1.update (I + 1) (Obj.mapSeq fun _ => #[.ref a, .ref a]) = H2 at *
  -- the second turn
  refine codeAny_builtin F.entry_max_loop ?_
  rw [Around.under_plainId F.plain_max_loop _]
  show wpAny _ A.in1 (seqItems? (.ref (I + 1)) >>= _) _ _ _
  refine wpAny_bind (wpAny_seqItems hS2 rfl ?_)
  show wpAny _ A.in1 (tryCatch (pyNext (.ref I)) _ >>= _) _ _ _
  refine wpAny_bind (wpAny_tryCatch (W.item 1 _ _ _ (Nat.lt_succ_self 1) hst2 fun v h3 tk3 hP3 hst3 hk3 => ?_))
  have ev : v = .ref b := by simpa using hP3.symm
  subst ev
  have o3 := key _ _ hk3 o2
  have hS3 := hk3 (I + 1) _ (by rw [List.mem_singleton]; exact Nat.succ_ne_self I) hS2
  have ha3 : h3.IsList a va := ha.at fun o e => o3 a o halt e
  have hb3 : h3.IsList b vb := hb.at fun o e => o3 b o hblt e
  show wpAny _ A.in1 (tryCatch (holding [.ref b, .ref b] (richCompare .Gt (.ref b) (.ref a) >>= _)) _ >>= _) _ _ _
  refine wpAny_bind (wpAny_tryCatch (wpAny_holding (wpAny_bind (rc_gt (s := { s with heap := h3, toks := tk3 }) hb3 ha3 hsz hu (fun j h1 h2 => he _ _ j h1 h2) ?_))))
  refine wpAny_bind (wpAny_holding (wpAny_truthy_bool ?_))
  refine wpAny_bind (wpAny_letGo (wpAny_pure ?_))
  have fin : ∀ (r : Addr) (h5 : Heap) (tk5 : Nat) (c : Nat), (∀ h' tk, Fr h₀ L h' m → News h₀ L h' news → Q (.ref r) { s with heap := h', toks := tk }) →
      (h5.IsListIter I l 2 ∧ h5.IsList l #[.ref a, .ref b]) → h5.get? (I + 1) = some { cls := .type "list", data := .seq #[.ref r, .ref r] c } → (∀ x o, x < I → s.heap.get? x = some o → h5.get? x = some o) →
      codeAny (model prog w) A (.builtin "max.loop" ⟨[.ref I, .none, .ref (I + 1)], []⟩) (fun rr s' => match rr with | .ok (.ret v) => Q v s' | .ok _ => False | .error e => E e s') { s with heap := h5, toks := tk5 } := by
    intro r h5 tk5 c hQ hst5 hS5 o5
    refine codeAny_builtin F.entry_max_loop ?_
    rw [Around.under_plainId F.plain_max_loop _]
    show wpAny _ A.in1 (seqItems? (.ref (I + 1)) >>= _) _ _ _
    refine wpAny_bind (wpAny_seqItems hS5 rfl ?_)
    show wpAny _ A.in1 (tryCatch (pyNext (.ref I)) _ >>= _) _ _ _
    refine wpAny_bind (wpAny_tryCatch (W.done _ _ _ hst5 fun h6 tk6 hk6 => ?_))
    have o6 := key _ _ hk6 o5
    have hS6 := hk6 (I + 1) _ (by rw [List.mem_singleton]; exact Nat.succ_ne_self I) hS5
    show wpAny _ A.in1 (updateSeq (I + 1) (fun _ => #[]) >>= _) _ _ _
    refine wpAny_bind ?_
    refine wpAny_updateSeq hS6 rfl (wpAny_bind (wpAny_letGo (wpAny_pure ?_)))
    have o7 : ∀ x o, s.heap.get? x = some o → (h6.update (I + 1) (Obj.mapSeq fun _ => #[])).get? x = some o := fun x o e => by
      have hx : x < I := by rw [← hI]; exact Heap.lt_size e
      exact (Heap.get?_update_other _ _ (show I + 1 ≠ x from Nat.ne_of_gt (Nat.lt_succ_of_lt hx))).trans (o6 x o hx e)
    exact hQ _ tk6 (F₀.keptAll o7) (N₀.grown o7)
  by_cases hc : va.size < vb.size
  · rw [if_pos hc] at h
    rw [decide_eq_true hc]
    simp only [if_true]
    refine wpAny_bind ?_
    refine wpAny_updateSeq hS3 rfl (wpAny_bind (wpAny_letGo ?_))
    rw [hname]
    refine wpAny_pure ⟨plainId_quiet F.plain_max_loop _, fin b _ _ _ h (W.frame _ _ _ hst3 fun b hb o e => (Heap.get?_update_other _ _ (show I + 1 ≠ b from fun q => ?_)).trans e) (Heap.get?_update_self _ hS3 rfl) fun x o hx e => (Heap.get?_update_other _ _ (show I + 1 ≠ x from Nat.ne_of_gt (Nat.lt_succ_of_lt hx))).trans (o3 x o hx e)⟩
    rcases List.mem_cons.mp hb with e2 | hb
    · exact Nat.succ_ne_self I (q.trans e2)
    · rw [List.mem_singleton.mp hb] at q; exact Nat.ne_of_gt (Nat.lt_succ_of_lt hlt) q
  · rw [if_neg hc] at h
    rw [decide_eq_false hc]
    simp only [Bool.false_eq_true, if_false]
    refine wpAny_bind (wpAny_letGo ?_)
    rw [hname]
    exact wpAny_pure ⟨plainId_quiet F.plain_max_loop _, fin a _ _ _ h hst3 hS3 o3⟩
end
section
variable {prog : Program} {w : World} {A : Around} {E : Value → Shared → Prop} {s : Shared} {env : Env} {h₀ : Heap} {body : List Stmt} {Q : Flow → Shared → Prop} {target : Expr}
theorem TsAre.at {o : Bool} : ∀ {vs : List Value} {ps : List (List Nat)} {i : Nat} {p : List Nat}, TsAre o vs ps → ps[i]? = some p → ∃ t, vs[i]? = some (T o p t)
  | v :: vs, q :: ps, 0, p, ⟨⟨t, e⟩, _⟩, h => by
    have h' : q = p := by simpa using h
    exact ⟨t, by rw [e, h']; rfl⟩
  | v :: vs, q :: ps, i + 1, p, ⟨_, hv⟩, h => by
    obtain ⟨t, e⟩ := TsAre.at hv (i := i) (p := p) (by simpa using h)
    exact ⟨t, by simpa using e⟩
  | [], [], _, _, _, h => by simp at h
  | [], _ :: _, _, _, h, _ => h.elim
  | _ :: _, [], _, _, h, _ => h.elim
/-- an item of a list of texts -/
theorem item_texts {value slice : Expr} {L D : Addr} {news : Led} {n i : Nat} {vs : List Value} {ps : List (List Nat)} {o : Bool} {p : List Nat} {ui : Tok} {Q : Value → Shared → Prop} (N : News h₀ L s.heap news) (hm : (D, listOf vs.toArray n) ∈ news) (hv : TsAre o vs ps) (hi : ps[i]? = some p) (hb : i ≤ 1000000)
    (h : ∀ t, Q (T o p t) s) (hs : subscripted slice false (.ref D) (.int (i : Int) ui) = operate [.ref D, .int (i : Int) ui] (getItem (.ref D) (.int (i : Int) ui)) := by with_unfolding_all rfl) :
    wpAny (model prog w) A (subscriptTail value slice (.ref D) (.int (i : Int) ui)) Q E s := by
  have hl : s.heap.IsList D vs.toArray := ⟨_, (N _ hm).1, rfl, n, rfl⟩
  obtain ⟨t, ht⟩ := hv.at hi
  exact tail_any hl.typeIs slot_list_getitem.lookup (wpAny_getItem_list hl (x := T o p t) (by omega) (by omega) (by simpa using ht) (h t)) hs
def EnumTurn (P : Prop) : Prop := P
def EnumDone (P : Prop) : Prop := P
/-- the end of a turn of a loop over enumerate: nothing but its two names is turned -/
def EnumEnd (h₀ : Heap) (L : Addr) (xi xv : Str) (m₀ : Str → Option Value) (news : Led) (s₁ : Shared) (f : Flow) (s₂ : Shared) : Prop :=
  (f = .next ∨ f = .cont) ∧ ∃ h' tk m', s₂ = { s₁ with heap := h', toks := tk } ∧ Fr h₀ L h' m' ∧ (∀ y, y ≠ xi → y ≠ xv → m' y = m₀ y) ∧ News h₀ L h' news
theorem EnumEnd.intro {L : Addr} {xi xv : Str} {m₀ m' : Str → Option Value} {news : Led} {s₁ : Shared} {f : Flow} {h' : Heap} {tk : Nat} (hf : f = .next ∨ f = .cont) (F : Fr h₀ L h' m') (hm : ∀ y, y ≠ xi → y ≠ xv → m' y = m₀ y) (N : News h₀ L h' news) :
    EnumEnd h₀ L xi xv m₀ news s₁ f { s₁ with heap := h', toks := tk } := ⟨hf, h', tk, m', rfl, F, hm, N⟩
theorem enum_rest {xi xv : Str} {elts : List Expr} {kk : Nat} {pos : Pos} {m₀ : Str → Option Value} {news keep : Led} {I : Addr} {o : Bool} {ps : List (List Nat)} (hk : SubL keep news) (hlt : ∀ p ∈ news, p.1 < I)
    (turn : ∀ (i : Nat) (p : List Nat) (u : Str → Option Value) (Tp : Addr) t t' h tk o1 o2, ps[i]? = some p → IsTup h Tp #[.int (i : Int) t, T o p t'] →
      Fr h₀ env.locals h (fun y => if y = xi then u y else if y = xv then u y else m₀ y) → News h₀ env.locals h ((I + 1, o1) :: (I, o2) :: news) →
      wpAny (model prog w) A (assign (.Tuple elts kk pos) env (.ref Tp)) (fun _ s₂ => wpAny (model prog w) A (execs body env) (EnumEnd h₀ env.locals xi xv m₀ ((I + 1, o1) :: (I, o2) :: news) { s with heap := h, toks := tk }) E s₂) E { s with heap := h, toks := tk })
    (done : ∀ (u : Str → Option Value) h tk, Fr h₀ env.locals h (fun y => if y = xi then u y else if y = xv then u y else m₀ y) → News h₀ env.locals h news → Q .next { s with heap := h, toks := tk }) :
    ∀ (rest : List Value) (qs : List (List Nat)) (i : Nat) (m : Str → Option Value), TsAre o rest qs → qs = ps.drop i → (∀ y, y ≠ xi → y ≠ xv → m y = m₀ y) →
      ItemsRest prog w A E h₀ env (.Tuple elts kk pos) body Q s [(I + 1, "enumerate"), (I, "list_iterator")] keep (enumItems i rest) m news := by
  have same : ∀ m : Str → Option Value, (∀ y, y ≠ xi → y ≠ xv → m y = m₀ y) → m = fun y => if y = xi then m y else if y = xv then m y else m₀ y := fun m hm => by
    funext y
    by_cases h1 : y = xi
    · simp [h1]
    · by_cases h2 : y = xv
      · simp [h2]
      · simp only [if_neg h1, if_neg h2]; exact hm y h1 h2
  intro rest
  induction rest with
  | nil =>
    intro qs i m hv hq hm
    exact ItemsRest.zero fun h tk F N => done m h tk (by rw [← same m hm]; exact F) N
  | cons v rest ih =>
    intro qs i m hv hq hm
    cases qs with
    | nil => exact hv.elim
    | cons q qs =>
      obtain ⟨⟨t', e⟩, hv⟩ := hv
      subst e
      have hi : ps[i]? = some q := by
        have := congrArg (fun z : List (List Nat) => z[0]?) hq
        simpa using this.symm
      have hq' : qs = ps.drop (i + 1) := by
        have := congrArg List.tail hq
        simpa using this
      refine ItemsRest.pair fun Tp t h tk hT F => ?_
      rw [same m hm] at F
      intro o1 hc1 o2 hc2 N
      refine wpAny_mono (turn i q m Tp t t' h tk o1 o2 hi hT F N) (fun _ s₂ h₂ => wpAny_mono h₂ (fun f s₃ h₃ => ?_) fun _ _ e => e) fun _ _ e => e
      obtain ⟨hf, h', tk', m', rfl, F', hm', N'⟩ := h₃
      have fin : UnrEndW h₀ env.locals { s with heap := h, toks := tk } [(I + 1, o1), (I, o2)] (fun m' n' => SubL keep n' ∧ ItemsRest prog w A E h₀ env (.Tuple elts kk pos) body Q s [(I + 1, "enumerate"), (I, "list_iterator")] keep (enumItems (i + 1) rest) m' n') { s with heap := h', toks := tk' } :=
        ⟨h', tk', m', news, rfl, F', N', fun p hp q hq e => by
          have h1 := hlt p hp
          rcases List.mem_cons.mp hq with rfl | hq
          · rw [e] at h1; exact Nat.lt_irrefl _ (Nat.lt_of_lt_of_le h1 (Nat.le_succ _))
          · rw [List.mem_singleton.mp hq] at e; rw [e] at h1; exact Nat.lt_irrefl _ h1, hk, ih qs (i + 1) m' hv hq' hm'⟩
      rcases hf with rfl | rfl
      · exact fin
      · exact fin
theorem enum_texts {xi xv : Str} {elts : List Expr} {kk : Nat} {pos : Pos} {m₀ : Str → Option Value} {news : Led} {l : Addr} {n : Nat} {vs : List Value} {o : Bool} {ps : List (List Nat)} (hh : A.handled = none) (F : Fr h₀ env.locals s.heap m₀) (N : News h₀ env.locals s.heap news) (hm : (l, listOf vs.toArray n) ∈ news) (hv : TsAre o vs ps)
    (turn : EnumTurn (∀ (I : Addr) (i : Nat) (p : List Nat) (u : Str → Option Value) (Tp : Addr) t t' h tk o1 o2, (∀ p ∈ news, p.1 < I) → ps[i]? = some p → IsTup h Tp #[.int (i : Int) t, T o p t'] →
      Fr h₀ env.locals h (fun y => if y = xi then u y else if y = xv then u y else m₀ y) → News h₀ env.locals h ((I + 1, o1) :: (I, o2) :: news) →
      wpAny (model prog w) A (assign (.Tuple elts kk pos) env (.ref Tp)) (fun _ s₂ => wpAny (model prog w) A (execs body env) (EnumEnd h₀ env.locals xi xv m₀ ((I + 1, o1) :: (I, o2) :: news) { s with heap := h, toks := tk }) E s₂) E { s with heap := h, toks := tk }))
    (done : EnumDone (∀ (u : Str → Option Value) h tk, Fr h₀ env.locals h (fun y => if y = xi then u y else if y = xv then u y else m₀ y) → News h₀ env.locals h news → Q .next { s with heap := h, toks := tk })) :
    wpAny (model prog w) A (call (.type "enumerate") [.ref l]) (fun xv s₁ => wpAny (model prog w) A (pyIter xv) (fun it s₂ => TurnsAt prog w A h₀ env (.Tuple elts kk pos) body Q E it s₂) E s₁) E s := by
  refine ktu_enum (vs := vs) hh F N hm rfl rfl rfl fun I hlt => ?_
  exact enum_rest (xi := xi) (xv := xv) (m₀ := m₀) (ps := ps) (o := o) (keep := [(l, listOf vs.toArray n)]) (And.intro hm trivial) hlt (fun i p u Tp t t' h tk o1 o2 => turn I i p u Tp t t' h tk o1 o2 hlt) done vs ps 0 m₀ hv rfl fun _ _ _ => rfl
end
section
variable {prog : Program} {w : World} {A : Around} {E : Value → Shared → Prop} {s : Shared} {h₀ : Heap} {L : Addr} {m : Str → Option Value} {news : Led} {o : Bool} {J K : List (List Nat)} {va vb : List Value} {a b l : Addr} {na nb : Nat} {Q : Value → Shared → Prop}
theorem TsAre.prefix (ha : TsAre o va J) (hb : TsAre o vb (J ++ K)) : ∀ (A' : Around) (s' : Shared) j (h1 : j < vb.toArray.size) (h2 : j < va.toArray.size), SeqAt.EqAt A' s' vb.toArray[j] va.toArray[j] true := by
  intro A' s' j h1 h2
  have l1 := ha.len
  have h2' : j < J.length := by rw [← l1]; simpa using h2
  obtain ⟨t, e1⟩ := ha.at (i := j) (p := J[j]) (List.getElem?_eq_getElem h2')
  obtain ⟨u, e2⟩ := hb.at (i := j) (p := J[j]) (by rw [List.getElem?_append_left h2']; exact List.getElem?_eq_getElem h2')
  have e1' : va.toArray[j] = T o J[j] t := by
    have := (List.getElem?_eq_some_iff.mp e1).2; simpa using this
  have e2' : vb.toArray[j] = T o J[j] u := by
    have := (List.getElem?_eq_some_iff.mp e2).2; simpa using this
  rw [e1', e2']
  exact eqAt_T A' s'
theorem min_texts (hh : A.handled = none) (hu : A.units + 1 < cLine) (F : Fr h₀ L s.heap m) (N : News h₀ L s.heap news) (hl : (l, LCg.lst [Value.ref a, Value.ref b]) ∈ news) (ha : (a, listOf va.toArray na) ∈ news) (hb : (b, listOf vb.toArray nb) ∈ news)
    (hva : TsAre o va J) (hvb : TsAre o vb (J ++ K)) (h : ∀ h' tk, Fr h₀ L h' m → News h₀ L h' news → Q (.ref a) { s with heap := h', toks := tk }) :
    wpAny (model prog w) A (call (.builtin "min") [.ref l]) Q E s := by
  have l1 := hva.len
  have l2 := hvb.len
  rw [List.length_append] at l2
  exact min_two_lists hh hu F N ⟨_, (N _ hl).1, rfl, _, rfl⟩ ⟨_, (N _ ha).1, rfl, na, rfl⟩ ⟨_, (N _ hb).1, rfl, nb, rfl⟩ (by simp; omega) (hva.prefix hvb) h
theorem max_texts (hh : A.handled = none) (hu : A.units + 1 < cLine) (F : Fr h₀ L s.heap m) (N : News h₀ L s.heap news) (hl : (l, LCg.lst [Value.ref a, Value.ref b]) ∈ news) (ha : (a, listOf va.toArray na) ∈ news) (hb : (b, listOf vb.toArray nb) ∈ news)
    (hva : TsAre o va J) (hvb : TsAre o vb (J ++ K)) (h1 : ∀ h' tk, Fr h₀ L h' m → News h₀ L h' news → Q (.ref a) { s with heap := h', toks := tk }) (h2 : ∀ h' tk, Fr h₀ L h' m → News h₀ L h' news → Q (.ref b) { s with heap := h', toks := tk }) :
    wpAny (model prog w) A (call (.builtin "max") [.ref l]) Q E s := by
  have l1 := hva.len
  have l2 := hvb.len
  rw [List.length_append] at l2
  refine max_two_lists hh hu F N ⟨_, (N _ hl).1, rfl, _, rfl⟩ ⟨_, (N _ ha).1, rfl, na, rfl⟩ ⟨_, (N _ hb).1, rfl, nb, rfl⟩ (by simp; omega) (hva.prefix hvb) fun h' tk F' N' => ?_
  split
  · exact h2 h' tk F' N'
  · exact h1 h' tk F' N'
theorem get_app {i : Nat} {p : List Nat} (h : J[i]? = some p) : (J ++ K)[i]? = some p := by
  rw [List.getElem?_append_left (List.getElem?_eq_some_iff.mp h).1]; exact h
theorem get_bound {i : Nat} {p : List Nat} (h : J[i]? = some p) (hb : J.length ≤ 1000000) : i ≤ 1000000 := by
  have := (List.getElem?_eq_some_iff.mp h).1; omega
end
section
variable {prog : Program} {w : World} {A : Around} {E : Value → Shared → Prop} {s : Shared} {t u : Tok} {Q : Value → Shared → Prop}
theorem ne_same_s (x : List Nat) (h : Q (.bool false) s) : wpAny (model prog w) A (compareOp .NotEq (.str (st x) t) (.str (st x) u)) Q E s :=
  ne_s x x (by rw [decide_eq_true rfl]; exact h)
theorem ne_same_b (x : List Nat) (h : Q (.bool false) s) : wpAny (model prog w) A (compareOp .NotEq (.bytes (bs x) t) (.bytes (bs x) u)) Q E s :=
  ne_bytes (by rw [bne_self_eq_false]; exact h)
end
local macro_rules | `(tactic| walk_at "call type:map") => `(tactic| (k_here; (with_reducible show wpAny _ _ (call (Value.type "map") [_, Value.ref _]) _ _ _); k_dflt (refine' map_at ?F ?N ?l ?_; (case F => k_asm); (case N => k_asm); (case l => first | exact News.isList (by k_asm) (by k_mem) | exact ground_list (by k_asm) (by assumption))); (intro z' h' F' N' M')))
local macro_rules | `(tactic| walk_at "call type:tuple") => `(tactic| (k_here; (with_reducible show wpAny _ _ (call (Value.type "tuple") [Value.ref _]) _ _ _); k_dflt (first | (refine' tuple_map_fs (o := false) ?k1 ?k2 ?k3 ?k4 ?k5 ?kK ?kd ?ku ?kl ?kM ?_; (case kM => assumption); (case kl => assumption)) | (refine' tuple_map_fs (o := true) ?k1 ?k2 ?k3 ?k4 ?k5 ?kK ?kd ?ku ?kl ?kM ?_; (case kM => assumption); (case kl => assumption))); (case k1 => k_asm); (case k2 => k_asm); (case k3 => k_asm); (case k4 => k_asm); (case k5 => k_asm); (case kK => first | exact rfl | assumption); (case kd => ktr_room); (case ku => ktr_units); (intro D' h' tk' F' N' l1; (try k_lt l1); (try dsimp only [T] at N'); (try k_fold))))
local macro_rules | `(tactic| walk_at "exec Try") => `(tactic| (k_here; (with_reducible show wpAny _ _ (exec (Stmt.Try _ (_ :: _) _ [] _) _) _ _ _); refine wpAny_Try_except ?_))
local macro_rules | `(tactic| walk_at "exec Assign cons ListComp") => `(tactic| (k_here; (with_reducible show wpAny _ _ (exec (Stmt.Assign _ (Expr.ListComp _ [⟨_, Expr.Name (Str.ofString "paths") _, _, _⟩] _ _) _) _) _ _ _); k_dflt (refine Assign_ListComp_T (F₀ := by k_asm) (by rfl) (by with_unfolding_all rfl) (by with_unfolding_all rfl) (by decide) (by rfl) (by decide) (by rfl) (by rfl) (by rfl) ?_); walk1; k_dflt (refine SrcTup.ledger (by rfl) (by k_asm) (by k_asm) (by k_mem) (by first | size_fits | exact Nat.le_of_ble_eq_true rfl) ?_; intro g'; lcg_lit)))
local macro_rules | `(tactic| walk_at "eval SetComp") => `(tactic| (k_here; (with_reducible show wpAny _ _ (eval (Expr.SetComp _ _ _ _) _) _ _ _); k_dflt (refine' SetComp_tup (p := _) ?c0 rfl ?c1 ?c2 ?c3 ?c4 ?c5 ?_; (case c0 => k_asm); (case c1 => with_unfolding_all rfl); (case c2 => decide); (case c3 => rfl); (case c4 => decide); (case c5 => rfl)); walk1; k_dflt (refine' SetSrc.two rfl ?F ?N ?m ?_ ?_ ?_; (case F => k_asm); (case N => k_asm); (case m => k_mem))))
local macro_rules | `(tactic| walk_at "assign Tuple ref") => `(tactic| (k_here; (with_reducible show wpAny _ _ (assign (Expr.Tuple [_] _ _) _ (Value.ref _)) _ _ _); k_dflt (refine' assign_one ?F ?N ?m rfl rfl ?_; (case F => k_asm); (case N => k_asm); (case m => k_mem)); intro h' F' N'))
local macro_rules | `(tactic| walk_at "assign Tuple cons nil") => `(tactic| (k_here; (with_reducible show wpAny _ _ (assign (Expr.Tuple [_] _ _) _ (Value.ref _)) _ _ _); k_dflt (refine' assign_one ?F ?N ?m rfl rfl ?_; (case F => k_asm); (case N => k_asm); (case m => k_mem)); intro h' F' N'))
local macro_rules | `(tactic| walk_at "assign Tuple") => `(tactic| (k_here; (with_reducible show wpAny _ _ (assign (Expr.Tuple [_] _ _) _ (Value.ref _)) _ _ _); k_dflt (refine' assign_one ?F ?N ?m rfl rfl ?_; (case F => k_asm); (case N => k_asm); (case m => k_mem)); intro h' F' N'))
local macro_rules | `(tactic| walk_at "eval ListComp") => `(tactic| (k_here; (with_reducible show wpAny _ _ (eval (Expr.ListComp _ [⟨_, _, [_], _⟩] _ _) _) _ _ _); k_dflt (refine' comp_filter keepT ?c0 ?c1 ?c2 ?c3 ?c4 ?c5 ?_; (case c0 => k_asm); (case c1 => with_unfolding_all rfl); (case c2 => decide); (case c3 => rfl); (case c4 => decide); (case c5 => rfl)); walk1; k_dflt (first | (refine' FiltSrc.strs rfl ?F ?N ?m ?v ?o ?l ?_ ?_ ?q ?_; (case F => k_asm); (case N => k_asm); (case m => k_mem); (case v => assumption); (case o => assumption); (case l => assumption); (case q => assumption)) | (refine' FiltSrc.bytes rfl ?F ?N ?m ?v ?o ?l ?_ ?_ ?q ?_; (case F => k_asm); (case N => k_asm); (case m => k_mem); (case v => assumption); (case o => assumption); (case l => assumption); (case q => assumption)))))
local macro_rules | `(tactic| walk_at "FiltEnd") => `(tactic| ((unfold FiltEnd); intro D' h' tk' n' vs' hv' F' N' o1'; (try simp only [LCg.Off1, and_true] at o1'); (try simp only [List.nil_append, List.cons_append] at N'); (try dsimp only)))
local macro_rules | `(tactic| walk_at "IsItem") => `(tactic| (exact IsItem.intro rfl))
local macro_rules | `(tactic| k_ne) => `(tactic| (refine neN ?_; (try dsimp only); first | assumption | (refine Ne.symm ?_; assumption)))
local macro_rules | `(tactic| walk_at "CompEnd") => `(tactic| ((repeat ((with_reducible rename (_ ∧ _) => hAnd9); obtain ⟨hA8, hA9⟩ := hAnd9)); lcg_end))
local macro_rules | `(tactic| walk_at "IsKeep") => `(tactic| (first | exact IsKeep.intro (kp1 (by assumption)) | exact IsKeep.intro (kp2 (by assumption) (by assumption)) | exact IsKeep.intro (kp3 (by assumption))))
local macro_rules | `(tactic| walk_at "CompSrc") => `(tactic| (k_here; k_dflt (refine LCg.CompSrc.ledger (by rfl) (by k_asm) (by k_asm) (by k_mem) (by first | size_fits | exact Nat.le_of_ble_eq_true rfl) ?_; intro g'; lcg_lit)))
local macro_rules | `(tactic| walk_at "call builtin:min") => `(tactic| (k_here; (with_reducible show wpAny _ _ (call (Value.builtin "min") [Value.ref _]) _ _ _); k_dflt (refine' min_texts rfl ?u ?F ?N ?l ?a ?b ?va ?vb ?_; (case u => ktr_units); (case F => k_asm); (case N => k_asm); (case l => k_mem); (case a => k_mem); (case b => k_mem); (case va => assumption); (case vb => assumption)); intro h' tk' F' N'))
local macro_rules | `(tactic| walk_at "call builtin:max") => `(tactic| (k_here; (with_reducible show wpAny _ _ (call (Value.builtin "max") [Value.ref _]) _ _ _); k_dflt (refine' max_texts rfl ?u ?F ?N ?l ?a ?b ?va ?vb ?_ ?_; (case u => ktr_units); (case F => k_asm); (case N => k_asm); (case l => k_mem); (case a => k_mem); (case b => k_mem); (case va => assumption); (case vb => assumption)); (all_goals (intro h' tk' F' N'))))
local macro_rules | `(tactic| walk_at "exec For Tuple Call cons nil") => `(tactic| (k_here; (with_reducible show wpAny _ _ (exec (Stmt.For (Expr.Tuple [_, _] _ _) (Expr.Call _ [_] [] _) _ [] _) _) _ _ _); (rename Fr _ _ _ _ => lF'); (with_unfolding_all refine' For_turns lF' ?_; k_whole)))
local macro_rules | `(tactic| walk_at "call type:enumerate") => `(tactic| (k_here; (with_reducible show wpAny _ _ (call (Value.type _) [Value.ref _]) (fun xv s₁ => wpAny _ _ (pyIter xv) (fun it s₂ => TurnsAt _ _ _ _ _ _ _ _ _ it s₂) _ s₁) _ _); k_dflt (refine' enum_texts (xi := Str.ofString "i") (xv := Str.ofString "c") rfl ?F ?N ?m ?v ?_ ?_; (case F => k_asm); (case N => k_asm); (case m => k_mem); (case v => assumption))))
local macro_rules | `(tactic| walk_at "subscriptTail Name Name ref int") => `(tactic| (k_here; (with_reducible show wpAny _ _ (subscriptTail _ _ (Value.ref _) (Value.int _ _)) _ _ _); k_dflt (refine' item_texts ?N ?m ?v ?i ?b ?_; (case N => k_asm); (case m => k_mem); (case v => assumption); (case i => first | assumption | exact get_app (by assumption)); (case b => exact get_bound (by assumption) (by assumption))); intro t'; (try dsimp only [T])))
local macro_rules | `(tactic| walk_at "compareOp NotEq str str") => `(tactic| (refine ne_same_s _ ?_))
local macro_rules | `(tactic| walk_at "compareOp NotEq bytes bytes") => `(tactic| (refine ne_same_b _ ?_))
local macro_rules | `(tactic| walk_at "EnumTurn") => `(tactic| ((unfold EnumTurn); intro I' i' p' u' Tp' t1' t2' h' tk' o1' o2' l1' hi' hT' F' N'; (try k_lt l1'); (try dsimp only [T] at hT')))
local macro_rules | `(tactic| walk_at "EnumDone") => `(tactic| ((unfold EnumDone); intro u' h' tk' F' N'))
local macro_rules | `(tactic| walk_at "EnumEnd") => `(tactic| (exact EnumEnd.intro (.inl rfl) (by assumption) (fun y h1 h2 => by simp only [if_neg h1, if_neg h2]) (by assumption)))
def comps (x : List Nat) : List (List Nat) := (splitS x).filter keepN
theorem weight_filter (p : List Nat → Bool) : ∀ ps : List (List Nat), weightS (ps.filter p) ≤ weightS ps
  | [] => Nat.le_refl _
  | q :: ps => by
    have := weight_filter p ps
    cases h : p q
    · rw [List.filter_cons_of_neg (by simp [h])]; simp only [weightS]; omega
    · rw [List.filter_cons_of_pos h]; simp only [weightS]; omega
theorem common_con (w : World) (o : Bool) (x y : List Nat) (t u : Tok) (l : Addr) (J K : List (List Nat)) (hx : Ok x) (hy : Ok y) (hxl : x.length ≤ 90000) (hyl : y.length ≤ 90000) (hx1 : x.head? = some 47) (hy1 : y.head? = some 47) (hJ : comps x = J) (hK : comps y = J ++ K) :
    Con w 134 12 [.ref l] (fun h => h.IsList l #[T o x t, T o y u]) (isT o (47 :: joinS J)) := by
  w_top off
  unfold Con
  k_fill
  have hokx : ∀ q ∈ splitS x, Ok q := fun q hq => Ok.piece hx hq
  have hoky : ∀ q ∈ splitS y, Ok q := fun q hq => Ok.piece hy hq
  have hlx : (splitS x).length ≤ 1000000 := by have := splitS_count x; omega
  have hly : (splitS y).length ≤ 1000000 := by have := splitS_count y; omega
  have hJl : J.length ≤ 1000000 := by
    have h1 : (comps x).length ≤ (splitS x).length := List.length_filter_le _ _
    rw [hJ] at h1; omega
  have hJw : weightS J ≤ 1000000 := by
    have h1 := weight_filter keepN (splitS x)
    rw [weight_split, show (splitS x).filter keepN = J from hJ] at h1
    omega
  have hJo : Ok (joinS J) := by
    refine ⟨joinS_chars (by omega) fun q hq c hc => hx.lt c ?_, ?_⟩
    · rw [← hJ] at hq
      exact splitS_mem (List.mem_filter.mp hq).1 c hc
    · have h1 := weight_filter keepN (splitS x)
      rw [weight_split, show (splitS x).filter keepN = J from hJ] at h1
      have h2 := joinS_weight J
      omega
  have hpx : (splitS x).filter keepN = J := hJ
  have hpy : (splitS y).filter keepN = J ++ K := hK
  cases o <;> dsimp only [T]
  all_goals
    intros; rename_i hl hret
    refine wpAny_call ?_
    k_dflt (refine' cells_ground ?k1 ?k2 ?k3 ?k5 ?kA ?kF ?kK ?k6 ?k7 ?k8 ?k9 ?kB ?kD ?_ ?c2 ?c3 ?c4; (case kA => exact rfl); (case kF => exact rfl); (case kK => assumption); (case k1 => k_asm); (case k2 => k_asm); (case k3 => k_asm); (case k5 => k_asm); (case k6 => k_is); (case k7 => k_is); (case k8 => ktr_room); (case k9 => exact BindsTo.of_eq rfl); (case kB => exact rfl); (case kD => decide +kernel); (case c2 => exact rfl); (case c3 => exact rfl); (case c4 => exact rfl); k_whole; intro L' h' tk' cells' F' N' Y' B' X' T'; k_cells Y'; (try simp only [List.cons_append, List.nil_append] at N'); (try dsimp only); (try k_fold))
    k_steps
    all_goals (first | exact IsTrueAt.intro (decide_eq_true (by assumption)) | exact hret _ _ _ (by first | exact isT_s rfl | exact isT_b rfl) (Fr.keep (by k_asm)))
/-- a name: not empty, no dot, no two dots, no slash in it, its signs below 256 -/
def Nm (q : List Nat) : Prop := q ≠ [] ∧ q ≠ [46] ∧ q ≠ [46, 46] ∧ 47 ∉ q ∧ ∀ c ∈ q, c < 256
def Nms (ns : List (List Nat)) : Prop := ∀ q ∈ ns, Nm q
theorem Nms.nil : Nms [] := fun _ h => nomatch h
theorem Nms.app {a b : List (List Nat)} (ha : Nms a) (hb : Nms b) : Nms (a ++ b) := fun q hq => (List.mem_append.mp hq).elim (ha q) (hb q)
theorem Nms.step {ns : List (List Nat)} {p : List Nat} (h : Nms ns) (h1 : 47 ∉ p) (h2 : ∀ c ∈ p, c < 256) : Nms (stepN ns p) := by
  unfold stepN
  split
  · exact h
  · rename_i hp
    split
    · exact fun q hq => h q (List.dropLast_subset _ hq)
    · rename_i hp2
      exact h.app fun q hq => by
        rw [List.mem_singleton.mp hq]
        exact ⟨fun e => hp (.inl e), fun e => hp (.inr e), hp2, h1, h2⟩
theorem Nms.walk : ∀ (ps : List (List Nat)) {ns : List (List Nat)}, Nms ns → (∀ p ∈ ps, 47 ∉ p ∧ ∀ c ∈ p, c < 256) → Nms (walkN ns ps)
  | [], _, h, _ => h
  | p :: ps, _, h, hp => Nms.walk ps (h.step (hp p List.mem_cons_self).1 (hp p List.mem_cons_self).2) fun q hq => hp q (List.mem_cons_of_mem _ hq)
theorem Nms.walkS {ns : List (List Nat)} {x : List Nat} (h : Nms ns) (hx : Ok x) : Nms (walkN ns (splitS x)) :=
  h.walk _ fun p hp => ⟨splitS_free x p hp, fun c hc => hx.lt c (splitS_mem hp c hc)⟩
theorem walk_app {ns : List (List Nat)} : ∀ {z : List (List Nat)}, Nms ns → walkN z ns = z ++ ns := by
  induction ns with
  | nil => intro z _; simp [walkN]
  | cons p ns ih =>
    intro z h
    have hp := h p List.mem_cons_self
    have e : stepN z p = z ++ [p] := by unfold stepN; rw [if_neg (fun e => e.elim hp.1 hp.2.1), if_neg hp.2.2.1]
    show walkN (stepN z p) ns = _
    rw [e, ih fun q hq => h q (List.mem_cons_of_mem _ hq), List.append_assoc]; rfl
theorem joinS_nil {ns : List (List Nat)} (h : Nms ns) (e : joinS ns = []) : ns = [] := by
  cases ns with
  | nil => rfl
  | cons p ns =>
    have hp := (h p List.mem_cons_self).1
    cases ns with
    | nil => exact absurd e hp
    | cons q ns => rw [joinS_cons (by simp)] at e; simp at e
theorem joinS_app : ∀ {a b : List (List Nat)}, a ≠ [] → b ≠ [] → joinS (a ++ b) = joinS a ++ 47 :: joinS b
  | [], _, h, _ => absurd rfl h
  | [p], b, _, hb => by rw [List.singleton_append, joinS_cons hb]; rfl
  | p :: q :: a, b, _, hb => by
    rw [List.cons_append, joinS_cons (by simp), joinS_cons (ps := q :: a) (by simp), joinS_app (a := q :: a) (by simp) hb]; simp
theorem keep_all {ns : List (List Nat)} (h : Nms ns) : ns.filter keepN = ns := List.filter_eq_self.mpr fun q hq => by
  have := h q hq
  simp [keepN, this.1, this.2.1]
theorem comps_slash (x : List Nat) : comps (47 :: x) = comps x := by
  have : splitS (47 :: x) = [] :: splitS x := by simp [splitS]
  unfold comps; rw [this, List.filter_cons_of_neg (by simp [keepN])]
theorem comps_join {ns : List (List Nat)} (h : Nms ns) : comps (joinS ns) = ns := by
  cases ns with
  | nil => rfl
  | cons p ns => unfold comps; rw [splitS_joinS (by simp) fun q hq => (h q hq).2.2.2.1, keep_all h]
theorem joinS_inj {a b : List (List Nat)} (ha : Nms a) (hb : Nms b) (e : joinS a = joinS b) : a = b := by rw [← comps_join ha, e, comps_join hb]
theorem names_first {ns : List (List Nat)} (h : Nms ns) : (joinS ns).head? ≠ some 47 := by
  cases ns with
  | nil => simp [joinS]
  | cons p ps =>
    have g := h p List.mem_cons_self
    cases p with
    | nil => exact absurd rfl g.1
    | cons c q =>
      have hc : c ≠ 47 := fun e => g.2.2.2.1 (by simp [e])
      cases ps with
      | nil => simpa [joinS] using hc
      | cons a b => rw [joinS_cons (by simp)]; simpa using hc
def jails4 : List (List Nat) := [[47], [47, 106], [47, 106, 47, 107], [47, 97, 47, 98, 47, 99]]
def jailOf (n : Int) : List Nat := jails4.getD (n % 4).toNat []
def IsJail (top : List Nat) (J : List (List Nat)) : Prop := (top = [47] ∧ J = []) ∨ (top = [47, 106] ∧ J = [[106]]) ∨ (top = [47, 106, 47, 107] ∧ J = [[106], [107]]) ∨ (top = [47, 97, 47, 98, 47, 99] ∧ J = [[97], [98], [99]])
theorem jail_is (n : Int) : ∃ J, IsJail (jailOf n) J := by
  unfold jailOf
  have h0 : 0 ≤ n % 4 := by omega
  have h4 : n % 4 < 4 := by omega
  have : (n % 4).toNat < 4 := by omega
  generalize (n % 4).toNat = j at this
  match j, this with
  | 0, _ => exact ⟨_, .inl ⟨rfl, rfl⟩⟩
  | 1, _ => exact ⟨_, .inr (.inl ⟨rfl, rfl⟩)⟩
  | 2, _ => exact ⟨_, .inr (.inr (.inl ⟨rfl, rfl⟩))⟩
  | 3, _ => exact ⟨_, .inr (.inr (.inr ⟨rfl, rfl⟩))⟩
section
variable {top : List Nat} {J : List (List Nat)} (H : IsJail top J)
include H
theorem IsJail.ok : Ok top := by
  rcases H with ⟨rfl, rfl⟩ | ⟨rfl, rfl⟩ | ⟨rfl, rfl⟩ | ⟨rfl, rfl⟩ <;> exact ⟨by decide, by decide⟩
theorem IsJail.len : top.length ≤ 6 := by
  rcases H with ⟨rfl, rfl⟩ | ⟨rfl, rfl⟩ | ⟨rfl, rfl⟩ | ⟨rfl, rfl⟩ <;> decide
theorem IsJail.len2 : J.length ≤ 3 := by
  rcases H with ⟨rfl, rfl⟩ | ⟨rfl, rfl⟩ | ⟨rfl, rfl⟩ | ⟨rfl, rfl⟩ <;> decide
theorem IsJail.eq : top = 47 :: joinS J := by
  rcases H with ⟨rfl, rfl⟩ | ⟨rfl, rfl⟩ | ⟨rfl, rfl⟩ | ⟨rfl, rfl⟩ <;> rfl
theorem IsJail.head : top.head? = some 47 := by rw [H.eq]; rfl
theorem IsJail.nms : Nms J := by
  rcases H with ⟨rfl, rfl⟩ | ⟨rfl, rfl⟩ | ⟨rfl, rfl⟩ | ⟨rfl, rfl⟩ <;> simp [Nms, Nm]
theorem IsJail.top_iff : top = [47] ↔ J = [] := by
  rcases H with ⟨rfl, rfl⟩ | ⟨rfl, rfl⟩ | ⟨rfl, rfl⟩ | ⟨rfl, rfl⟩ <;> simp
theorem IsJail.walk {x : List Nat} (hx : x.head? ≠ some 47) : walkN [] (splitS (pjoin top x)) = walkN J (splitS x) := by
  rcases H with ⟨rfl, rfl⟩ | ⟨rfl, rfl⟩ | ⟨rfl, rfl⟩ | ⟨rfl, rfl⟩ <;>
  · simp [pjoin, hx, splitS, walkN, stepN]
theorem IsJail.root {x : List Nat} (hx : x.head? ≠ some 47) : rootOf (pjoin top x) = [47] := by
  have h1 := take_one hx
  rcases H with ⟨rfl, rfl⟩ | ⟨rfl, rfl⟩ | ⟨rfl, rfl⟩ | ⟨rfl, rfl⟩ <;>
  · simp [pjoin, hx, rootOf, h1]
theorem IsJail.pjoin_len (x : List Nat) : (pjoin top x).length ≤ x.length + 7 := by
  have h := H.len
  unfold pjoin
  split
  · omega
  · split
    · simp; omega
    · simp; omega
theorem IsJail.pjoin_ok {x : List Nat} (hx : Ok x) (hl : x.length ≤ 90000) : Ok (pjoin top x) := by
  refine ⟨fun c hc => ?_, by have := H.pjoin_len x; omega⟩
  have h1 := H.ok.lt
  have h2 := hx.lt
  unfold pjoin at hc
  split at hc
  · exact h2 c hc
  · split at hc
    · exact (List.mem_append.mp hc).elim (h1 c) (h2 c)
    · rcases List.mem_append.mp hc with hc | hc
      · exact h1 c hc
      · rcases List.mem_cons.mp hc with rfl | hc
        · decide
        · exact h2 c hc
theorem IsJail.spell {ns : List (List Nat)} (hn : Nms ns) : spell top ns = 47 :: joinS (J ++ ns) := by
  unfold Mine.spell
  by_cases h0 : ns = []
  · subst h0
    rw [if_pos (.inl rfl), List.append_nil, ← H.eq]; simp [joinS]
  · have h1 : ¬ joinS ns = [] := fun e => h0 (joinS_nil hn e)
    by_cases h2 : top = [47]
    · rw [if_pos (.inr h2)]
      have := H.top_iff.mp h2
      subst this
      rw [h2]; rfl
    · have h3 : J ≠ [] := fun e => h2 (H.top_iff.mpr e)
      rw [if_neg (fun e => e.elim h1 h2), joinS_app h3 h0]
      have e := H.eq
      rw [e]; simp
theorem IsJail.comps : comps top = J := by rw [H.eq, comps_slash, comps_join H.nms]
theorem IsJail.comps_spell {ns : List (List Nat)} (hn : Nms ns) : Mine.comps (Mine.spell top ns) = J ++ ns := by
  rw [H.spell hn, comps_slash, comps_join (H.nms.app hn)]
/-- the clean path hung in the jail -/
theorem IsJail.jailed {ns : List (List Nat)} (hn : Nms ns) : 47 :: joinS (walkN [] (splitS (pjoin top (joinS ns)))) = Mine.spell top ns := by
  rw [H.walk (names_first hn), H.spell hn]
  cases ns with
  | nil => simp [joinS, splitS, walkN, stepN]
  | cons p ns => rw [splitS_joinS (by simp) fun q hq => (hn q hq).2.2.2.1, walk_app hn]
end
/-- not above: the two walks go together -/
theorem walk_under : ∀ (ps : List (List Nat)) (J b : List (List Nat)), (ps.foldl stepW (b, false)).2 = false → walkN (J ++ b) ps = J ++ walkN b ps
  | [], _, _, _ => rfl
  | p :: ps, J, b, h => by
    have hs : (stepW (b, false) p).2 = false := by
      have : ∀ (qs : List (List Nat)) (c : List (List Nat) × Bool), c.2 = true → (qs.foldl stepW c).2 = true := by
        intro qs
        induction qs with
        | nil => intro c h; exact h
        | cons q qs ih =>
          intro c h
          refine ih _ ?_
          unfold stepW
          split
          · simp [h]
          · split <;> simp [h]
      cases hc : (stepW (b, false) p).2 with
      | false => rfl
      | true => rw [List.foldl_cons, this ps _ hc] at h; cases h
    have e1 : (stepW (b, false) p).1 = stepN b p := by have := stepW_fst [p] (b, false); simpa [walkN] using this
    have e2 : stepW (b, false) p = (stepN b p, false) := Prod.ext e1 hs
    have e3 : stepN (J ++ b) p = J ++ stepN b p := by
      unfold stepN
      split
      · rfl
      · split
        · rename_i hp
          have hb : b ≠ [] := by
            intro hb
            rw [hb] at hs
            simp [stepW, hp] at hs
          exact List.dropLast_append_of_ne_nil hb
        · rw [List.append_assoc]
    show walkN (stepN (J ++ b) p) ps = J ++ walkN (stepN b p) ps
    rw [e3]
    refine walk_under ps J _ ?_
    rw [List.foldl_cons, e2] at h
    exact h
/-- above: the one that began in the jail is the shorter for ever -/
theorem walk_less : ∀ (ps : List (List Nat)) (a b : List (List Nat)) (n : Nat), 1 ≤ n → a.length < n + b.length → (walkN a ps).length < n + (walkN b ps).length
  | [], _, _, _, _, h => h
  | p :: ps, a, b, n, hn, h => by
    show (walkN (stepN a p) ps).length < n + (walkN (stepN b p) ps).length
    refine walk_less ps _ _ n hn ?_
    unfold stepN
    split
    · exact h
    · split
      · simp only [List.length_dropLast]; omega
      · simp only [List.length_append, List.length_singleton]; omega
theorem walk_above : ∀ (ps : List (List Nat)) (J b : List (List Nat)), J ≠ [] → (ps.foldl stepW (b, false)).2 = true → (walkN (J ++ b) ps).length < J.length + (walkN b ps).length
  | [], _, _, _, h => by simp at h
  | p :: ps, J, b, hJ, h => by
    have hn : 1 ≤ J.length := by cases J; exact absurd rfl hJ; simp
    have e1 : (stepW (b, false) p).1 = stepN b p := by have := stepW_fst [p] (b, false); simpa [walkN] using this
    show (walkN (stepN (J ++ b) p) ps).length < J.length + (walkN (stepN b p) ps).length
    cases hc : (stepW (b, false) p).2 with
    | true =>
      refine walk_less ps _ _ _ hn ?_
      have : p = [46, 46] ∧ b = [] := by
        unfold stepW at hc
        split at hc
        · rename_i hp; simpa using And.intro hp (by simpa using hc)
        · split at hc <;> simp at hc
      obtain ⟨rfl, rfl⟩ := this
      simp [stepN]; omega
    | false =>
      have e2 : stepW (b, false) p = (stepN b p, false) := Prod.ext e1 hc
      rw [List.foldl_cons, e2] at h
      have e3 : stepN (J ++ b) p = J ++ stepN b p := by
        unfold stepN
        split
        · rfl
        · split
          · rename_i hp
            have hb : b ≠ [] := by
              intro hb
              rw [hb] at hc
              simp [stepW, hp] at hc
            exact List.dropLast_append_of_ne_nil hb
          · rw [List.append_assoc]
      rw [e3]
      exact walk_above ps J _ hJ h
theorem plain_iff {top x : List Nat} {J : List (List Nat)} (H : IsJail top J) (hx : Ok x) :
    decide (47 :: joinS (walkN J (splitS x)) = spell top (walkN [] (splitS x))) = (!((splitS x).foldl stepW ([], false)).2 || decide (top = [47])) := by
  have hn : Nms (walkN [] (splitS x)) := Nms.nil.walkS hx
  rw [H.spell hn]
  have hi : (47 :: joinS (walkN J (splitS x)) = 47 :: joinS (J ++ walkN [] (splitS x))) ↔ walkN J (splitS x) = J ++ walkN [] (splitS x) := by
    constructor
    · intro e; exact joinS_inj (H.nms.walkS hx) (H.nms.app hn) (by simpa using e)
    · intro e; rw [e]
  have hd : decide (47 :: joinS (walkN J (splitS x)) = 47 :: joinS (J ++ walkN [] (splitS x))) = decide (walkN J (splitS x) = J ++ walkN [] (splitS x)) := by simp only [hi]
  rw [hd]
  by_cases hJ : J = []
  · have := H.top_iff.mpr hJ
    subst hJ
    simp [this]
  · have ht : ¬ top = [47] := fun e => hJ (H.top_iff.mp e)
    rw [decide_eq_false ht, Bool.or_false]
    cases hb : ((splitS x).foldl stepW ([], false)).2 with
    | false =>
      have := walk_under (splitS x) J [] hb
      rw [List.append_nil] at this
      simp [this]
    | true =>
      have := walk_above (splitS x) J [] hJ hb
      rw [List.append_nil] at this
      simp only [Bool.not_true, decide_eq_false_iff_not]
      intro e
      rw [e, List.length_append] at this
      exact Nat.lt_irrefl _ this
/-- the slashes in front -/
theorem root_is {x : List Nat} (hx : (x.length : Int) - ((x.dropWhile (· == 47)).length : Int) = 2) : rootOf (pjoin [47] x) = [47, 47] := by
  match x, hx with
  | [], h => simp at h
  | [a], h => simp only [List.dropWhile] at h; split at h <;> simp at h
  | a :: b :: r, h =>
    simp only [List.dropWhile] at h
    split at h
    · rename_i ha
      have ha : a = 47 := by simpa using ha
      split at h
      · rename_i hb
        have hb : b = 47 := by simpa using hb
        subst ha hb
        have hr : ¬ r.take 1 = [47] := by
          cases r with
          | nil => simp
          | cons c r =>
            simp only [List.dropWhile] at h
            split at h
            · have := (List.dropWhile_sublist (p := fun x => x == 47) (l := r)).length_le
              simp at h; omega
            · rename_i hc; simpa using hc
        simp [pjoin, rootOf, hr]
      · simp at h; omega
    · simp at h
theorem root_not {x : List Nat} (hx : ¬ (x.length : Int) - ((x.dropWhile (· == 47)).length : Int) = 2) : rootOf (pjoin [47] x) = [47] := by
  by_cases h1 : x.head? = some 47
  · obtain ⟨y, rfl⟩ := head_cons h1
    have e : pjoin [47] (47 :: y) = 47 :: y := by simp [pjoin]
    rw [e]
    unfold rootOf
    simp only [List.take_succ_cons, List.take_zero, not_true_eq_false, if_false, List.drop_succ_cons, List.drop_zero]
    rw [if_pos]
    by_cases h2 : y.take 1 = [47]
    · right
      cases y with
      | nil => simp at h2
      | cons c r =>
        have hc : c = 47 := by simpa using h2
        subst hc
        cases r with
        | nil => simp [List.dropWhile] at hx
        | cons d r =>
          by_cases hd : d = 47
          · simp [hd]
          · exfalso
            apply hx
            have : (d == 47) = false := by simpa using hd
            simp [List.dropWhile, this]; omega
    · exact .inl h2
  · have h2 := take_one h1
    simp [pjoin, h1, rootOf, h2]
theorem slash_none {x : List Nat} (hx : (x.length : Int) - ((x.dropWhile (· == 47)).length : Int) = 0) : x.head? ≠ some 47 := by
  intro h
  obtain ⟨y, rfl⟩ := head_cons h
  have := (List.dropWhile_sublist (p := fun x => x == 47) (l := y)).length_le
  simp [List.dropWhile] at hx
  omega
/-- step by step -/
theorem further_is (x y : List Nat) : walkN [] (splitS (pjoin x y)) = walkN (if y.take 1 = [47] then [] else walkN [] (splitS x)) (splitS y) := by
  by_cases hy : y.head? = some 47
  · have h1 : y.take 1 = [47] := by obtain ⟨z, rfl⟩ := head_cons hy; rfl
    rw [if_pos h1]
    simp [pjoin, hy]
  · rw [if_neg (take_one hy)]
    by_cases hx : x = []
    · subst hx; simp [pjoin, splitS, walkN, stepN]
    · unfold pjoin
      rw [if_neg (fun e => e.elim hy hx)]
      have key : ∀ (x : List Nat) (z : List (List Nat)) (y : List Nat), walkN z (splitS (x ++ 47 :: y)) = walkN (walkN z (splitS x)) (splitS y) := by
        intro x z y
        have e : splitS (x ++ 47 :: y) = splitS x ++ splitS y := by
          have h1 : splitS (joinS (splitS x) ++ 47 :: joinS (splitS y)) = splitS x ++ splitS y := by
            rw [← joinS_app (splitS_ne x) (splitS_ne y)]
            exact splitS_joinS (by simp [splitS_ne x]) fun p hp => (List.mem_append.mp hp).elim (splitS_free x p) (splitS_free y p)
          rwa [joinS_splitS, joinS_splitS] at h1
        rw [e]; simp [walkN]
      split
      · rename_i hl
        rcases List.eq_nil_or_concat x with rfl | ⟨r, c, rfl⟩
        · exact absurd rfl hx
        · rw [List.concat_eq_append] at hl ⊢
          have hc : c = 47 := by simpa using hl
          subst hc
          have h1 := key r [] y
          have h2 := key r [] []
          have h3 : walkN (walkN [] (splitS r)) (splitS []) = walkN [] (splitS r) := by simp [splitS, walkN, stepN]
          rw [h3] at h2
          rw [List.append_assoc, List.singleton_append, h1, h2]
      · exact key x [] y
section
open SeqAt
variable {prog : Program} {w : World} {A : Around} {E : Value → Shared → Prop} {s : Shared} {h₀ : Heap} {L : Addr} {m : Str → Option Value} {news : Led} {t u : Tok} {o : Bool}
theorem fmod_em (n : Int) : n.fmod 4 = n % 4 := Int.fmod_eq_emod_of_nonneg n (by decide)
/-- _law_JAILS[n % 4] -/
theorem item_jail {value slice : Expr} {ui : Tok} {n : Int} {Q : Value → Shared → Prop} (F : Fr h₀ L s.heap m) (X : Frag.In (hd.heap_39 w.params) h₀) (h : ∀ t, Q (.str (st (jailOf n)) t) s)
    (hs : subscripted slice false (.ref 136) (.int (n.fmod 4) ui) = operate [.ref 136, .int (n.fmod 4) ui] (getItem (.ref 136) (.int (n.fmod 4) ui)) := by with_unfolding_all rfl) (hg : ∀ r, letTemporaryGo value (.ref 136) r = pure () := by intro _; with_unfolding_all rfl) :
    wpAny (model prog w) A (subscriptTail value slice (.ref 136) (.int (n.fmod 4) ui)) Q E s := by
  have ho : s.heap.get? 136 = some { cls := .type "tuple", data := .seq #[.str (st [47]) 366, .str (st [47, 106]) 367, .str (st [47, 106, 47, 107]) 368, .str (st [47, 97, 47, 98, 47, 99]) 369] 0 } := F.keep _ _ (X _ _ (by kernel_rfl))
  have h0 : 0 ≤ n % 4 := by omega
  have h4 : n % 4 < 4 := by omega
  have hk : (n % 4).toNat < 4 := by omega
  have hj : ∀ j : Nat, j < 4 → ∃ t, (#[.str (st [47]) 366, .str (st [47, 106]) 367, .str (st [47, 106, 47, 107]) 368, .str (st [47, 97, 47, 98, 47, 99]) 369] : Array Value)[j]? = some (.str (st (jails4.getD j [])) t) := by
    intro j hj
    match j, hj with
    | 0, _ => exact ⟨_, rfl⟩
    | 1, _ => exact ⟨_, rfl⟩
    | 2, _ => exact ⟨_, rfl⟩
    | 3, _ => exact ⟨_, rfl⟩
  obtain ⟨t, ht⟩ := hj _ hk
  rw [fmod_em] at hs ⊢
  have hl : IsTup s.heap 136 #[.str (st [47]) 366, .str (st [47, 106]) 367, .str (st [47, 106, 47, 107]) 368, .str (st [47, 97, 47, 98, 47, 99]) 369] := ⟨_, ho, rfl, 0, rfl⟩
  exact item_tuple hl (j := (n % 4).toNat) (by omega) (by omega) (by
    show seqIndex? (n % 4) 4 = _
    unfold seqIndex?
    have : ¬ n % 4 < 0 := by omega
    simp [this]; omega) ht (h t) hs hg
theorem takeDrop (p : Nat → Bool) (x : List Nat) : (x.takeWhile p).length + (x.dropWhile p).length = x.length := by
  rw [← List.length_append, List.takeWhile_append_dropWhile]
theorem lstrip_st (x : List Nat) : Txt.lstripChars (st x) (st [47]) = st (x.dropWhile (· == 47)) := by
  have hp : (fun c => (st [47]).cps.contains c) = fun c : Nat => c == 47 := by
    funext c
    rw [Bool.eq_iff_iff]; simp [st]
  have hlo : PySem.stripLo (fun c => (st [47]).cps.contains c) true (st x) = (x.takeWhile (· == 47)).length := by
    unfold PySem.stripLo; rw [hp]; simp [st]
  have hd : x.drop (x.takeWhile (· == 47)).length = x.dropWhile (· == 47) := by
    have e := List.takeWhile_append_dropWhile (p := (· == 47)) (l := x)
    generalize hA : x.takeWhile (· == 47) = a at *
    generalize hB : x.dropWhile (· == 47) = b at *
    rw [← e]; simp
  show (if PySem.stripSame (fun c => (st [47]).cps.contains c) true false (st x) then st x else PySem.stripped (fun c => (st [47]).cps.contains c) true false (st x)) = _
  have hss : PySem.stripped (fun c => (st [47]).cps.contains c) true false (st x) = st (x.dropWhile (· == 47)) := by
    unfold PySem.stripped
    rw [hlo]
    unfold PySem.stripHi
    rw [← hd]
    simp only [Bool.false_eq_true, if_false]
    rw [st_len]
    simp [st, Builtin.Str.strSub]
    exact List.take_of_length_le (by simp)
  split
  · rename_i h
    have h0 : (x.takeWhile (· == 47)).length = 0 := by
      unfold PySem.stripSame at h
      rw [hlo] at h
      simp only [Bool.and_eq_true, beq_iff_eq] at h
      exact h.1
    rw [← hd, h0]; rfl
  · exact hss
theorem lstrip_s (x : List Nat) (hx : Ok x) {Q : Value → Shared → Prop} (h : ∀ t' k, Q (.str (st (x.dropWhile (· == 47))) t') { s with toks := k }) : wpAny (model prog w) A (call (.builtin "str.lstrip") [.str (st x) t, .str (st [47]) u]) Q E s := by
  have := hx.len
  exact KXw.lstripChars (lstrip_st x) (by rw [st_len, sizeLine_eq]; omega) h
theorem len_s (x : List Nat) (hx : x.length ≤ 1000000) {Q : Value → Shared → Prop} (h : ∀ t' k, Q (.int (x.length : Int) t') { s with toks := k }) : wpAny (model prog w) A (call (.builtin "len") [.str (st x) t]) Q E s := by
  refine PySem.P.len_str (by rw [st_len]; omega) ?_
  rw [st_len]; exact h _ _
theorem drop_le (x : List Nat) : (x.dropWhile (· == 47)).length ≤ x.length := by
  have := takeDrop (· == 47) x; omega
/-- what `numbers` is: a list of few ints -/
def IsNums (h₀ : Heap) (L : Addr) (m : Str → Option Value) (news : Led) (s : Shared) (v : Value) (s' : Shared) : Prop :=
  ∃ l vs ns n h' tk', v = .ref l ∧ s' = { s with heap := h', toks := tk' } ∧ IntsAre vs ns ∧ ns.length ≤ 12 ∧ Fr h₀ L h' m ∧ News h₀ L h' ((l, listOf (List.toArray vs) n) :: news)
theorem IsNums.intro {l : Addr} {vs : List Value} {ns : List Int} {n : Nat} {h' : Heap} {tk' : Nat} (hi : IntsAre vs ns) (hn : ns.length ≤ 12) (F : Fr h₀ L h' m) (N : News h₀ L h' ((l, listOf vs.toArray n) :: news)) :
    IsNums h₀ L m news s (.ref l) { s with heap := h', toks := tk' } := ⟨l, vs, ns, n, h', tk', rfl, rfl, hi, hn, F, N⟩
theorem nums_join {e : Expr} {env : Env} {Q : Value → Shared → Prop} (F : Fr h₀ L s.heap m) (N : News h₀ L s.heap news) (h : wpAny (model prog w) A (eval e env) (IsNums h₀ L m news s) E s)
    (k : ∀ l vs ns n h' tk', IntsAre vs ns → ns.length ≤ 12 → Fr h₀ L h' m → News h₀ L h' ((l, listOf vs.toArray n) :: news) → Q (.ref l) { s with heap := h', toks := tk' }) : wpAny (model prog w) A (eval e env) Q E s := by
  have _ := F; have _ := N
  refine wpAny_mono h (fun v s' H => ?_) fun _ _ e => e
  obtain ⟨l, vs, ns, n, h', tk', rfl, rfl, hi, hn, F', N'⟩ := H
  exact k l vs ns n h' tk' hi hn F' N'
/-- the root: one text on both ways -/
def IsRoot (x : List Nat) (s : Shared) (v : Value) (s' : Shared) : Prop := ∃ t tk', v = .str (st (rootOf (pjoin [47] x))) t ∧ s' = { s with toks := tk' }
theorem IsRoot.two {x : List Nat} {tk' : Nat} (h : (x.length : Int) - ((x.dropWhile (· == 47)).length : Int) = 2) : IsRoot x s (.str (st [47, 47]) t) { s with toks := tk' } := ⟨t, tk', by rw [root_is h], rfl⟩
theorem IsRoot.one {x : List Nat} {tk' : Nat} (h : ¬ (x.length : Int) - ((x.dropWhile (· == 47)).length : Int) = 2) : IsRoot x s (.str (st [47]) t) { s with toks := tk' } := ⟨t, tk', by rw [root_not h], rfl⟩
theorem root_join {e : Expr} {env : Env} {Q : Value → Shared → Prop} (x : List Nat) (h : wpAny (model prog w) A (eval e env) (IsRoot x s) E s)
    (k : ∀ t tk', Q (.str (st (rootOf (pjoin [47] x))) t) { s with toks := tk' }) : wpAny (model prog w) A (eval e env) Q E s := by
  refine wpAny_mono h (fun v s' H => ?_) fun _ _ e => e
  obtain ⟨t, tk', rfl, rfl⟩ := H
  exact k t tk'
theorem ne_T_same (x : List Nat) {Q : Value → Shared → Prop} (h : Q (.bool false) s) : wpAny (model prog w) A (compareOp .NotEq (T o x t) (T o x u)) Q E s := by
  cases o
  · exact ne_same_s x h
  · exact ne_same_b x h
theorem eq_T (x y : List Nat) (hx : Ok x) (hy : Ok y) {Q : Value → Shared → Prop} (h : Q (.bool (decide (x = y))) s) : wpAny (model prog w) A (compareOp .Eq (T o x t) (T o y u)) Q E s := by
  cases o
  · exact eq_s x y h
  · exact eq_b x y hx hy h
theorem ne_tup3 {a b : Addr} {x y z : List Nat} {t1 t2 t3 u1 u2 u3 : Tok} {Q : Value → Shared → Prop} (N : News h₀ L s.heap news) (ha : (a, tup [T o x t1, T o y t2, T o z t3]) ∈ news) (hb : (b, tup [T o x u1, T o y u2, T o z u3]) ∈ news) (hu : A.units < cLine)
    (h : Q (.bool false) s) : wpAny (model prog w) A (compareOp .NotEq (.ref a) (.ref b)) Q E s := by
  refine (RcNeAt.tuples (e := fun _ => true) (⟨_, (N _ ha).1, rfl, _, rfl⟩ : s.heap.IsTuple a #[T o x t1, T o y t2, T o z t3]) (⟨_, (N _ hb).1, rfl, _, rfl⟩ : s.heap.IsTuple b #[T o x u1, T o y u2, T o z u3]) hu ?_) prog w E Q h
  intro j h1 h2
  match j, h1 with
  | 0, _ => exact eqAt_T _ _
  | 1, _ => exact eqAt_T _ _
  | 2, _ => exact eqAt_T _ _
end
/-- few good names -/
def NmB (k : Nat) (ns : List (List Nat)) : Prop := Nms ns ∧ weightS ns ≤ k
theorem NmB.nil {k : Nat} : NmB k [] := ⟨Nms.nil, Nat.zero_le _⟩
theorem NmB.ok {k : Nat} {ns : List (List Nat)} (h : NmB k ns) (hk : k ≤ 90000) : Ok (joinS ns) :=
  ⟨joinS_chars (by decide) fun q hq c hc => (h.1 q hq).2.2.2.2 c hc, by have := joinS_weight ns; have := h.2; omega⟩
theorem NmB.len {k : Nat} {ns : List (List Nat)} (h : NmB k ns) : (joinS ns).length ≤ k := by have := joinS_weight ns; have := h.2; omega
theorem NmB.walk {k : Nat} {z : List (List Nat)} {x : List Nat} (h : NmB k z) (hx : Ok x) : NmB (k + x.length + 1) (walkN z (splitS x)) := by
  refine ⟨h.1.walkS hx, ?_⟩
  have h1 := weight_walk (splitS x) z
  rw [weight_split] at h1
  have := h.2
  omega
theorem NmB.up {k l : Nat} {ns : List (List Nat)} (h : NmB k ns) (hl : k ≤ l) : NmB l ns := ⟨h.1, Nat.le_trans h.2 hl⟩
theorem pj_ok {x y : List Nat} (hx : Ok x) (hy : Ok y) (hl : x.length + y.length ≤ 90000) : Ok (pjoin x y) ∧ (pjoin x y).length ≤ x.length + y.length + 1 := by
  have hlen : (pjoin x y).length ≤ x.length + y.length + 1 := by
    unfold pjoin
    split
    · omega
    · split
      · simp
      · simp; omega
  refine ⟨⟨fun c hc => ?_, by omega⟩, hlen⟩
  unfold pjoin at hc
  split at hc
  · exact hy.lt c hc
  · split at hc
    · exact (List.mem_append.mp hc).elim (hx.lt c) (hy.lt c)
    · rcases List.mem_append.mp hc with hc | hc
      · exact hx.lt c hc
      · rcases List.mem_cons.mp hc with rfl | hc
        · decide
        · exact hy.lt c hc
theorem spell_ok {top : List Nat} {J ns : List (List Nat)} (H : IsJail top J) (h : NmB 20000 ns) : Ok (spell top ns) ∧ (spell top ns).length ≤ 20010 := by
  have h1 := H.len
  have h2 := h.len
  have h3 := h.ok (by decide)
  have hl : (spell top ns).length ≤ 20010 := by unfold spell; split <;> simp <;> omega
  refine ⟨⟨fun c hc => ?_, by omega⟩, hl⟩
  unfold spell at hc
  split at hc
  · exact (List.mem_append.mp hc).elim (H.ok.lt c) (h3.lt c)
  · rcases List.mem_append.mp hc with hc | hc
    · rcases List.mem_append.mp hc with hc | hc
      · exact H.ok.lt c hc
      · rw [List.mem_singleton.mp hc]; decide
    · exact h3.lt c hc
theorem jail_con (w : World) (o : Bool) (top : List Nat) (J ns : List (List Nat)) (t u : Tok) (H : IsJail top J) (h : NmB 20000 ns) :
    Con w 176 6 [.str (st top) t, T o (joinS ns) u, .bool o] (fun _ => True) (isT o (spell top ns)) := by
  rw [← H.jailed h.1]
  have hj := h.ok (by decide)
  have hl := h.len
  exact jailed_con w o top (joinS ns) (pjoin top (joinS ns)) t u H.ok hj (Ok.cons47 hj (by omega)) rfl (H.pjoin_ok hj (by omega)) (by have := H.pjoin_len (joinS ns); omega) (H.root (names_first h.1))
theorem spellj_con (w : World) (top : List Nat) (J ns : List (List Nat)) (t : Tok) (l : Addr) (vs : List Value) (H : IsJail top J) (h : NmB 20000 ns) (hv : TsAre false vs ns) :
    Con w 162 2 [.str (st top) t, .ref l] (fun h => h.IsList l vs.toArray) (isT false (spell top ns)) :=
  spell_con w top t l vs ns H.ok (Ok.app H.ok (Ok.one (by decide)) (by have := H.len; simp; omega)) (h.ok (by decide)) (by have := h.2; omega) hv
theorem commonj_con (w : World) (o : Bool) (top : List Nat) (J ns : List (List Nat)) (t u : Tok) (l : Addr) (H : IsJail top J) (h : NmB 20000 ns) :
    Con w 134 12 [.ref l] (fun h => h.IsList l #[T o top t, T o (spell top ns) u]) (isT o top) := by
  have hs := spell_ok H h
  have e : isT o top = isT o (47 :: joinS J) := by rw [← H.eq]
  rw [e]
  exact common_con w o top (spell top ns) t u l J ns H.ok hs.1 (by have := H.len; omega) (by omega) H.head (by rw [H.spell h.1]; rfl) H.comps (H.comps_spell h.1)
theorem plain_con (w : World) (o : Bool) (top x : List Nat) (J : List (List Nat)) (t : Tok) (H : IsJail top J) (hx : Ok x) (hl : x.length ≤ 90000) (h0 : x.head? ≠ some 47) :
    Con w 129 4 [T o (pjoin top x) t] (fun _ => True) (isT o (47 :: joinS (walkN J (splitS x)))) := by
  have hr := H.root h0
  have hh : (pjoin top x).head? = some 47 := by
    cases hp : pjoin top x with
    | nil => rw [hp] at hr; simp [rootOf] at hr
    | cons c z =>
      rw [hp] at hr
      unfold rootOf at hr
      split at hr
      · cases hr
      · rename_i h; simpa using h
  have e : 47 :: joinS (walkN J (splitS x)) = [47] ++ joinS (walkN [] (splitS (restOf (pjoin top x)))) := by rw [walk_rest hh, H.walk h0]; rfl
  rw [e]
  exact normpath_con w o (pjoin top x) [47] t (H.pjoin_ok hx hl) (by have := H.pjoin_len x; omega) hr (.inl rfl)
theorem pathx_con (w : World) (l : Addr) (vs : List Value) (ns : List Int) (e : Int) (t : Tok) (hi : IntsAre vs ns) (hn : ns.length ≤ 1000) (h0 : 0 ≤ e) (h1 : e ≤ 100) :
    Con w 143 12 [.ref l, .int e t] (fun h => h.IsList l vs.toArray) (isT false (pathOf ns e.toNat)) := by
  have := path_con w l vs ns e.toNat t hi hn (by omega)
  rwa [Int.toNat_of_nonneg h0] at this
theorem path_ok {ns : List Int} {k : Nat} (hn : ns.length ≤ 1000) (hk : k ≤ 100) : Ok (pathOf ns k) ∧ (pathOf ns k).length ≤ 5000 := by
  have hwp := weight_pieces ns
  have hjo : Ok (joinS (ns.map pieceOf)) := pieces_ok ns (by omega)
  have h2 := joinS_weight (ns.map pieceOf)
  have hl : (pathOf ns k).length ≤ 5000 := by unfold pathOf; simp; omega
  refine ⟨⟨fun c hc => ?_, by omega⟩, hl⟩
  rcases List.mem_append.mp hc with hc | hc
  · rw [(List.mem_replicate.mp hc).2]; decide
  · exact hjo.lt c hc
section
variable {w : World} {mean : ExcName → Option Value} {mg mb : Str → Option Value} {f : Addr} {d : Nat} {vs : List Value} {pre : Heap → Prop}
    {dp un : Nat} {gd : Option (List Code)} {cn : Str} {cs : Scope} {a : Addr} {ccd : Value} {cl : List (Str × Addr)} {outer : List Env} {A₀ : Around} {base h₀ : Heap} {L : Addr} {m : Str → Option Value} {news : Led} {s : Shared} {Q E : Value → Shared → Prop}
theorem Con.usePath {l : Addr} {us : List Value} {ns : List Int} {e : Int} {t : Tok} (hi : IntsAre us ns) (hn : ns.length ≤ 1000) (h0 : 0 ≤ e) (h1 : e ≤ 100)
    (B : Below A₀ base outer h₀) (F : Fr h₀ L s.heap m) (X : Frag.In (hd.heap_39 w.params) h₀) (N : News h₀ L s.heap news) (T' : Top hd.view_39 (looseW hd.view_39 []) mean mg mb h₀) (hk : cs.kind = .function)
    (hd : dp + 12 < recursionLimit) (hu : un + 8 * 12 < cLine) (hp : s.heap.IsList l us.toArray)
    (ret : ∀ (x : List Nat), Ok x → x.length ≤ 5000 → ∀ (t : Tok) (h' : Heap) (tk' : Nat), Fr h₀ L h' m → News h₀ L h' news → Q (.str (st x) t) { s with heap := h', toks := tk' }) :
    wpAny (model PySem.Challenge.rw_ab6018_01.row.prog w) (ktrTop dp un gd cn cs L a ccd cl outer) (call (.ref 143) [.ref l, .int e t]) Q E s :=
  Con.useT (pathx_con w l us ns e t hi hn h0 h1) B F X N T' hk hd hu hp fun t h' tk' F' N' => ret _ (path_ok hn (by omega)).1 (path_ok hn (by omega)).2 t h' tk' F' N'
theorem Con.useWalk {l0 l : Addr} {o0 : Obj} {vs0 us : List Value} {n0 : Nat} {z : List (List Nat)} {x : List Nat} {k : Nat} (hx : Ok x) (hxl : x.length ≤ 5000) (hz : NmB k z) (hk5 : k ≤ 10000) (hv0 : TsAre false vs0 z) (hv : TsAre false us (splitS x))
    (B : Below A₀ base outer h₀) (F : Fr h₀ L s.heap m) (X : Frag.In (hd.heap_39 w.params) h₀) (N : News h₀ L s.heap news) (T' : Top hd.view_39 (looseW hd.view_39 []) mean mg mb h₀) (hk : cs.kind = .function)
    (hd : dp + 12 < recursionLimit) (hu : un + 8 * 12 < cLine) (hm0 : (l0, o0) ∈ news) (ho0 : o0 = listOf vs0.toArray n0) (hp : s.heap.IsList l us.toArray)
    (ret : ∀ (a d : Addr) (n : Nat) (vs' : List Value) (h' : Heap) (tk' : Nat), TsAre false vs' (walkN z (splitS x)) → NmB (k + x.length + 1) (walkN z (splitS x)) → Fr h₀ L h' m →
      News h₀ L h' ((a, tup [.ref d, .bool ((splitS x).foldl stepW (z, false)).2]) :: (d, listOf vs'.toArray n) :: news) → Q (.ref a) { s with heap := h', toks := tk' }) :
    wpAny (model PySem.Challenge.rw_ab6018_01.row.prog w) (ktrTop dp un gd cn cs L a ccd cl outer) (call (.ref 150) [.ref l0, .ref l]) Q E s := by
  subst ho0
  have hzl : z.length ≤ 10000 := by have := len_weight z; have := hz.2; omega
  have hpl : (splitS x).length ≤ 900000 := by have := splitS_count x; omega
  refine Con.use (walk_con w l0 l vs0 us n0 z (splitS x) hv0 hv hzl hpl (fun p hp => ⟨(hz.1 p hp).2.2.2.2, ?_⟩) fun p hp => Ok.piece hx hp) B F X N T' hk hd hu ⟨(N _ hm0).1, hp⟩ fun v h' tk' hO hk F' N' => ?_
  · have h1 := joinS_len_le p hp
    have h2 := hz.len
    omega
  · obtain ⟨a, d, n, vs', rfl, ha, hna, hd', hor, hv'⟩ := hO
    refine ret a d n vs' h' tk' hv' (hz.walk hx) F' ?_
    have hN : News h₀ L h' ((d, listOf vs'.toArray n) :: news) := by
      rcases hor with rfl | hn
      · intro p hp
        rcases List.mem_cons.mp hp with rfl | hp
        · exact ⟨hd', (N _ hm0).2⟩
        · exact N' p hp
      · exact news_cons F N' hn hd'
    exact news_cons F hN hna ha
end
theorem NmB.single {x : List Nat} (hx : Ok x) (hl : x.length ≤ 5000) : NmB 20000 (walkN [] (splitS x)) := (NmB.walk (NmB.nil (k := 0)) hx).up (by omega)
theorem NmB.whole {x y : List Nat} (hx : Ok x) (hl : x.length ≤ 5000) (hy : Ok y) (hm : y.length ≤ 5000) : NmB 20000 (walkN [] (splitS (pjoin x y))) := by
  have h := pj_ok hx hy (by omega)
  exact (NmB.walk (NmB.nil (k := 0)) h.1).up (by have := h.2; omega)
theorem whole_ok {x y : List Nat} (hx : Ok x) (hl : x.length ≤ 5000) (hy : Ok y) (hm : y.length ≤ 5000) : Ok (pjoin x y) := (pj_ok hx hy (by omega)).1
theorem whole_len {x y : List Nat} (hx : Ok x) (hl : x.length ≤ 5000) (hy : Ok y) (hm : y.length ≤ 5000) : (pjoin x y).length ≤ 90000 := by have := (pj_ok hx hy (by omega)).2; omega
theorem jail_whole_ok {top x : List Nat} {J : List (List Nat)} (H : IsJail top J) (hx : Ok x) (hl : x.length ≤ 5000) : Ok (pjoin top x) := H.pjoin_ok hx (by omega)
theorem plain_ok {top x : List Nat} {J : List (List Nat)} (H : IsJail top J) (hx : Ok x) (hl : x.length ≤ 5000) : Ok (47 :: joinS (walkN J (splitS x))) := by
  have hw : weightS J ≤ 10 := by
    rcases H with ⟨rfl, rfl⟩ | ⟨rfl, rfl⟩ | ⟨rfl, rfl⟩ | ⟨rfl, rfl⟩ <;> decide
  have h := NmB.walk (⟨H.nms, hw⟩ : NmB 10 J) hx
  have h2 := h.up (l := 20000) (by omega)
  exact Ok.cons47 (h2.ok (by decide)) (by have := h2.len; omega)
theorem rootx_ok (x : List Nat) : Ok (rootOf (pjoin [47] x)) := by
  rcases root_two (pjoin_root x).1 with h | h <;> rw [h] <;> exact ⟨by decide, by decide⟩
def NumsK (P : Prop) : Prop := P
/-- the mark of a join that is under way -/
def NumsMark : Prop := True
def RootMark : Prop := True
def NumsH (P : Prop) : Prop := NumsMark → P
def RootH (P : Prop) : Prop := RootMark → P
def RootK (P : Prop) : Prop := P
section
variable {prog : Program} {w : World} {A : Around} {E : Value → Shared → Prop} {s : Shared} {h₀ : Heap} {L : Addr} {m : Str → Option Value} {news : Led} {t u : Tok} {o : Bool}
theorem item_jailJ {value slice : Expr} {ui : Tok} {n : Int} {Q : Value → Shared → Prop} (F : Fr h₀ L s.heap m) (X : Frag.In (hd.heap_39 w.params) h₀) (h : ∀ top J t, IsJail top J → Q (.str (st top) t) s)
    (hs : subscripted slice false (.ref 136) (.int (n.fmod 4) ui) = operate [.ref 136, .int (n.fmod 4) ui] (getItem (.ref 136) (.int (n.fmod 4) ui)) := by with_unfolding_all rfl) (hg : ∀ r, letTemporaryGo value (.ref 136) r = pure () := by intro _; with_unfolding_all rfl) :
    wpAny (model prog w) A (subscriptTail value slice (.ref 136) (.int (n.fmod 4) ui)) Q E s := by
  obtain ⟨J, hJ⟩ := jail_is n
  exact item_jail F X (fun t => h _ J t hJ) hs hg
theorem nums_joinK {e : Expr} {env : Env} {Q : Value → Shared → Prop} (F : Fr h₀ L s.heap m) (N : News h₀ L s.heap news) (h : NumsH (wpAny (model prog w) A (eval e env) (IsNums h₀ L m news s) E s))
    (k : NumsK (∀ l vs ns n h' tk', IntsAre vs ns → ns.length ≤ 12 → Fr h₀ L h' m → News h₀ L h' ((l, listOf (List.toArray vs) n) :: news) → Q (.ref l) { s with heap := h', toks := tk' })) : wpAny (model prog w) A (eval e env) Q E s := nums_join F N (h trivial) k
theorem root_joinK {e : Expr} {env : Env} {Q : Value → Shared → Prop} {x : List Nat} (F : Fr h₀ L s.heap m) (hm : m (Str.ofString "first") = some (.str (st x) t)) (h : RootH (wpAny (model prog w) A (eval e env) (IsRoot x s) E s))
    (k : RootK (∀ t tk', Q (.str (st (rootOf (pjoin [47] x))) t) { s with toks := tk' })) : wpAny (model prog w) A (eval e env) Q E s := by
  have _ := F; have _ := hm
  exact root_join x (h trivial) k
end
theorem pick_len {ns : List Int} {x : Int} (hx : x = 0 ∨ x = 1) : (pickNums ns (some x) none (some 2)).length ≤ ns.length + 1 := by
  unfold pickNums
  refine Nat.le_trans (List.length_filterMap_le _ _) ?_
  unfold sliceRange
  rw [List.length_map, List.length_range]
  rcases hx with rfl | rfl <;>
  · simp only [sliceBounds, Option.getD_some]
    simp
    split <;> omega
section
variable {prog : Program} {w : World} {A : Around} {E : Value → Shared → Prop} {s : Shared} {h₀ : Heap} {L l : Addr} {m : Str → Option Value} {news : Led}
theorem slice_nums {value slice : Expr} {vl vk : Value} {x : Int} {vs : List Value} {ns : List Int} {n : Nat} {ops : List Value} {Q : Value → Shared → Prop} (F : Fr h₀ L s.heap m) (N : News h₀ L s.heap news) (hm : (l, listOf vs.toArray n) ∈ news)
    (hi : IntsAre vs ns) (hn : ns.length ≤ 12) (pl : IsPart vl (some x)) (pk : IsPart vk (some 2)) (hx : x = 0 ∨ x = 1)
    (h : ∀ D h' zs ms, IntsAre zs ms → ms.length ≤ 20 → Fr h₀ L h' m → News h₀ L h' ((D, listOf (List.toArray zs) 0) :: news) → (∀ p ∈ news, p.1 < D) → Q (.ref D) { s with heap := h' })
    (hs : subscripted slice false (.ref l) (.ref s.heap.objs.size) = operate ops (getItem (.ref l) (.ref s.heap.objs.size))) (ht : ∀ r, letTemporaryGo value (.ref l) r = pure ()) :
    wpAny (model prog w) A (subscriptTail value slice (.ref l) (.ref s.heap.objs.size)) Q E { s with heap := s.heap.push { cls := .type "slice", data := .fields #[vl, .none, vk] } } :=
  kmk_slice3_lit F N ⟨_, (N _ hm).1, rfl, n, rfl⟩ pl (by constructor) pk (by decide) rfl (fun D h' F' N' l1 => h D h' _ _ (hi.pick (some x) none (some 2)) (by have := pick_len (ns := ns) hx; omega) F' N' l1) hs ht
    (by have := hi.length; rw [List.size_toArray, sizeLine_eq]; omega)
end
theorem spell_okT {top : List Nat} {J ns : List (List Nat)} (H : IsJail top J) (h : NmB 20000 ns) : Ok (spell top ns) := (spell_ok H h).1
theorem TsAre.nil {o : Bool} : TsAre o [] [] := trivial
theorem NmB.weight {k : Nat} {ns : List (List Nat)} (h : NmB k ns) (hk : k ≤ 1000000) : weightS ns ≤ 1000000 := Nat.le_trans h.2 hk
theorem Con.useS {w : World} {mean : ExcName → Option Value} {mg mb : Str → Option Value} {f : Addr} {d : Nat} {vs : List Value} {pre : Heap → Prop} {x : List Nat} (C : Con w f d vs pre (isT false x))
    {dp un : Nat} {gd : Option (List Code)} {cn : Str} {cs : Scope} {a : Addr} {ccd : Value} {cl : List (Str × Addr)} {outer : List Env} {A₀ : Around} {base h₀ : Heap} {L : Addr} {m : Str → Option Value} {news : Led} {s : Shared} {Q E : Value → Shared → Prop}
    (B : Below A₀ base outer h₀) (F : Fr h₀ L s.heap m) (X : Frag.In (hd.heap_39 w.params) h₀) (N : News h₀ L s.heap news) (T' : Top hd.view_39 (looseW hd.view_39 []) mean mg mb h₀) (hk : cs.kind = .function)
    (hd : dp + d < recursionLimit) (hu : un + 8 * d < cLine) (hp : pre s.heap)
    (ret : ∀ (t : Tok) (h' : Heap) (tk' : Nat), Fr h₀ L h' m → News h₀ L h' news → Q (.str (st x) t) { s with heap := h', toks := tk' }) :
    wpAny (model PySem.Challenge.rw_ab6018_01.row.prog w) (ktrTop dp un gd cn cs L a ccd cl outer) (call (.ref f) vs) Q E s :=
  Con.useT C B F X N T' hk hd hu hp ret
section
variable {prog : Program} {w : World} {A : Around} {E : Value → Shared → Prop} {s : Shared} {h₀ : Heap} {L : Addr} {m : Str → Option Value} {t u : Tok} {o : Bool}
theorem eq_plain {top x : List Nat} {J : List (List Nat)} (H : IsJail top J) (hx : Ok x) (hl : x.length ≤ 5000) {Q : Value → Shared → Prop} (h : Q (.bool (!((splitS x).foldl stepW ([], false)).2 || decide (top = [47]))) s) :
    wpAny (model prog w) A (compareOp .Eq (T o (47 :: joinS (walkN J (splitS x))) t) (T o (spell top (walkN [] (splitS x))) u)) Q E s :=
  eq_T _ _ (plain_ok H hx hl) (spell_okT H (NmB.single hx hl)) (by rw [plain_iff H hx]; exact h)
theorem eq_further {top x y : List Nat} {J : List (List Nat)} {ns : List (List Nat)} (H : IsJail top J) (hx : Ok x) (hl : x.length ≤ 5000) (hy : Ok y) (hm : y.length ≤ 5000) (e : ns = walkN (if y.take 1 = [47] then [] else walkN [] (splitS x)) (splitS y)) {Q : Value → Shared → Prop} (h : Q (.bool true) s) :
    wpAny (model prog w) A (compareOp .Eq (T o (spell top (walkN [] (splitS (pjoin x y)))) t) (T o (spell top ns) u)) Q E s := by
  rw [e, ← further_is x y]
  have ho := spell_okT H (NmB.whole hx hl hy hm)
  exact eq_T _ _ ho ho (by rw [decide_eq_true rfl]; exact h)
theorem ne_bool_same (b : Bool) {Q : Value → Shared → Prop} (h : Q (.bool false) s) : wpAny (model prog w) A (compareOp .NotEq (.bool b) (.bool b)) Q E s := by
  refine PyProof.Rows.ne_bool ?_
  rw [bne_self_eq_false]; exact h
def BoolMark : Prop := True
def BoolH (P : Prop) : Prop := BoolMark → P
def BoolK (P : Prop) : Prop := P
def IsBoolV (b : Bool) (s : Shared) (v : Value) (s' : Shared) : Prop := ∃ tk', v = .bool b ∧ s' = { s with toks := tk' }
theorem IsBoolV.of {b c : Bool} {tk' : Nat} (h : c = b) : IsBoolV b s (.bool c) { s with toks := tk' } := ⟨tk', by rw [h], rfl⟩
theorem bool_joinK {e : Expr} {env : Env} {Q : Value → Shared → Prop} {a : Bool} {top : List Nat} (F : Fr h₀ L s.heap m) (ha : m (Str.ofString "above") = some (.bool a)) (ht : m (Str.ofString "top") = some (.str (st top) t))
    (h : BoolH (wpAny (model prog w) A (eval e env) (IsBoolV (!a || decide (top = [47])) s) E s)) (k : BoolK (∀ tk', Q (.bool (!a || decide (top = [47]))) { s with toks := tk' })) : wpAny (model prog w) A (eval e env) Q E s := by
  have _ := F; have _ := ha; have _ := ht
  refine wpAny_mono (h trivial) (fun v s' H => ?_) fun _ _ e => e
  obtain ⟨tk', rfl, rfl⟩ := H
  exact k tk'
end
local macro_rules | `(tactic| ktr_rel) => `(tactic| first | with_reducible assumption | exact IsJail.ok (by assumption) | exact rootx_ok _ | exact Ok.nil | exact Ok.one (by decide) | exact spell_okT (by assumption) (by first | with_reducible assumption | with_reducible exact NmB.single (by assumption) (by assumption) | with_reducible exact NmB.whole (by assumption) (by assumption) (by assumption) (by assumption) | exact NmB.up (by with_reducible assumption) (by omega)) | exact NmB.ok (k := 20000) (by first | with_reducible assumption | with_reducible exact NmB.single (by assumption) (by assumption) | with_reducible exact NmB.whole (by assumption) (by assumption) (by assumption) (by assumption) | exact NmB.up (by with_reducible assumption) (by omega)) (by decide) | exact whole_ok (by assumption) (by assumption) (by assumption) (by assumption) | exact jail_whole_ok (by assumption) (by assumption) (by assumption) | exact plain_ok (by assumption) (by assumption) (by assumption) | exact Ok.cons47 (by assumption) (by omega))
local macro_rules | `(tactic| walk_at "call ref") => `(tactic| (k_here; (with_reducible show wpAny _ _ (call (Value.ref 143) [Value.ref _, Value.int _ _]) _ _ _); k_dflt (refine' Con.usePath ?hi ?hn (fmod_lo _ (by decide)) (Int.le_trans (Int.le_of_lt (fmod_hi _ (by decide))) (by decide)) ?k1 ?k2 ?k3 ?k4 ?k5 ?kK ?kd ?ku ?kp ?_; (case kp => first | exact News.isList (by k_asm) (by k_mem) | exact ground_list (by k_asm) (by assumption)); (case hi => assumption); (case hn => first | assumption | omega); (case k1 => k_asm); (case k2 => k_asm); (case k3 => k_asm); (case k4 => k_asm); (case k5 => k_asm); (case kK => first | exact rfl | assumption); (case kd => ktr_room); (case ku => ktr_units)); intro x9 hx9 hl9 t9 h9 tk9 F9 N9; (try k_fold)))
local macro_rules | `(tactic| walk_at "call ref") => `(tactic| (k_here; (with_reducible show wpAny _ _ (call (Value.ref 155) [Value.str _ _, Value.bool _]) _ _ _); k_dflt (refine' Con.useT (kind_con _ _ _ _ (by ktr_rel)) ?k1 ?k2 ?k3 ?k4 ?k5 ?kK ?kd ?ku ?kp ?_; (case kp => trivial); (case k1 => k_asm); (case k2 => k_asm); (case k3 => k_asm); (case k4 => k_asm); (case k5 => k_asm); (case kK => first | exact rfl | assumption); (case kd => ktr_room); (case ku => ktr_units)); intro t9 h9 tk9 F9 N9; (try k_fold)))
local macro_rules | `(tactic| walk_at "call ref") => `(tactic| (k_here; (with_reducible show wpAny _ _ (call (Value.ref 169) [T _ _ _, Value.bool _]) _ _ _); k_dflt (refine' Con.useTup3 (parts_con _ _ _ _ (by ktr_rel) (by first | omega | exact whole_len (by assumption) (by assumption) (by assumption) (by assumption))) ?k1 ?k2 ?k3 ?k4 ?k5 ?kK ?kd ?ku ?kp ?_; (case kp => trivial); (case k1 => k_asm); (case k2 => k_asm); (case k3 => k_asm); (case k4 => k_asm); (case k5 => k_asm); (case kK => first | exact rfl | assumption); (case kd => ktr_room); (case ku => ktr_units)); intro a9 t9 t9' t9'' h9 tk9 F9 N9; (try k_fold)))
local macro_rules | `(tactic| walk_at "call ref") => `(tactic| (k_here; (with_reducible show wpAny _ _ (call (Value.ref 176) [Value.str _ _, T _ (joinS _) _, Value.bool _]) _ _ _); k_dflt (refine' Con.useT (jail_con _ _ _ _ _ _ _ (by assumption) (by first | with_reducible assumption | with_reducible exact NmB.single (by assumption) (by assumption) | with_reducible exact NmB.whole (by assumption) (by assumption) (by assumption) (by assumption) | exact NmB.up (by with_reducible assumption) (by omega))) ?k1 ?k2 ?k3 ?k4 ?k5 ?kK ?kd ?ku ?kp ?_; (case kp => trivial); (case k1 => k_asm); (case k2 => k_asm); (case k3 => k_asm); (case k4 => k_asm); (case k5 => k_asm); (case kK => first | exact rfl | assumption); (case kd => ktr_room); (case ku => ktr_units)); intro t9 h9 tk9 F9 N9; (try k_fold)))
local macro_rules | `(tactic| walk_at "call ref") => `(tactic| (k_here; (with_reducible show wpAny _ _ (call (Value.ref 162) [Value.str _ _, Value.ref _]) _ _ _); k_dflt (refine' Con.useS (spellj_con _ _ _ _ _ _ _ ?hj ?hn ?hv) ?k1 ?k2 ?k3 ?k4 ?k5 ?kK ?kd ?ku ?kp ?_; (case kp => first | exact News.isList (by k_asm) (by k_mem) | exact ground_list (by k_asm) (by assumption)); (case hj => assumption); (case hv => assumption); (case hn => exact (by first | with_reducible assumption | with_reducible exact NmB.single (by assumption) (by assumption) | with_reducible exact NmB.whole (by assumption) (by assumption) (by assumption) (by assumption) | exact NmB.up (by with_reducible assumption) (by omega))); (case k1 => k_asm); (case k2 => k_asm); (case k3 => k_asm); (case k4 => k_asm); (case k5 => k_asm); (case kK => first | exact rfl | assumption); (case kd => ktr_room); (case ku => ktr_units)); intro t9 h9 tk9 F9 N9; (try k_fold)))
local macro_rules | `(tactic| walk_at "call ref") => `(tactic| (k_here; (with_reducible show wpAny _ _ (call (Value.ref 134) [Value.ref _]) _ _ _); k_dflt (refine' Con.useT (commonj_con _ _ _ _ _ _ _ _ ?hj ?hn) ?k1 ?k2 ?k3 ?k4 ?k5 ?kK ?kd ?ku ?kp ?_; (case kp => first | exact News.isList (by k_asm) (by k_mem) | exact ground_list (by k_asm) (by assumption)); (case hj => assumption); (case hn => exact (by first | with_reducible assumption | with_reducible exact NmB.single (by assumption) (by assumption) | with_reducible exact NmB.whole (by assumption) (by assumption) (by assumption) (by assumption) | exact NmB.up (by with_reducible assumption) (by omega))); (case k1 => k_asm); (case k2 => k_asm); (case k3 => k_asm); (case k4 => k_asm); (case k5 => k_asm); (case kK => first | exact rfl | assumption); (case kd => ktr_room); (case ku => ktr_units)); intro t9 h9 tk9 F9 N9; (try k_fold)))
local macro_rules | `(tactic| walk_at "call ref") => `(tactic| (k_here; (with_reducible show wpAny _ _ (call (Value.ref 115) [T _ _ _, T _ _ _]) _ _ _); k_dflt (refine' Con.useT (join_con _ _ _ _ _ _ (by ktr_rel) (by ktr_rel) (by ktr_rel)) ?k1 ?k2 ?k3 ?k4 ?k5 ?kK ?kd ?ku ?kp ?_; (case kp => trivial); (case k1 => k_asm); (case k2 => k_asm); (case k3 => k_asm); (case k4 => k_asm); (case k5 => k_asm); (case kK => first | exact rfl | assumption); (case kd => ktr_room); (case ku => ktr_units)); intro t9 h9 tk9 F9 N9; (try k_fold)))
local macro_rules | `(tactic| walk_at "call ref") => `(tactic| (k_here; (with_reducible show wpAny _ _ (call (Value.ref 129) [T _ _ _]) _ _ _); k_dflt (refine' Con.useT (plain_con _ _ _ _ _ _ ?hj (by ktr_rel) (by omega) (by first | assumption | exact slash_none (by assumption))) ?k1 ?k2 ?k3 ?k4 ?k5 ?kK ?kd ?ku ?kp ?_; (case kp => trivial); (case hj => assumption); (case k1 => k_asm); (case k2 => k_asm); (case k3 => k_asm); (case k4 => k_asm); (case k5 => k_asm); (case kK => first | exact rfl | assumption); (case kd => ktr_room); (case ku => ktr_units)); intro t9 h9 tk9 F9 N9; (try k_fold)))
local macro_rules | `(tactic| walk_at "call ref") => `(tactic| (k_here; (with_reducible show wpAny _ _ (call (Value.ref 150) [Value.ref _, Value.ref _]) _ _ _); k_dflt (refine' Con.useWalk ?hx ?hl ?hz ?h5 ?v0 ?v ?k1 ?k2 ?k3 ?k4 ?k5 ?kK ?kd ?ku ?hm ?ho ?kp ?_; (case k1 => k_asm); (case k2 => k_asm); (case k3 => k_asm); (case k4 => k_asm); (case k5 => k_asm); (case kK => first | exact rfl | assumption); (case kd => ktr_room); (case ku => ktr_units); (case hm => k_mem); (case ho => first | rfl | exact (rfl : _ = listOf (List.toArray []) _)); (case kp => first | exact News.isList (by k_asm) (by k_mem) | exact ground_list (by k_asm) (by assumption)); (case v0 => first | assumption | exact TsAre.nil); (case v => assumption); (case hx => assumption); (case hl => assumption); (case hz => first | assumption | exact (NmB.nil : NmB 0 [])); (case h5 => omega)); intro a9 d9 n9 v9 h9 tk9 hv9 hb9 F9 N9; (try k_fold)))
local macro_rules | `(tactic| walk_at "subscriptTail Name BinOp ref int") => `(tactic| (k_here; (with_reducible show wpAny _ _ (subscriptTail _ _ (Value.ref 136) (Value.int _ _)) _ _ _); k_dflt (refine' item_jailJ ?F ?X ?_; (case F => k_asm); (case X => k_asm)); intro top9 J9 t9 hJ9))
local macro_rules | `(tactic| walk_at "subscriptTail Name Slice ref ref") => `(tactic| (k_here; (with_reducible show wpAny _ _ (subscriptTail _ (Expr.Slice (some _) none (some _) _) (Value.ref _) (Value.ref _)) _ _ _); k_dflt (refine' slice_nums ?F ?N ?l ?i ?n ?p ?k ?x ?_ ?s ?t; (case F => k_asm); (case N => k_asm); (case l => k_mem); (case i => assumption); (case n => first | assumption | omega); (case p => kmk_part); (case k => kmk_part); (case x => first | exact Or.inl rfl | exact Or.inr rfl); (case s => with_unfolding_all rfl); (case t => kmk_pure)); intro D9 h9 zs9 ms9 hi9 hn9 F9 N9 l9; (try k_lt l9)))
local macro_rules | `(tactic| walk_at "eval IfExp") => `(tactic| (k_here; (with_reducible show wpAny _ _ (eval (Expr.IfExp _ (Expr.Subscript _ _ _) (Expr.List _ _) _) _) _ _ _); (fail_if_success (with_reducible rename NumsMark => hmk8)); k_dflt (refine' nums_joinK ?F ?N ?_ ?_; (case F => k_asm); (case N => k_asm))))
local macro_rules | `(tactic| walk_at "NumsH") => `(tactic| ((unfold NumsH); intro hmk9))
local macro_rules | `(tactic| walk_at "RootH") => `(tactic| ((unfold RootH); intro hmk9))
local macro_rules | `(tactic| walk_at "NumsK") => `(tactic| ((unfold NumsK); intro l9 vs9 ns9 n9 h9 tk9 hi9 hn9 F9 N9))
local macro_rules | `(tactic| walk_at "IsNums") => `(tactic| (k_dflt (refine' IsNums.intro ?i ?n ?F ?N; (case F => k_asm); (case N => k_asm); (case i => first | assumption | exact (IntsAre.cons _ _ (IntsAre.cons _ _ (IntsAre.cons _ _ (IntsAre.cons _ _ (IntsAre.cons _ _ (IntsAre.cons _ _ (IntsAre.cons _ _ (IntsAre.cons _ _ (IntsAre.cons _ _ IntsAre.nil)))))))))); (case n => first | omega | decide))))
local macro_rules | `(tactic| walk_at "eval IfExp") => `(tactic| (k_here; (with_reducible show wpAny _ _ (eval (Expr.IfExp _ (Expr.Constant _ _ _) (Expr.Constant _ _ _) _) _) _ _ _); (fail_if_success (with_reducible rename RootMark => hmk8)); k_dflt (refine' root_joinK ?F ?m ?_ ?_; (case F => k_asm); (case m => exact rfl))))
local macro_rules | `(tactic| walk_at "RootK") => `(tactic| ((unfold RootK); intro t9 tk9))
local macro_rules | `(tactic| walk_at "IsRoot") => `(tactic| first | exact IsRoot.two (by assumption) | exact IsRoot.one (by assumption))
local macro_rules | `(tactic| walk_at "call builtin:str.join") => `(tactic| (k_here; (with_reducible show wpAny _ _ (call (Value.builtin "str.join") [Value.str _ _, Value.ref _]) _ _ _); k_dflt (refine' join_s ?l ?v ?b ?_; (case l => exact News.isList (by k_asm) (by k_mem)); (case v => assumption); (case b => exact NmB.weight (by assumption) (by omega))); intro _ _))
local macro_rules | `(tactic| walk_at "call builtin:str.lstrip") => `(tactic| (k_here; (with_reducible show wpAny _ _ (call (Value.builtin "str.lstrip") [Value.str _ _, Value.str _ _]) _ _ _); k_dflt (refine lstrip_s _ (by ktr_rel) ?_); intro _ _))
local macro_rules | `(tactic| walk_at "call builtin:len") => `(tactic| (k_here; (with_reducible show wpAny _ _ (call (Value.builtin "len") [Value.str (st _) _]) _ _ _); k_dflt (refine len_s _ (by first | omega | exact Nat.le_trans (drop_le _) (by omega)) ?_); intro _ _))
local macro_rules | `(tactic| walk_at "compareOp NotEq") => `(tactic| (k_here; refine ne_T_same _ ?_))
local macro_rules | `(tactic| walk_at "compareOp Eq") => `(tactic| (k_here; refine eq_T _ _ (by ktr_rel) (by ktr_rel) ?_))
local macro_rules | `(tactic| walk_at "compareOp Eq") => `(tactic| (k_here; refine eq_plain (by assumption) (by assumption) (by assumption) ?_))
local macro_rules | `(tactic| walk_at "compareOp Eq") => `(tactic| (k_here; refine eq_further (by assumption) (by assumption) (by assumption) (by assumption) (by assumption) (by first | rw [if_pos (by assumption)] | rw [if_neg (by assumption)]) ?_))
local macro_rules | `(tactic| walk_at "compareOp NotEq bool bool") => `(tactic| (k_here; refine ne_bool_same _ ?_))
local macro_rules | `(tactic| walk_at "eval BoolOp") => `(tactic| (k_here; (with_reducible show wpAny _ _ (eval (Expr.BoolOp _ _ _) _) _ _ _); (fail_if_success (with_reducible rename BoolMark => hmk8)); k_dflt (refine' bool_joinK ?F ?a ?t ?_ ?_; (case F => k_asm); (case a => exact rfl); (case t => exact rfl))))
local macro_rules | `(tactic| walk_at "BoolH") => `(tactic| ((unfold BoolH); intro hmk9))
local macro_rules | `(tactic| walk_at "BoolK") => `(tactic| ((unfold BoolK); intro tk9))
local macro_rules | `(tactic| walk_at "IsBoolV") => `(tactic| (refine IsBoolV.of ?_; simp only [*, Bool.not_true, Bool.not_false, Bool.true_or, Bool.false_or, decide_true, decide_false, Bool.or_true, Bool.or_false]))
local macro_rules | `(tactic| walk_at "subscriptTail Name Slice str ref") => `(tactic| (k_here; (with_reducible show wpAny _ _ (subscriptTail _ (Expr.Slice none (some _) none _) _ _) _ _ _); (with_reducible rename Fr _ _ _ _ => F'); (with_reducible rename News _ _ _ _ => N'); k_dflt (refine cutS_ns (j := 1) (s := ⟨_, _, _, _, _⟩) F' N' (by assumption) ?_); intro _ _ _ F' N'))
local macro_rules | `(tactic| walk_at "compareOp NotEq ref ref") => `(tactic| (k_here; (with_reducible show wpAny _ _ (compareOp CmpOp.NotEq (Value.ref _) (Value.ref _)) _ _ _); k_dflt (refine' ne_tup3 ?N ?a ?b ?u ?_; (case N => k_asm); (case a => k_mem); (case b => k_mem); (case u => ktr_units))))
theorem law_holds : PySem.Challenge.rw_ab6018_01.Holds := hd (by
  k_go0
  all_goals (try k_fold)
  k_steps)
end Mine
set_option maxRecDepth 100000 in
set_option maxHeartbeats 8000000 in
theorem PySem.Challenge.cw_ab6018_01_holds : PySem.Challenge.rw_ab6018_01.Holds := by
  exact Mine.law_holds
